/-
  GROUND AND WALKS: versions of QR codes: their table, what one is in memory, NewVersion.
-/
import Derived.Test.YtjkfkkenaiodoaaBase
import Derived.Test.YtjkfkkenaiodoaaCan
namespace Go.Proofs.Ytjkfkkenaiodoaa
open Go.RowKit

/-- Middles of alignment patterns; for each level: error correction words of a block, and blocks (how many, data words). -/
def verT : Nat → List Nat × List (Nat × List (Nat × Nat))
  | 1 => ([], [(7, [(1, 19)]), (10, [(1, 16)]), (13, [(1, 13)]), (17, [(1, 9)])])
  | 2 => ([6, 18], [(10, [(1, 34)]), (16, [(1, 28)]), (22, [(1, 22)]), (28, [(1, 16)])])
  | 3 => ([6, 22], [(15, [(1, 55)]), (26, [(1, 44)]), (18, [(2, 17)]), (22, [(2, 13)])])
  | 4 => ([6, 26], [(20, [(1, 80)]), (18, [(2, 32)]), (26, [(2, 24)]), (16, [(4, 9)])])
  | 5 => ([6, 30], [(26, [(1, 108)]), (24, [(2, 43)]), (18, [(2, 15), (2, 16)]), (22, [(2, 11), (2, 12)])])
  | 6 => ([6, 34], [(18, [(2, 68)]), (16, [(4, 27)]), (24, [(4, 19)]), (28, [(4, 15)])])
  | 7 => ([6, 22, 38], [(20, [(2, 78)]), (18, [(4, 31)]), (18, [(2, 14), (4, 15)]), (26, [(4, 13), (1, 14)])])
  | 8 => ([6, 24, 42], [(24, [(2, 97)]), (22, [(2, 38), (2, 39)]), (22, [(4, 18), (2, 19)]), (26, [(4, 14), (2, 15)])])
  | 9 => ([6, 26, 46], [(30, [(2, 116)]), (22, [(3, 36), (2, 37)]), (20, [(4, 16), (4, 17)]), (24, [(4, 12), (4, 13)])])
  | 10 => ([6, 28, 50], [(18, [(2, 68), (2, 69)]), (26, [(4, 43), (1, 44)]), (24, [(6, 19), (2, 20)]), (28, [(6, 15), (2, 16)])])
  | 11 => ([6, 30, 54], [(20, [(4, 81)]), (30, [(1, 50), (4, 51)]), (28, [(4, 22), (4, 23)]), (24, [(3, 12), (8, 13)])])
  | 12 => ([6, 32, 58], [(24, [(2, 92), (2, 93)]), (22, [(6, 36), (2, 37)]), (26, [(4, 20), (6, 21)]), (28, [(7, 14), (4, 15)])])
  | 13 => ([6, 34, 62], [(26, [(4, 107)]), (22, [(8, 37), (1, 38)]), (24, [(8, 20), (4, 21)]), (22, [(12, 11), (4, 12)])])
  | 14 => ([6, 26, 46, 66], [(30, [(3, 115), (1, 116)]), (24, [(4, 40), (5, 41)]), (20, [(11, 16), (5, 17)]), (24, [(11, 12), (5, 13)])])
  | 15 => ([6, 26, 48, 70], [(22, [(5, 87), (1, 88)]), (24, [(5, 41), (5, 42)]), (30, [(5, 24), (7, 25)]), (24, [(11, 12), (7, 13)])])
  | 16 => ([6, 26, 50, 74], [(24, [(5, 98), (1, 99)]), (28, [(7, 45), (3, 46)]), (24, [(15, 19), (2, 20)]), (30, [(3, 15), (13, 16)])])
  | 17 => ([6, 30, 54, 78], [(28, [(1, 107), (5, 108)]), (28, [(10, 46), (1, 47)]), (28, [(1, 22), (15, 23)]), (28, [(2, 14), (17, 15)])])
  | 18 => ([6, 30, 56, 82], [(30, [(5, 120), (1, 121)]), (26, [(9, 43), (4, 44)]), (28, [(17, 22), (1, 23)]), (28, [(2, 14), (19, 15)])])
  | 19 => ([6, 30, 58, 86], [(28, [(3, 113), (4, 114)]), (26, [(3, 44), (11, 45)]), (26, [(17, 21), (4, 22)]), (26, [(9, 13), (16, 14)])])
  | 20 => ([6, 34, 62, 90], [(28, [(3, 107), (5, 108)]), (26, [(3, 41), (13, 42)]), (30, [(15, 24), (5, 25)]), (28, [(15, 15), (10, 16)])])
  | 21 => ([6, 28, 50, 72, 94], [(28, [(4, 116), (4, 117)]), (26, [(17, 42)]), (28, [(17, 22), (6, 23)]), (30, [(19, 16), (6, 17)])])
  | 22 => ([6, 26, 50, 74, 98], [(28, [(2, 111), (7, 112)]), (28, [(17, 46)]), (30, [(7, 24), (16, 25)]), (24, [(34, 13)])])
  | 23 => ([6, 30, 54, 78, 102], [(30, [(4, 121), (5, 122)]), (28, [(4, 47), (14, 48)]), (30, [(11, 24), (14, 25)]), (30, [(16, 15), (14, 16)])])
  | 24 => ([6, 28, 54, 80, 106], [(30, [(6, 117), (4, 118)]), (28, [(6, 45), (14, 46)]), (30, [(11, 24), (16, 25)]), (30, [(30, 16), (2, 17)])])
  | 25 => ([6, 32, 58, 84, 110], [(26, [(8, 106), (4, 107)]), (28, [(8, 47), (13, 48)]), (30, [(7, 24), (22, 25)]), (30, [(22, 15), (13, 16)])])
  | 26 => ([6, 30, 58, 86, 114], [(28, [(10, 114), (2, 115)]), (28, [(19, 46), (4, 47)]), (28, [(28, 22), (6, 23)]), (30, [(33, 16), (4, 17)])])
  | 27 => ([6, 34, 62, 90, 118], [(30, [(8, 122), (4, 123)]), (28, [(22, 45), (3, 46)]), (30, [(8, 23), (26, 24)]), (30, [(12, 15), (28, 16)])])
  | 28 => ([6, 26, 50, 74, 98, 122], [(30, [(3, 117), (10, 118)]), (28, [(3, 45), (23, 46)]), (30, [(4, 24), (31, 25)]), (30, [(11, 15), (31, 16)])])
  | 29 => ([6, 30, 54, 78, 102, 126], [(30, [(7, 116), (7, 117)]), (28, [(21, 45), (7, 46)]), (30, [(1, 23), (37, 24)]), (30, [(19, 15), (26, 16)])])
  | 30 => ([6, 26, 52, 78, 104, 130], [(30, [(5, 115), (10, 116)]), (28, [(19, 47), (10, 48)]), (30, [(15, 24), (25, 25)]), (30, [(23, 15), (25, 16)])])
  | 31 => ([6, 30, 56, 82, 108, 134], [(30, [(13, 115), (3, 116)]), (28, [(2, 46), (29, 47)]), (30, [(42, 24), (1, 25)]), (30, [(23, 15), (28, 16)])])
  | 32 => ([6, 34, 60, 86, 112, 138], [(30, [(17, 115)]), (28, [(10, 46), (23, 47)]), (30, [(10, 24), (35, 25)]), (30, [(19, 15), (35, 16)])])
  | 33 => ([6, 30, 58, 86, 114, 142], [(30, [(17, 115), (1, 116)]), (28, [(14, 46), (21, 47)]), (30, [(29, 24), (19, 25)]), (30, [(11, 15), (46, 16)])])
  | 34 => ([6, 34, 62, 90, 118, 146], [(30, [(13, 115), (6, 116)]), (28, [(14, 46), (23, 47)]), (30, [(44, 24), (7, 25)]), (30, [(59, 16), (1, 17)])])
  | 35 => ([6, 30, 54, 78, 102, 126, 150], [(30, [(12, 121), (7, 122)]), (28, [(12, 47), (26, 48)]), (30, [(39, 24), (14, 25)]), (30, [(22, 15), (41, 16)])])
  | 36 => ([6, 24, 50, 76, 102, 128, 154], [(30, [(6, 121), (14, 122)]), (28, [(6, 47), (34, 48)]), (30, [(46, 24), (10, 25)]), (30, [(2, 15), (64, 16)])])
  | 37 => ([6, 28, 54, 80, 106, 132, 158], [(30, [(17, 122), (4, 123)]), (28, [(29, 46), (14, 47)]), (30, [(49, 24), (10, 25)]), (30, [(24, 15), (46, 16)])])
  | 38 => ([6, 32, 58, 84, 110, 136, 162], [(30, [(4, 122), (18, 123)]), (28, [(13, 46), (32, 47)]), (30, [(48, 24), (14, 25)]), (30, [(42, 15), (32, 16)])])
  | 39 => ([6, 26, 54, 82, 110, 138, 166], [(30, [(20, 117), (4, 118)]), (28, [(40, 47), (7, 48)]), (30, [(43, 24), (22, 25)]), (30, [(10, 15), (67, 16)])])
  | 40 => ([6, 30, 58, 86, 114, 142, 170], [(30, [(19, 118), (6, 119)]), (28, [(18, 47), (31, 48)]), (30, [(34, 24), (34, 25)]), (30, [(20, 15), (61, 16)])])
  | _ => ([], [])
def nvl (l : List Nat) : List Value := l.map fun n : Nat => Value.int .i64 (n : Int)
theorem nvl_len (l : List Nat) : (nvl l).length = l.length := by simp [nvl]
theorem nvl_at (l : List Nat) (i : Nat) (h : i < l.length) : (nvl l)[i]? = some (.int .i64 ((l[i] : Nat) : Int)) := by simp [nvl, h]
theorem nvl_one (l : List Nat) : ∀ u ∈ nvl l, u.oneCell' = true := fun u hu => by
  simp only [nvl, List.mem_map] at hu
  obtain ⟨x, _, rfl⟩ := hu
  rfl
def cellsE (ps : List (Nat × Nat)) : List Value := ps.flatMap fun p => [Value.int .i64 ((p.1 : Nat) : Int), Value.int .i64 ((p.2 : Nat) : Int)]
theorem cellsE_at (ps : List (Nat × Nat)) (k : Nat) (h : k < ps.length) : (cellsE ps)[k * 2]? = some (.int .i64 ((ps[k].1 : Nat) : Int)) ∧ (cellsE ps)[k * 2 + 1]? = some (.int .i64 ((ps[k].2 : Nat) : Int)) := by
  induction ps generalizing k with
  | nil => simp at h
  | cons p ps ih =>
    rcases k with _ | k
    · simp [cellsE]
    · have e : cellsE (p :: ps) = [Value.int .i64 ((p.1 : Nat) : Int), Value.int .i64 ((p.2 : Nat) : Int)] ++ cellsE ps := rfl
      have h' : k < ps.length := by simpa using h
      obtain ⟨h1, h2⟩ := ih k h'
      rw [e]
      constructor
      · rw [List.getElem?_append_right (by simp; omega)]
        have : (k + 1) * 2 - [Value.int .i64 ((p.1 : Nat) : Int), Value.int .i64 ((p.2 : Nat) : Int)].length = k * 2 := by simp; omega
        rw [this]; exact h1
      · rw [List.getElem?_append_right (by simp; omega)]
        have : (k + 1) * 2 + 1 - [Value.int .i64 ((p.1 : Nat) : Int), Value.int .i64 ((p.2 : Nat) : Int)].length = k * 2 + 1 := by simp; omega
        rw [this]; exact h2
/-- All words of blocks. -/
def totE (e : Nat) : List (Nat × Nat) → Nat
  | [] => 0
  | p :: r => p.1 * (p.2 + e) + totE e r
theorem totE_snoc (e : Nat) (r : List (Nat × Nat)) (p : Nat × Nat) : totE e (r ++ [p]) = totE e r + p.1 * (p.2 + e) := by
  induction r with
  | nil => simp [totE]
  | cons q r ih => rw [List.cons_append, totE, ih, totE]; omega
/-- Pointer p is the version v. -/
structure VerIs (w : World) (p v : Nat) (cs : List Nat) (vc : Value) (ge g0 g1 g2 g3 e0 e1 e2 e3 : Nat) (l0 l1 l2 l3 : List (Nat × Nat)) : Prop where
  tab : verT v = (cs, [(e0, l0), (e1, l1), (e2, l2), (e3, l3)])
  head : Blk w p 123 #[.int .i64 v, vc, .slice (some ⟨ge, 0, none⟩) 4 4, .int .i64 ((totE e0 l0 : Nat) : Int)]
  mid : RdT w 3 vc (nvl cs)
  levels : Blk w ge 102 #[.int .i64 e0, .slice (some ⟨g0, 0, none⟩) l0.length l0.length, .int .i64 e1, .slice (some ⟨g1, 0, none⟩) l1.length l1.length, .int .i64 e2, .slice (some ⟨g2, 0, none⟩) l2.length l2.length, .int .i64 e3, .slice (some ⟨g3, 0, none⟩) l3.length l3.length]
  b0 : Blk w g0 99 (cellsE l0).toArray
  b1 : Blk w g1 99 (cellsE l1).toArray
  b2 : Blk w g2 99 (cellsE l2).toArray
  b3 : Blk w g3 99 (cellsE l3).toArray
def VerAt (w : World) (p v : Nat) : Prop := ∃ cs vc ge g0 g1 g2 g3 e0 e1 e2 e3 l0 l1 l2 l3, VerIs w p v cs vc ge g0 g1 g2 g3 e0 e1 e2 e3 l0 l1 l2 l3
theorem VerAt.up {w w' : World} {p v : Nat} (h : VerAt w p v) (hb : Below w.heap.size w w') : VerAt w' p v := by
  obtain ⟨cs, vc, ge, g0, g1, g2, g3, e0, e1, e2, e3, l0, l1, l2, l3, h⟩ := h
  exact ⟨cs, vc, ge, g0, g1, g2, g3, e0, e1, e2, e3, l0, l1, l2, l3, h.tab, h.head.up hb, h.mid.up hb, h.levels.up hb, h.b0.up hb, h.b1.up hb, h.b2.up hb, h.b3.up hb⟩

theorem ecWords_any (b o : Nat) (e : Int) (w : World) (hc : w.cell? ⟨b, o, none⟩ = some (.int .i64 e)) :
    Calls Try.prog 54 #[.pointer (some ⟨b, o, none⟩)] w fun e' w' => e' = .returned (.int .i64 e) ∧ w' = w := by
  go_enter Try.func54, Try.ntmps54
  go_wp2
  go_ret
  exact ⟨rfl, rfl⟩
theorem ecBlocks_any (b o : Nat) (v : Value) (w : World) (hc : w.cell? ⟨b, o + 1, none⟩ = some v) :
    Calls Try.prog 55 #[.pointer (some ⟨b, o, none⟩)] w fun e' w' => e' = .returned v ∧ w' = w := by
  go_enter Try.func55, Try.ntmps55
  go_wp2
  go_ret
  exact ⟨rfl, rfl⟩
theorem ecCount_any (a b : Int) (w : World) :
    Calls Try.prog 56 #[.agg #[.int .i64 a, .int .i64 b]] w fun e' w' => e' = .returned (.int .i64 a) ∧ Below w.heap.size w w' := by
  go_enter Try.func56, Try.ntmps56
  go_wp2
  go_ret
  exact ⟨rfl, bal (brf w) _⟩
theorem ecData_any (a b : Int) (w : World) :
    Calls Try.prog 57 #[.agg #[.int .i64 a, .int .i64 b]] w fun e' w' => e' = .returned (.int .i64 b) ∧ Below w.heap.size w w' := by
  go_enter Try.func57, Try.ntmps57
  go_wp2
  go_ret
  exact ⟨rfl, bal (brf w) _⟩
set_option maxRecDepth 100000 in
set_option maxHeartbeats 1000000 in
theorem newVersion_any (v : Nat) (A : Option Addr) (cn cc : Nat) (ge g0 e0 : Nat) (ps : List (Nat × Nat)) (w : World) (hc0 : w.cell? ⟨ge, 0, none⟩ = some (.int .i64 e0)) (hc1 : w.cell? ⟨ge, 1, none⟩ = some (.slice (some ⟨g0, 0, none⟩) ps.length ps.length)) (hge : ge < w.heap.size)
    (hb : Blk w g0 99 (cellsE ps).toArray) (he : e0 ≤ 100) (hl : ps.length ≤ 10) (hp : ∀ p ∈ ps, p.1 ≤ 200 ∧ p.2 ≤ 200) :
    Calls Try.prog 48 #[.int .i64 v, .slice A cn cc, .slice (some ⟨ge, 0, none⟩) 4 4] w fun e w' => ∃ p, e = .returned (.pointer (some ⟨p, 0, none⟩)) ∧
      Blk w' p 123 #[.int .i64 v, .slice A cn cc, .slice (some ⟨ge, 0, none⟩) 4 4, .int .i64 ((totE e0 ps : Nat) : Int)] ∧ w.heap.size ≤ p ∧ Below w.heap.size w w' := by
  have HP := Lib.hid hp; clear hp
  go_enter Try.func48, Try.ntmps48
  go_wp2_with fail
  refine (ecWords_any ge 0 e0 _ hc0).mono ?_
  rintro e w ⟨rfl, rfl⟩
  go_wp2_with fail
  refine (ecBlocks_any ge 0 _ _ hc1).mono ?_
  rintro e w ⟨rfl, rfl⟩
  go_wp2_with fail
  clear hc0 hc1
  go_loopw [7, 20] (fun tv kv wr => ∃ (k t : Nat), k ≤ ps.length ∧ kv = .int .i64 k ∧ tv = .int .i64 t ∧ t ≤ 60000 * k ∧ Hid (t = totE e0 (ps.take k)) ∧ Hid (Below w.heap.size w wr)) (fun _ kv _ => ps.length - (intOf kv).toNat)
  case atStart => exact ⟨0, 0, Nat.zero_le _, rfl, rfl, by omega, Lib.hid rfl, Lib.hid (brf w)⟩
  case round =>
    obtain ⟨k, t, hk, rfl, rfl, ht, HT, HB⟩ := hrel
    by_cases hlt : k < ps.length
    · obtain ⟨h1, h2⟩ := cellsE_at ps k hlt
      have c1 : wr.cell? ⟨g0, k * 2, none⟩ = some (.int .i64 ((ps[k].1 : Nat) : Int)) := by rw [(hb.up HB.out).cell, List.getElem?_toArray]; exact h1
      have c2 : wr.cell? ⟨g0, k * 2 + 1, none⟩ = some (.int .i64 ((ps[k].2 : Nat) : Int)) := by rw [(hb.up HB.out).cell, List.getElem?_toArray]; exact h2
      have hpk := HP.out _ (List.getElem_mem hlt)
      have hts := totE_snoc e0 (ps.take k) ps[k]
      rw [← List.take_succ_eq_append_getElem hlt, ← HT.out] at hts
      clear h1 h2
      generalize ps[k] = q at *
      obtain ⟨q1, q2⟩ := q
      simp only at c1 c2 hpk hts
      have hmul : (q1 : Int) * ((q2 : Int) + (e0 : Int)) = ((q1 * (q2 + e0) : Nat) : Int) := by simp
      have hml : q1 * (q2 + e0) ≤ 200 * 300 := Nat.mul_le_mul hpk.1 (by omega)
      have HTS := Lib.hid hts; clear hts
      generalize q1 * (q2 + e0) = m at *
      have hw1 : IntKind.i64.wrap ((q2 : Int) + (e0 : Int)) = (q2 : Int) + (e0 : Int) := by rw [IntKind.wrap_i64]; omega
      have hw2 : IntKind.i64.wrap (m : Int) = (m : Int) := by rw [IntKind.wrap_i64]; omega
      have hw3 : IntKind.i64.wrap ((t : Int) + (m : Int)) = (t : Int) + (m : Int) := by rw [IntKind.wrap_i64]; omega
      go_wp2_with fail
      refine Can.wp_region_can (fun w' => w'.cell? ⟨wr.heap.size, 0, none⟩ = some (.int .i64 q1) ∧ w'.cell? ⟨wr.heap.size, 1, none⟩ = some (.int .i64 q2) ∧ Below wr.heap.size wr w') 999 [0, 1, 3, 5, 2, 4, 6, 7, 8, 9] (by kernel_rfl) (by kernel_rfl) (fun _ _ d _ _ h => by cases d <;> exact h) ⟨by simp, by simp, bdr (bal (brf _) _)⟩ (fun hHeld => ?_)
      repeat (refine Can.can_pure (v := ?_) rfl rfl (Or.inl ⟨by rfl, ?_⟩) ?_; rotate_left; (focus ((intro w hSw); (try dsimp only at hSw); go_simp; (try with_reducible rfl))); (try simp only [Act.put, List.getElem_toArray, List.getElem_cons_succ, List.getElem_cons_zero, List.setIfInBounds_toArray, List.set_cons_zero, List.set_cons_succ]))
      refine Can.can_eff rfl rfl (by rfl) (fun K hK => ?_)
      go_simp
      refine (ecCount_any _ _ _).mono ?_
      rintro e w1 ⟨rfl, hb1⟩
      refine hK.out _ _ ⟨cell_up hHeld.1 hb1, cell_up hHeld.2.1 hb1, bup hHeld.2.2 hb1⟩ (fun hHeld1 => ?_)
      clear hK K
      (try simp only [Act.put, List.getElem_toArray, List.getElem_cons_succ, List.getElem_cons_zero, List.setIfInBounds_toArray, List.set_cons_zero, List.set_cons_succ])
      repeat (refine Can.can_pure (v := ?_) rfl rfl (Or.inl ⟨by rfl, ?_⟩) ?_; rotate_left; (focus ((intro w hSw); (try dsimp only at hSw); go_simp; (try with_reducible rfl))); (try simp only [Act.put, List.getElem_toArray, List.getElem_cons_succ, List.getElem_cons_zero, List.setIfInBounds_toArray, List.set_cons_zero, List.set_cons_succ]))
      clear hHeld hb1
      refine Can.can_eff rfl rfl (by rfl) (fun K hK => ?_)
      go_simp
      refine (ecData_any _ _ _).mono ?_
      rintro e w2 ⟨rfl, hb2⟩
      refine hK.out _ _ ⟨cell_up hHeld1.1 hb2, cell_up hHeld1.2.1 hb2, bup hHeld1.2.2 hb2⟩ (fun hHeld2 => ?_)
      clear hK K
      (try simp only [Act.put, List.getElem_toArray, List.getElem_cons_succ, List.getElem_cons_zero, List.setIfInBounds_toArray, List.set_cons_zero, List.set_cons_succ])
      repeat (refine Can.can_pure (v := ?_) rfl rfl (Or.inl ⟨by rfl, ?_⟩) ?_; rotate_left; (focus ((intro w hSw); (try dsimp only at hSw); go_simp; (try with_reducible rfl))); (try simp only [Act.put, List.getElem_toArray, List.getElem_cons_succ, List.getElem_cons_zero, List.setIfInBounds_toArray, List.set_cons_zero, List.set_cons_succ]))
      refine Can.can_done ?_
      have HB2 := Lib.hid (bup HB.out hHeld2.2.2)
      have HT2 : Hid (t + m = totE e0 (ps.take (k + 1))) := Lib.hid HTS.out.symm
      clear hHeld1 hHeld2 hb2 hw1 hw2 hw3 c1 c2 hmul HB HT
      go_wp2
      go_roundw
      case rel => exact ⟨k + 1, t + m, by omega, by go_num, by go_num, by omega, HT2, HB2⟩
      case measure => simp [intOf]; omega
    · obtain rfl : k = ps.length := by omega
      go_wp2
      go_ret
      refine ⟨_, rfl, ?_, HB.out.size, bal HB.out _⟩
      have hT := HT.out
      rw [List.take_length] at hT
      rw [← hT]
      exact Blk.fresh wr _ _
end Go.Proofs.Ytjkfkkenaiodoaa
