/-
  WALKS: the writer of bits: put.
-/
import Derived.Test.YtpjaehljgpopmaaAp1
import Derived.Test.YtpjaehljgpopmaaRo2
import Derived.Test.YtpjaehljgpopmaaFill
namespace Go.Proofs.Ytpjaehljgpopmaa
open Go.RowKit

/-- Pointer p is a writer that has written bits and a text, in a mode. -/
structure WrAt (w : World) (p base : Nat) (bs : List Bool) (txt : ByteArray) (m : Nat) (n : Nat) : Prop where
  own : ∃ v, Blk w p 48 #[v, .string txt, .int .i64 m] ∧ w.ownsRow base 4 1 v n (bv bs)
  len : n = bs.length
  lo : p < base
theorem WrAt.up {w w' : World} {p base : Nat} {bs : List Bool} {txt : ByteArray} {m n : Nat} (h : WrAt w p base bs txt m n) (hb : Below w.heap.size w w') : WrAt w' p base bs txt m n := by
  obtain ⟨⟨v, h1, h2⟩, h3, h4⟩ := h
  exact ⟨⟨v, h1.up hb, own_up h2 hb⟩, h3, h4⟩
theorem own_less {w : World} {base B : Nat} {e : TypeId} {size n : Nat} {v : Value} {xs : List Value} (h : w.ownsRow base e size v n xs) (hB : B ≤ base) : w.ownsRow B e size v n xs := by
  obtain ⟨h1, h2 | ⟨g, cap, cur, hv, hb, r⟩⟩ := h
  · exact ⟨h1, .inl h2⟩
  · exact ⟨h1, .inr ⟨g, cap, cur, hv, by omega, r⟩⟩
theorem own_far {w : World} {base : Nat} {e : TypeId} {size n : Nat} {v : Value} {xs : List Value} (h : w.ownsRow base e size v n xs) {p : Addr} (hp : p.block < base) (u : Value) : (w.setCell p u).ownsRow base e size v n xs := by
  obtain ⟨h1, h2 | ⟨g, cap, cur, hv, hb, hg, r⟩⟩ := h
  · exact ⟨h1, .inl h2⟩
  · exact ⟨h1, .inr ⟨g, cap, cur, hv, hb, (Below.heap_setCell w p u g (by omega)).trans hg, r⟩⟩
theorem bv_app (a b : List Bool) : bv (a ++ b) = bv a ++ bv b := by simp [bv]
/-- What slices of other types read as stays. -/
def KeepT (w w' : World) : Prop := ∀ e v xs, e ≠ 4 → e ≠ 48 → RdT w e v xs → RdT w' e v xs
theorem KeepT.refl (w : World) : KeepT w w := fun _ _ _ _ _ h => h
theorem KeepT.trans {a b c : World} (h : KeepT a b) (k : KeepT b c) : KeepT a c := fun e v xs h1 h2 h3 => k e v xs h1 h2 (h e v xs h1 h2 h3)
theorem KeepT.below {a b : World} (h : Below a.heap.size a b) : KeepT a b := fun _ _ _ _ _ h3 => h3.up h
theorem KeepT.set {w : World} {p : Nat} {cs : Array Value} (h : Blk w p 48 cs) (i : Nat) (u : Value) : KeepT w (w.setCell ⟨p, i, none⟩ u) := fun _ _ _ _ h2 h3 => h3.far (p := ⟨p, i, none⟩) h (fun he => h2 he.symm) u
theorem own_type {w : World} {base : Nat} {e e' : TypeId} {size n : Nat} {v : Value} {xs : List Value} (h : w.ownsRow base e' size v n xs) (he : e ≠ e') : ∀ g, v.ownBlock = some g → ∃ cs t fr, w.heap[g]? = some (.cells cs t fr) ∧ t ≠ e := by
  obtain ⟨h1, ⟨rfl, _⟩ | ⟨g, cap, cur, rfl, hb, hg, r⟩⟩ := h
  · intro g hg; simp [Value.ownBlock] at hg
  · intro g' hg'
    simp only [Value.ownBlock, Option.some.injEq] at hg'
    subst hg'
    exact ⟨_, _, _, hg, fun h => he h.symm⟩
theorem KeepT.grown {w w' : World} {base size n : Nat} {v : Value} {xs : List Value} (h : w.ownsRow base 4 size v n xs) (hg : w.grownBy w' v.ownBlock) : KeepT w w' := fun _ _ _ h1 _ h3 => h3.grown hg (own_type h h1)
theorem putL_part (N many j : Nat) : (List.range (j + 1)).map (fun i => (N / 2 ^ (many - 1 - i)) % 2 == 1) = (List.range j).map (fun i => (N / 2 ^ (many - 1 - i)) % 2 == 1) ++ [(N / 2 ^ (many - 1 - j)) % 2 == 1] := by
  rw [List.range_succ, List.map_append]; rfl
theorem shr_and1 (N k : Nat) (h : N < 9223372036854775808) : (bits .and .i64 ((N : Int) / 2 ^ k) 1 == 1) = ((N / 2 ^ k) % 2 == 1) := by
  have e : (N : Int) / 2 ^ k = ((N / 2 ^ k : Nat) : Int) := by simp
  have hl : N / 2 ^ k < 9223372036854775808 := Nat.lt_of_le_of_lt (Nat.div_le_self _ _) h
  have := i64_and (N / 2 ^ k) 1 hl (by decide)
  rw [e, show (1 : Int) = ((1 : Nat) : Int) from rfl, this, Nat.and_one_is_mod]
  rw [Bool.eq_iff_iff]; simp; omega
set_option maxRecDepth 100000 in
set_option maxHeartbeats 2000000 in
theorem put_any (p base N many n : Nat) (bs : List Bool) (txt : ByteArray) (m B : Nat) (w : World) (h : WrAt w p base bs txt m n) (hN : N < 4294967296) (hm : many ≤ 20) (hn : n ≤ 100000) (hB : B ≤ p) (hbs : base ≤ w.heap.size) :
    Calls Try.prog 15 #[.pointer (some ⟨p, 0, none⟩), .int .i64 N, .int .i64 many] w fun e w' => e = .returned (.tuple #[]) ∧ WrAt w' p base (bs ++ putL N many) txt m (n + many) ∧ Below B w w' ∧ w.heap.size ≤ w'.heap.size ∧ KeepT w w' := by
  obtain ⟨i0, hi0, hz0, hz1, hz2⟩ := info_parts info_bool
  have HWR := Lib.hid h; clear h
  go_enter Try.func15, Try.ntmps15
  go_wp2_with fail
  go_loopw [6] (fun kv wr => ∃ (j : Nat), j ≤ many ∧ kv = .int .i64 ((many : Int) - 1 - j) ∧ Hid (WrAt wr p base (bs ++ (List.range j).map (fun i => (N / 2 ^ (many - 1 - i)) % 2 == 1)) txt m (n + j)) ∧ Hid (Below B w wr) ∧ Hid (w.heap.size ≤ wr.heap.size ∧ KeepT w wr)) (fun kv _ => (intOf kv + 1).toNat)
  case atStart => exact ⟨0, Nat.zero_le _, by simp, by simpa using HWR, Lib.hid (Below.refl _ _), Lib.hid ⟨Nat.le_refl _, KeepT.refl _⟩⟩
  case round =>
    clear HWR
    obtain ⟨j, hj, rfl, HWR, HB, HS⟩ := hrel
    by_cases hlt : j < many
    · obtain ⟨k, hk⟩ : ∃ k, k = many - 1 - j := ⟨_, rfl⟩
      have e1 : (many : Int) - 1 - (j : Int) = (k : Int) := by omega
      rw [e1]
      have hk2 : k ≤ 20 := by omega
      have HL : Hid ((List.range (j + 1)).map (fun i => (N / 2 ^ (many - 1 - i)) % 2 == 1) = (List.range j).map (fun i => (N / 2 ^ (many - 1 - i)) % 2 == 1) ++ [(N / 2 ^ k) % 2 == 1]) := Lib.hid (by rw [hk]; exact putL_part N many j)
      have HK := Lib.hid hk
      have ez : (k : Int) - 1 = (many : Int) - 1 - ((j + 1 : Nat) : Int) := by omega
      have HE := Lib.hid ez
      clear hk e1 ez
      obtain ⟨l2, hl2⟩ : ∃ l, l = (List.range (j + 1)).map (fun i => (N / 2 ^ (many - 1 - i)) % 2 == 1) := ⟨_, rfl⟩
      rw [← hl2] at HL
      have HL2 := Lib.hid hl2; clear hl2
      generalize (List.range j).map (fun i => (N / 2 ^ (many - 1 - i)) % 2 == 1) = l1 at *
      obtain ⟨bb, hbb⟩ : ∃ b, b = ((N / 2 ^ k) % 2 == 1) := ⟨_, rfl⟩
      have eb := shr_and1 N k (by omega)
      rw [← hbb] at eb HL
      clear hbb
      obtain ⟨v, h1, h2⟩ := HWR.out.own
      have hlen := HWR.out.len
      have HN := Lib.hid hlen
      have hlo := HWR.out.lo
      have HH1 := Lib.hid h1
      have HH2 := Lib.hid h2
      have c0 : wr.cell? ⟨p, 0, none⟩ = some v := by rw [h1.cell]; rfl
      have f0 := h1.frozen 0
      clear h1 h2 hlen HWR
      go_wp2_with (with_reducible refine stop_at (o := ⟨some 25, _, _, _, _, _⟩) ?_)
      refine Lib.hid ?_
      clear eb
      refine list_app_rd _ rfl _ _ 30 rfl base 4 i0 _ 1 Try.underlying30 hi0 hz0 hz1 hz2 rfl v (n + j) _ rfl (HH2.out.alloc _) _ _ [.bool bb] rfl (Rd.one rfl _ _) (fun u hu => by simp at hu; subst hu; rfl) (by simp only [List.length_singleton]; unfold maxLen; omega) (by simp only [List.length_singleton]; omega) (by have := HS.out.1; simp; omega) ?_
      intro v1 w3 ho1 hg1
      have ho2 : w3.ownsRow base 4 1 v1 (n + (j + 1)) (bv (bs ++ l2)) := by rw [HL.out, ← List.append_assoc, bv_app]; exact ho1
      obtain ⟨A1, n1, cap1, rfl⟩ : ∃ A n c, v1 = .slice A n c := by obtain ⟨A, c, h, _⟩ := RdT.of_own ho2; exact ⟨_, _, _, h⟩
      clear ho1
      have hB1 : Blk w3 p 48 #[v, .string txt, .int .i64 m] := Blk.grown (HH1.out.alloc _) hg1 (by
        rcases HH2.out.2 with ⟨rfl, _⟩ | ⟨g, cap, cur, rfl, hb', _⟩
        · simp [Value.ownBlock]
        · simp only [Value.ownBlock, ne_eq, Option.some.injEq]; omega)
      have hF1 := hB1.frozen 0
      have c1 : w3.cell? ⟨p, 0, none⟩ = some v := by rw [hB1.cell]; rfl
      have hBB : Below B w w3 := below_grown (HB.out.alloc (by have := HS.out.1; have := HH1.out.lt; omega) _) hg1 (own_less (HH2.out.alloc _) (by omega)) (by have := HS.out.1; have := HH1.out.lt; simp; omega)
      have hsz : w.heap.size ≤ w3.heap.size := Nat.le_trans HS.out.1 (Nat.le_trans (by simp) hg1.size)
      have HO := Lib.hid ho2
      have HB1 := Lib.hid hB1
      have hKT : KeepT w (w3.setCell ⟨p, 0, none⟩ (.slice A1 n1 cap1)) := ((HS.out.2.trans (KeepT.below (bal (brf wr) _))).trans (KeepT.grown (HH2.out.alloc _) hg1)).trans (KeepT.set hB1 0 _)
      have HW := Lib.hid (And.intro hBB (And.intro hsz hKT))
      clear ho2 hg1 hB1 hBB hsz hKT HH1 HH2 HB HS c0 f0
      go_wp2
      go_roundw
      case rel =>
        refine ⟨j + 1, by omega, by rw [HE.out], Lib.hid (by rw [← HL2.out]; exact ⟨⟨_, HB1.out.put 0 _, own_far HO.out (p := ⟨p, 0, none⟩) hlo _⟩, by have := HN.out; rw [HL.out]; simp only [List.length_append, List.length_singleton] at *; omega, hlo⟩), Lib.hid (HW.out.1.setCell (p := ⟨p, 0, none⟩) hB _), Lib.hid ⟨by simpa using HW.out.2.1, HW.out.2.2⟩⟩
      case measure => simp [intOf] <;> omega
    · obtain rfl : j = many := by omega
      go_wp2
      refine bodyPost_end (results_none rfl _ _ _) rfl ?_
      exact ⟨rfl, HWR.out, HB.out, HS.out.1, HS.out.2⟩
end Go.Proofs.Ytpjaehljgpopmaa
