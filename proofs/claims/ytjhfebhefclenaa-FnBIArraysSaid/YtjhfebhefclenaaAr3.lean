/-
  WALKS: gozxing.BitArray: ensureCapacity, AppendBit.
-/
import Derived.Test.YtjhfebhefclenaaAr2
import Derived.Test.YtjhfebhefclenaaCan
namespace Go.Proofs.Ytjhfebhefclenaa
open Go.RowKit

theorem size_u32 : (Try.prog.info? 47).map (·.size) = some 1 := by kernel_rfl
theorem wv_one' (xs : List Nat) : ∀ u ∈ wv xs, u.oneCell' = true := fun u hu => by
  simp only [wv, List.mem_map] at hu
  obtain ⟨x, _, rfl⟩ := hu
  rfl
set_option maxRecDepth 100000 in
theorem ensure_any (p g n m : Nat) (l : List Bool) (w : World) (h : ArrG w p g l n) (hn : n ≤ 16384) (hm : m ≤ 16384) (hlm : l.length ≤ m) :
    Calls Try.prog 26 #[.pointer (some ⟨p, 0, none⟩), .int .i64 m] w fun e w' => ∃ g', e = .returned (.tuple #[]) ∧ ArrG w' p g' l (max n m) ∧ Off w w' p g ∧ (g' = g ∨ w.heap.size ≤ g') := by
  have hf := h.fits
  have hl := wordsN_len l n hf
  have hroom := wordsN_room l n m hf hlm
  have c0 : w.cell? ⟨p, 0, none⟩ = some (.slice (some ⟨g, 0, none⟩) ((n + 31) / 32) ((n + 31) / 32)) := by rw [h.head.cell]; rfl
  by_cases hle : m ≤ 32 * ((n + 31) / 32)
  · have e1 : (max n m + 31) / 32 = (n + 31) / 32 := by omega
    have e2 : wordsN l (max n m) = wordsN l n := by rw [← hroom]; unfold roomW; rw [if_pos (by rw [hl]; exact hle)]
    have hA : ArrG w p g l (max n m) := ⟨by rw [e1]; exact h.head, by rw [e2]; exact h.rows, by omega, h.apart⟩
    have HA := Lib.hid hA
    have hN : (n + 31) / 32 ≤ 1000 := by omega
    have hle2 : (m : Int) ≤ ((n + 31) / 32 : Nat) * 32 := by omega
    clear hA h e1 e2 hroom hl hf hlm hle
    generalize (n + 31) / 32 = N at *
    go_enter Try.func26, Try.ntmps26
    go_wp2
    refine bodyPost_end (results_none rfl _ _ _) rfl ?_
    exact ⟨g, rfl, HA.out, Off.refl _ _ _, .inl rfl⟩
  · have e1 : (max n m + 31) / 32 = (m + 31) / 32 := by omega
    have e2 : wordsN l (max n m) = wordsN l n ++ List.replicate ((m + 31) / 32 - (n + 31) / 32) 0 := by rw [← hroom]; unfold roomW; rw [if_neg (by rw [hl]; exact hle), hl]
    have HE1 := Lib.hid e1
    have HE2 := Lib.hid e2
    have HH := Lib.hid h.head
    have HR := Lib.hid h.rows
    have HAp := Lib.hid h.apart
    have hplt := h.head.lt
    have HLN := Lib.hid hl
    have hN : (n + 31) / 32 ≤ 1000 := by omega
    have hMN : (n + 31) / 32 < (m + 31) / 32 := by omega
    have hle2 : ¬ (m : Int) ≤ ((n + 31) / 32 : Nat) * 32 := by omega
    have hmx : l.length ≤ max n m := by omega
    have hmk := makeArray_any m w (by omega)
    have hM : (m + 31) / 32 ≤ 1000 := by omega
    clear h e1 e2 hroom hl hf hlm hle
    generalize (n + 31) / 32 = N at *
    generalize (m + 31) / 32 = M at *
    generalize max n m = nm at *
    go_enter Try.func26, Try.ntmps26
    go_wp2_with fail
    refine hmk.mono ?_
    rintro e w1 ⟨rfl, hX, hb1⟩
    have HX := Lib.hid hX
    have HB1 := Lib.hid hb1
    have c1 := cell_up c0 hb1
    have HR1 := Lib.hid (HR.out.up hb1)
    clear hX hb1 hmk c0
    go_wp2_with (with_reducible refine stop_at (o := ⟨some 20, _, _, _, _, _⟩) ?_)
    refine Lib.hid ?_
    refine wpList_copy_splice (o := ⟨some 20, _, _, _, _, _⟩) rfl _ _ 51 51 rfl 47 Try.underlying51 size_u32 _ _ _ _ _ _ rfl rfl w.heap.size 0 (wv (List.replicate M 0)) 47 HX.out (wv (wordsN l n)) ?_ (fun _ => ⟨rfl, _, rfl, ?_⟩) ?_ (wv_one' _) w.heap.size w HB1.out (Nat.le_refl _) ?_
    · rw [wv_len, HLN.out]; exact (Nat.min_eq_left (Nat.le_of_lt hMN)).symm
    · intro j v hj
      have e : (⟨g, 0, none⟩ : Addr).add j = ⟨g, 0 + j, none⟩ := by unfold Addr.add; split <;> simp_all
      rw [e, HR1.out.cell, Nat.zero_add]
      simpa using hj
    · rw [wv_len, HLN.out, wv_len, List.length_replicate]; omega
    intro w2 HX2 HB2
    have hsp : splice (wv (List.replicate M 0)) 0 (wv (wordsN l n)) = wv (wordsN l nm) := by
      rw [HE2.out]
      unfold splice wv
      rw [List.take_zero, List.nil_append, Nat.zero_add, List.map_append, ← List.map_drop, List.drop_replicate, List.length_map, HLN.out]
    rw [hsp] at HX2
    have HB2 := Lib.hid HB2
    have hp2 := HH.out.up HB2.out
    have c2 : w2.cell? ⟨p, 0, none⟩ = some (.slice (some ⟨g, 0, none⟩) N N) := by rw [hp2.cell]; rfl
    have f2 := hp2.frozen 0
    have HP2 := Lib.hid (hp2.put 0 (.slice (some ⟨w.heap.size, 0, none⟩) M M))
    have hgp : p ≠ w.heap.size := by omega
    have HX3 := Lib.hid (Blk.far (t := 47) (cs := (wv (wordsN l nm)).toArray) HX2.out (p := ⟨p, 0, none⟩) (Ne.symm hgp) (.slice (some ⟨w.heap.size, 0, none⟩) M M))
    have HO := Lib.hid ((Off.of_below HB2.out p g).trans (Off.put1 w2 p g 0 (.slice (some ⟨w.heap.size, 0, none⟩) M M)))
    clear hsp c1 hp2 HX2 HB2
    go_wp2
    refine bodyPost_end (results_none rfl _ _ _) rfl ?_
    exact ⟨w.heap.size, rfl, ⟨by rw [HE1.out]; exact HP2.out, HX3.out, hmx, hgp⟩, HO.out, .inr (Nat.le_refl _)⟩
set_option maxRecDepth 100000 in
theorem appendBit_any (p g n : Nat) (l : List Bool) (b : Bool) (w : World) (h : ArrG w p g l n) (hn : n ≤ 16000) :
    Calls Try.prog 17 #[.pointer (some ⟨p, 0, none⟩), .bool b] w fun e w' => ∃ g', e = .returned (.tuple #[]) ∧ ArrG w' p g' (l ++ [b]) (max n (l.length + 1)) ∧ Off w w' p g ∧ (g' = g ∨ w.heap.size ≤ g') := by
  have hf := h.fits
  have c1 : w.cell? ⟨p, 1, none⟩ = some (.int .i64 l.length) := by rw [h.head.cell]; rfl
  have he := ensure_any p g n (l.length + 1) l w h (by omega) (by omega) (by omega)
  rw [show ((l.length + 1 : Nat) : Int) = (l.length : Int) + 1 by omega] at he
  have hll : l.length ≤ 16000 := by omega
  obtain ⟨N, hN⟩ : ∃ N, N = max n (l.length + 1) := ⟨_, rfl⟩
  rw [← hN] at he ⊢
  have hNl : l.length < N := by omega
  have hNm : N ≤ 16001 := by omega
  clear hN hf h
  go_enter Try.func17, Try.ntmps17
  go_wp2_with fail
  refine he.mono ?_
  rintro e w1 ⟨g1, rfl, hA, hO, hg1⟩
  have HO := Lib.hid hO
  have HG := Lib.hid hg1
  have hl := wordsN_len l N (by omega)
  have d0 : w1.cell? ⟨p, 0, none⟩ = some (.slice (some ⟨g1, 0, none⟩) ((N + 31) / 32) ((N + 31) / 32)) := by rw [hA.head.cell]; rfl
  have d1 : w1.cell? ⟨p, 1, none⟩ = some (.int .i64 l.length) := by rw [hA.head.cell]; rfl
  have fp := hA.head.frozen 1
  have hlt : l.length / 32 < (wordsN l N).length := by omega
  have hM : (N + 31) / 32 ≤ 1000 := by omega
  have hlt2 : l.length / 32 < (N + 31) / 32 := by omega
  clear c1 he hO hg1
  cases b
  · have HP := Lib.hid (hA.head.put 1 (.int .i64 ((l.length : Int) + 1)))
    have HR : Hid (Blk (w1.setCell ⟨p, 1, none⟩ (.int .i64 ((l.length : Int) + 1))) g1 47 (wv (wordsN (l ++ [false]) N)).toArray) := Lib.hid (by rw [← wordsN_nil l N hNl]; exact hA.rows.far (p := ⟨p, 1, none⟩) (Ne.symm hA.apart) _)
    have HO2 := Lib.hid (HO.out.then_ (Off.put1 w1 p g1 1 (.int .i64 ((l.length : Int) + 1))) HG.out)
    have hap := hA.apart
    clear hA hl hlt
    generalize hM' : (N + 31) / 32 = M at *
    have HM := Lib.hid hM'; clear hM'
    go_wp2
    refine bodyPost_end (results_none rfl _ _ _) rfl ?_
    exact ⟨g1, rfl, ⟨by rw [HM.out]; simpa using HP.out, HR.out, by simp; omega, hap⟩, HO2.out, HG.out⟩
  · have d2 : w1.cell? ⟨g1, l.length / 32, none⟩ = some (.int .u32 (((wordsN l N)[l.length / 32] : Nat) : Int)) := by rw [hA.rows.cell, wv_at _ _ hlt]
    have f2 := hA.rows.frozen (l.length / 32)
    have hx := wordsN_lt l N _ (List.getElem_mem hlt)
    have hg : (wordsN l N).getD (l.length / 32) 0 = (wordsN l N)[l.length / 32] := by rw [List.getD, List.getElem?_eq_getElem hlt]; rfl
    have HR : Hid (∀ wr : World, Blk wr g1 47 (wv (wordsN l N)).toArray → Blk (wr.setCell ⟨g1, l.length / 32, none⟩ (.int .u32 (((wordsN l N).getD (l.length / 32) 0 ||| 2 ^ (l.length % 32) : Nat) : Int))) g1 47 (wv (wordsN (l ++ [true]) N)).toArray) := Lib.hid (fun wr hwr => by
      rw [← wordsN_one l N hNl, setW, ← wv_set]; exact hwr.put _ _)
    have HRows := Lib.hid hA.rows
    have HHead := Lib.hid hA.head
    have hap := hA.apart
    rw [hg] at HR
    clear hA hl hg
    generalize (wordsN l N)[l.length / 32] = x at *
    have p1 := pow32 (l.length % 32) (Nat.mod_lt _ (by decide))
    have e1 : bits .or .u32 (x : Int) ((2 ^ (l.length % 32) : Nat) : Int) = ((x ||| 2 ^ (l.length % 32) : Nat) : Int) := u32_or _ _ hx (Nat.pow_lt_pow_right (n := 32) (by decide) (Nat.mod_lt _ (by decide)))
    generalize hM' : (N + 31) / 32 = M at *
    have HM := Lib.hid hM'; clear hM'
    clear hlt
    have i1 : (0 : Int) ≤ (l.length : Int) / 32 := by omega
    have i2 : (l.length : Int) / 32 < (M : Int) := by omega
    have i3 : ((l.length : Int) / 32).toNat = l.length / 32 := by omega
    have i4 : IntKind.i64.wrap ((l.length : Int) / 32) = (l.length : Int) / 32 := by rw [IntKind.wrap_i64]; omega
    have hk : l.length % 32 < 32 := Nat.mod_lt _ (by decide)
    have t2 : Int.tmod (l.length : Int) 32 = ((l.length % 32 : Nat) : Int) := by rw [Int.tmod_eq_emod_of_nonneg (by omega)]; simp
    have t5 : IntKind.u32.wrap ((2 : Int) ^ (l.length % 32)) = ((2 ^ (l.length % 32) : Nat) : Int) := by rw [IntKind.wrap_u32]; exact p1
    generalize l.length % 32 = k at *
    have t3 : IntKind.u64.wrap (k : Int) = (k : Int) := by rw [IntKind.wrap_u64]; omega
    have t4 : min k 32 = k := by omega
    generalize x ||| 2 ^ k = z at *
    generalize 2 ^ k = q at *
    clear p1
    go_wp2_with fail
    refine Can.wp_region_can (fun w' => w'.cell? ⟨p, 0, none⟩ = some (.slice (some ⟨g1, 0, none⟩) M M) ∧ w'.cell? ⟨p, 1, none⟩ = some (.int .i64 l.length) ∧ w'.cell? ⟨g1, l.length / 32, none⟩ = some (.int .u32 (x : Int)) ∧ w'.frozen? ⟨g1, l.length / 32, none⟩ = false) 20 [0, 1, 2, 3, 4, 5, 6, 7, 8, 9, 10, 11, 12, 13, 14, 15, 16, 17, 18, 19, 20] (by kernel_rfl) (by kernel_rfl) (fun _ _ d _ _ h => by cases d <;> exact h) ⟨d0, d1, d2, f2⟩ (fun hHeld => ?_)
    repeat (refine Can.can_pure (v := ?_) rfl rfl (Or.inl ⟨by rfl, ?_⟩) ?_; rotate_left; (focus ((intro w hSw); (try dsimp only at hSw); go_simp; (try with_reducible rfl))); (try simp only [Act.put, List.getElem_toArray, List.getElem_cons_succ, List.getElem_cons_zero, List.setIfInBounds_toArray, List.set_cons_zero, List.set_cons_succ]))
    have g0 := hHeld.2.2.2
    have g1' := hHeld.2.2.1
    refine Can.can_tail rfl rfl (by rfl) (fun K hK => ?_)
    go_simp
    refine hK.out _ _ ?_
    clear hK K
    clear hHeld g0 g1' i1 i2 i3 i4 e1 t2 t3 t4 t5 d0 d2 f2
    obtain ⟨w2, hw2⟩ : ∃ w2, w2 = (w1.setCell ⟨g1, l.length / 32, none⟩ (.int .u32 (z : Int))).drew := ⟨_, rfl⟩
    rw [← hw2]
    have hH2 : Blk w2 p 53 #[.slice (some ⟨g1, 0, none⟩) M M, .int .i64 l.length] := by rw [hw2]; exact (HHead.out.far (p := ⟨g1, l.length / 32, none⟩) hap _).drew
    have hR2 : Blk w2 g1 47 (wv (wordsN (l ++ [true]) N)).toArray := by rw [hw2]; exact (HR.out _ HRows.out).drew
    have HO2 : Hid (Off w w2 p g) := Lib.hid (by rw [hw2]; exact HO.out.then_ ((Off.put2 _ p g1 _ _).trans (Off.drew _ p g1)) HG.out)
    have d3 : w2.cell? ⟨p, 1, none⟩ = some (.int .i64 l.length) := by rw [hH2.cell]; rfl
    have f3 := hH2.frozen 1
    have hsz : w1.heap.size ≤ w2.heap.size := by rw [hw2]; simp [World.setCell, World.drew]
    have HP := Lib.hid (hH2.put 1 (.int .i64 ((l.length : Int) + 1)))
    have HRn := Lib.hid (hR2.far (p := ⟨p, 1, none⟩) (Ne.symm hap) (.int .i64 ((l.length : Int) + 1)))
    have HO3 := Lib.hid (HO2.out.then_ (Off.put1 w2 p g1 1 (.int .i64 ((l.length : Int) + 1))) HG.out)
    clear hw2 hH2 hR2 HO2 HO d1 fp HR HRows HHead
    go_wp2
    refine bodyPost_end (results_none rfl _ _ _) rfl ?_
    exact ⟨g1, rfl, ⟨by rw [HM.out]; simpa using HP.out, HRn.out, by simp; omega, hap⟩, HO3.out, HG.out⟩
end Go.Proofs.Ytjhfebhefclenaa
