/-
  WALK: laws.qrFill: some bits for a version.
-/
import Derived.Test.YtcldipbboidjbaaSh6
import Derived.Test.YtcldipbboidjbaaRw
namespace Go.Proofs.Ytcldipbboidjbaa
open Go.RowKit

set_option maxRecDepth 100000 in
set_option maxHeartbeats 4000000 in
theorem qrFill_any (s : Value) (l : List Int) (v : Nat) (w0 : World) (hs : Rd w0 w0.heap.size s (vals .u8 l)) (hl : ∀ x ∈ l, 0 ≤ x ∧ x < 256) (hll : l.length ≤ 2147483647) (h1 : 1 ≤ v) (h2 : v ≤ 40) :
    Calls Try.prog 7 #[s, .int .i64 v] w0 fun e w' => ∃ s' bits, e = .returned s' ∧ bits.length = 8 * totOf v ∧ RdT w' 4 s' (bv bits) ∧ Below w0.heap.size w0 w' := by
  have hT := specTot_any v w0 h1 h2
  have hT5 := (sizOk h1 h2 (l := 0) (by decide)).2.2.2
  have hTN : 8 * totOf v = 8 * totOf v := rfl
  generalize totOf v = T at *
  obtain ⟨N, hN⟩ : ∃ N, N = 8 * T := ⟨_, rfl⟩
  have e1 : (8 : Int) * (T : Int) = (N : Int) := by omega
  have hN4 : N ≤ 40000 := by omega
  rw [← hN]
  clear hTN hN
  have hmk := fun a => mk_bools N a (by omega)
  obtain ⟨A, cap, rfl, q1, q2, q3⟩ := hs
  rw [vals_len] at q1 q3 ⊢
  have HQ3 := Lib.hid q3; clear q3
  have HL := Lib.hid hl; clear hl
  unfold maxLen at q2
  go_enter Try.func7, Try.ntmps7
  go_wp2_with fail
  refine hT.mono ?_
  rintro e w1 ⟨rfl, hb1⟩
  have HB1 := Lib.hid hb1
  clear hb1 hT
  go_wp2_with fail
  clear hmk
  go_loopw [13] (fun kv wr => ∃ (k : Nat), k ≤ N ∧ kv = .int .i64 (k : Int) ∧ Hid (∃ bits : List Bool, bits.length = N ∧ Blk wr w1.heap.size 4 (bv bits).toArray) ∧ Hid (Below w1.heap.size w1 wr)) (fun kv _ => N - (intOf kv).toNat)
  case atStart => exact ⟨0, by omega, rfl, Lib.hid ⟨List.replicate N false, List.length_replicate, Blk.fresh w1 _ _⟩, Lib.hid (bal (brf w1) _)⟩
  case round =>
    obtain ⟨k, hk, rfl, HBK, HB⟩ := hrel
    by_cases hlt : k < N
    · obtain ⟨bits, hbl, hbk⟩ := HBK.out
      have HNX : Hid (∀ b, ∃ bits' : List Bool, bits'.length = N ∧ Blk (wr.setCell ⟨w1.heap.size, k, none⟩ (.bool b)) w1.heap.size 4 (bv bits').toArray) := Lib.hid (fun b => ⟨bits.set k b, by rw [List.length_set]; exact hbl, by have := hbk.put k (.bool b); rw [bv_set] at this; exact this⟩)
      have HNB : Hid (∀ b, Below w1.heap.size w1 (wr.setCell ⟨w1.heap.size, k, none⟩ (.bool b))) := Lib.hid (fun b => HB.out.setCell (p := ⟨w1.heap.size, k, none⟩) (Nat.le_refl _) _)
      by_cases hl0 : l.length = 0
      · have hz : ¬ 0 < l.length := by omega
        clear hbl hbk HNX HNB
        go_wp2_with fail
        go_roundw
        case rel => exact ⟨k + 1, by omega, by go_num, HBK, HB⟩
        case measure => simp [intOf]; omega
      · have cO : wr.cell? ⟨w1.heap.size, k, none⟩ = some (.bool (bits[k]'(by omega))) := by rw [hbk.cell, List.getElem?_toArray]; exact bv_at bits k (by omega)
        have fO := hbk.frozen k
        generalize bits[k]'(by omega) = old at *
        obtain ⟨bb, off, rfl, hbb, hcb⟩ := HQ3.out (by omega)
        have hsz := HB1.out.size
        have hmod : k / 8 % l.length < l.length := Nat.mod_lt _ (by omega)
        have hx := HL.out _ (List.getElem_mem hmod)
        have cX : wr.cell? ⟨bb, off + k / 8 % l.length, none⟩ = some (.int .u8 l[k / 8 % l.length]) := by
          rw [below_cells HB.out bb _ (by omega), below_cells HB1.out bb _ hbb]
          refine hcb _ _ ?_
          unfold vals
          rw [List.getElem?_map, List.getElem?_eq_getElem hmod]; rfl
        generalize l[k / 8 % l.length] = x at *
        have m1 : Int.tdiv (k : Int) 8 = ((k / 8 : Nat) : Int) := by rw [Int.tdiv_eq_ediv_of_nonneg (by omega)]; simp
        have m2 : (k : Int) / 8 = ((k / 8 : Nat) : Int) := by omega
        have m3 : Int.tmod ((k / 8 : Nat) : Int) (l.length : Int) = ((k / 8 % l.length : Nat) : Int) := by rw [Int.tmod_eq_emod_of_nonneg (by omega)]; simp
        have m4 : ((k / 8 : Nat) : Int) % (l.length : Int) = ((k / 8 % l.length : Nat) : Int) := by simp
        have m5 : Int.tmod (k : Int) 8 = ((k % 8 : Nat) : Int) := by rw [Int.tmod_eq_emod_of_nonneg (by omega)]; simp
        have m6 : (k : Int) % 8 = ((k % 8 : Nat) : Int) := by omega
        have hk8 : k % 8 < 8 := Nat.mod_lt _ (by decide)
        obtain ⟨ix, hix⟩ : ∃ ix, ix = k / 8 % l.length := ⟨_, rfl⟩
        obtain ⟨kd, hkd⟩ : ∃ kd, kd = k / 8 := ⟨_, rfl⟩
        obtain ⟨km, hkm⟩ : ∃ km, km = k % 8 := ⟨_, rfl⟩
        rw [← hix] at m3 m4 cX hmod
        rw [← hkd] at m1 m2 m3 m4
        rw [← hkm] at m5 m6 hk8
        have hkd2 : kd ≤ 5000 := by omega
        have hlz : ¬ ((l.length : Int) = 0) := by omega
        have hlp : 0 < l.length := by omega
        clear hbl hbk hcb hix hkd hkm HBK HB hl0
        go_wp2_with fail
        go_roundw
        case rel => exact ⟨k + 1, by omega, by go_num, Lib.hid (HNX.out _), Lib.hid (HNB.out _)⟩
        case measure => simp [intOf]; omega
    · obtain rfl : N = k := by omega
      obtain ⟨bits, hbl, hbk⟩ := HBK.out
      have HX : Hid (bits.length = N ∧ RdT wr 4 (.slice (some ⟨w1.heap.size, 0, none⟩) N N) (bv bits)) := Lib.hid ⟨hbl, RdT.of_blk hbk (by rw [bv_len]; exact hbl.symm) (by rw [bv_len]; omega) (by unfold maxLen; omega)⟩
      clear hbl hbk HBK
      go_wp2_with fail
      go_ret
      exact ⟨_, bits, rfl, HX.out.1, HX.out.2, bup HB1.out HB.out⟩
end Go.Proofs.Ytcldipbboidjbaa
