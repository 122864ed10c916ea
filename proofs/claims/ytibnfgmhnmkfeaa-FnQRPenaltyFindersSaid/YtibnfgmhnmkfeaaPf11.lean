/-
  WALK: impl.QRPenalty by rule 3.
-/
import Derived.Test.YtibnfgmhnmkfeaaPf9
import Derived.Test.YtibnfgmhnmkfeaaPf10
namespace Go.Proofs.Ytibnfgmhnmkfeaa
open Go.RowKit

/-- The cells ahead of row Y, and those of row Y ahead of column X. -/
def cpF (f : Nat → Nat → Bool) (X Y a c : Nat) : Bool := if c < Y ∨ (c = Y ∧ a < X) then f a c else false
theorem cpF_zero (f : Nat → Nat → Bool) : cpF f 0 0 = fun _ _ => false := by
  funext a c; unfold cpF; rw [if_neg (by omega)]
theorem cpF_put (f : Nat → Nat → Bool) (X Y : Nat) : putF (cpF f X Y) X Y (f X Y) = cpF f (X + 1) Y := by
  funext a c
  unfold putF cpF
  by_cases h : a = X ∧ c = Y
  · obtain ⟨rfl, rfl⟩ := h; rw [if_pos ⟨rfl, rfl⟩, if_pos (by omega)]
  · rw [if_neg h]
    by_cases h2 : c < Y ∨ (c = Y ∧ a < X)
    · rw [if_pos h2, if_pos (by omega)]
    · rw [if_neg h2, if_neg (by omega)]
theorem rowF_congr (n : Nat) {F F' : Nat → Nat → Bool} (i : Nat) (h : ∀ a, a < n → F a i = F' a i) : rowF n F i = rowF n F' i := by
  apply List.ext_getElem
  · rw [rowF_len, rowF_len]
  · intro j h1 h2
    rw [rowF_len] at h1
    rw [rowF_at, rowF_at, h j h1]
theorem ByteM.congr {w : World} {p g n : Nat} {F F' : Nat → Nat → Bool} (h : ByteM w p g n F) (hf : ∀ a c, a < n → c < n → F a c = F' a c) : ByteM w p g n F' :=
  ⟨h.head, h.rows, fun i hi => by rw [← rowF_congr n i fun a ha => hf a i ha hi]; exact h.row i hi, h.apart⟩
set_option maxRecDepth 100000 in
set_option maxHeartbeats 1000000 in
theorem penalty_any (v : Value) (n : Nat) (f : Nat → Nat → Bool) (w : World) (hv : RowsV w 72 73 v n (fun i => i8v (rowF n f i))) (h0 : 0 < n) (hn : n ≤ 40) :
    Calls Try.prog 10 #[.int .i64 3, v] w fun e w' => e = .returned (.int .i64 ((40 * bothT f n n : Nat) : Int)) ∧ Below w.heap.size w w' := by
  obtain ⟨b0, o0, cap, rfl, m1, m2, HR⟩ := hv.at_ h0
  obtain ⟨u, cu, hu⟩ := HR.out 0 h0
  obtain ⟨b, o, c, rfl, m3, m4, -⟩ := RowsV.cell hu h0
  have cu2 : w.cell? ⟨b0, o0, none⟩ = some (.slice (some ⟨b, o, none⟩) n c) := cu
  have h0i : (0 : Int) < (n : Int) := by omega
  clear hv hu
  go_enter Try.func10, Try.ntmps10
  go_wp2_with fail
  refine (newByte_any n w (by omega)).mono ?_
  rintro e w1 ⟨p, rfl, hM, hb1⟩
  have HM : Hid (ByteM w1 p w.heap.size n (cpF f 0 0)) := Lib.hid (by rw [cpF_zero]; exact hM)
  have HB := Lib.hid hb1
  clear hM hb1 cu cu2
  go_wp2_with fail
  go_loopw [24] (fun yv wr => ∃ y : Nat, y ≤ n ∧ yv = .int .i64 y ∧ Hid (ByteM wr p w.heap.size n (cpF f 0 y)) ∧ Hid (Below w.heap.size w wr)) (fun yv _ => n - (intOf yv).toNat)
  case atStart => exact ⟨0, Nat.zero_le _, rfl, HM, HB⟩
  case round =>
    clear HM HB
    obtain ⟨y, hy, rfl, HM, HB⟩ := hrel
    by_cases hyn : y < n
    · obtain ⟨u, cu, hu⟩ := HR.out y hyn
      obtain ⟨b1, o1, c1, rfl, m5, m6, HC⟩ := RowsV.cell hu h0
      have c2 := cell_up cu HB.out
      clear hu
      go_wp2_with fail
      clear c2
      go_loopw [31] (fun xv wq => ∃ x : Nat, x ≤ n ∧ xv = .int .i64 x ∧ Hid (ByteM wq p w.heap.size n (cpF f x y)) ∧ Hid (Below w.heap.size w wq)) (fun xv _ => n - (intOf xv).toNat)
      case atStart => exact ⟨0, Nat.zero_le _, rfl, HM, HB⟩
      case round =>
        rename World => wq
        clear HM HB
        obtain ⟨x, hx, rfl, HM, HB⟩ := hrel
        by_cases hxn : x < n
        · have r1 := cell_up (HC.out x hxn) HB.out
          have hset := byteSet_any p w.heap.size n x y (cpF f x y) (f x y) (if f x y = true then 1 else 0) wq HM.out rfl hxn hyn
          rw [cpF_put] at hset
          have HP : ∀ j z, Hid (Below w.heap.size w (wq.setCell ⟨w.heap.size + 1 + y, j, none⟩ (.int .i8 z))) := fun j z => Lib.hid (HB.out.setCell (p := ⟨w.heap.size + 1 + y, j, none⟩) (by simp; omega) _)
          have HPP := Lib.hid HP
          clear HM HB HP
          generalize (if f x y = true then (1 : Int) else 0) = z at *
          go_wp2_with fail
          refine hset.mono ?_
          rintro e w3 ⟨j, rfl, hw3, hM3⟩
          have HM3 := Lib.hid hM3
          have HB3 : Hid (Below w.heap.size w w3) := by rw [hw3]; exact HPP.out j z
          clear hM3 hw3 HPP r1 hset
          go_wp2_with fail
          go_roundw
          case rel => exact ⟨x + 1, by omega, by go_num, HM3, HB3⟩
          case measure => simp [intOf]; omega
        · obtain rfl : x = n := by omega
          have HM2 : Hid (ByteM wq p w.heap.size x (cpF f 0 (y + 1))) := Lib.hid (HM.out.congr fun a c ha hc => by
            unfold cpF
            by_cases h2 : c < y ∨ (c = y ∧ a < x)
            · rw [if_pos h2, if_pos (by omega)]
            · rw [if_neg h2, if_neg (by omega)])
          clear HM
          go_wp2_with fail
          go_roundw
          case rel => exact ⟨y + 1, by omega, by go_num, HM2, HB⟩
          case measure => simp [intOf]; omega
    · obtain rfl : y = n := by omega
      have HM2 : Hid (ByteM wr p w.heap.size y f) := Lib.hid (HM.out.congr fun a c ha hc => by unfold cpF; rw [if_pos (by omega)])
      clear HM
      go_wp2_with fail
      refine (rule3_any p w.heap.size y f wr HM2.out (by omega)).mono ?_
      rintro e wr ⟨rfl, rfl⟩
      go_wp2_with fail
      go_ret
      exact ⟨rfl, HB.out⟩
end Go.Proofs.Ytibnfgmhnmkfeaa
