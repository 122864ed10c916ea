/-
  WALKS: qrcode.ExtractPureBits, impl.taken, impl.QRPureBits: of a picture of a symbol, and of a blank one.
-/
import Derived.Test.YtcldipbboidjbaaRqD
import Derived.Test.YtcldipbboidjbaaTu4
namespace Go.Proofs.Ytcldipbboidjbaa
open Go.RowKit

set_option maxRecDepth 100000 in
set_option maxHeartbeats 4000000 in
theorem extract_blank (q : Value) (p g W H : Nat) (f : Nat → Nat → Bool) (w : World) (h : MatZ w p g W H f) (hW : W ≤ 2000) (hH : H ≤ 2000) (h1 : ∀ x y, y < H → x < W → f x y = false) :
    Calls Try.prog 45 #[q, .pointer (some ⟨p, 0, none⟩)] w fun e w' => (∃ t x, e = .returned (.tuple #[.pointer none, .iface t x])) ∧ Below w.heap.size w w' := by
  have hTL := topLeft_blank p g W H f w h hW hH h1
  have HBR := Lib.hid (fun w' (hm : MatZ w' p g W H f) => bottomRight_blank p g W H f w' hm hW hH h1)
  have HM := Lib.hid h
  clear h h1
  have hnil := fun w' => Lib.run_eql_slice_nil (P := Try.prog) w' 87 3 none 0 0 0 0 Try.underlying87
  go_enter Try.func45, Try.ntmps45
  go_wp2_with fail
  refine hTL.mono ?_
  rintro e w1 ⟨rfl, hw1⟩
  have hbr := HBR.out w1 (HM.out.up hw1)
  have HB1 := Lib.hid hw1
  clear hTL hw1 HBR
  go_wp2_with fail
  refine hbr.mono ?_
  rintro e w2 ⟨rfl, hw2⟩
  have HB2 := Lib.hid (bup HB1.out hw2)
  clear hbr hw2
  go_wp2_with fail
  refine (notFoundE_any _ _).mono ?_
  rintro e w3 ⟨⟨t, x, rfl⟩, hw3⟩
  have HB3 := Lib.hid (bup HB2.out hw3)
  clear hw3 hnil
  go_wp2_with fail
  go_ret2
  exact ⟨⟨t, x, rfl⟩, HB3.out⟩
theorem exPure_any (p g W H x0 y0 s n bb xr : Nat) (f F : Nat → Nat → Bool) (w : World) (h : MatZ w p g W H f) (hp : PicOk W H x0 y0 s n bb xr f F) :
    Calls Try.prog 26 #[.pointer (some ⟨p, 0, none⟩)] w fun e w' => ∃ p2 g2, e = .returned (.tuple #[.pointer (some ⟨p2, 0, none⟩), .nilIface]) ∧ MatAt w' p2 g2 n n F ∧ Below w.heap.size w w' := by
  have HX := Lib.hid (fun q w' (hb : Below w.heap.size w w') => extract_any q p g W H x0 y0 s n bb xr f F w' (h.up hb) hp)
  clear h hp
  go_enter Try.func26, Try.ntmps26
  go_wp2_with fail
  refine (HX.out _ _ (bal (brf w) _)).mono ?_
  rintro e w1 ⟨p2, g2, rfl, hm, hb⟩
  have HM := Lib.hid hm; have HB := Lib.hid ((bal (brf w) _).trans (hb.mono (by simp)))
  clear hm hb
  go_wp2_with fail
  go_ret2
  exact ⟨p2, g2, rfl, HM.out, HB.out⟩
theorem exPure_blank (p g W H : Nat) (f : Nat → Nat → Bool) (w : World) (h : MatZ w p g W H f) (hW : W ≤ 2000) (hH : H ≤ 2000) (h1 : ∀ x y, y < H → x < W → f x y = false) :
    Calls Try.prog 26 #[.pointer (some ⟨p, 0, none⟩)] w fun e w' => (∃ t x, e = .returned (.tuple #[.pointer none, .iface t x])) ∧ Below w.heap.size w w' := by
  have HX := Lib.hid (fun q w' (hb : Below w.heap.size w w') => extract_blank q p g W H f w' (h.up hb) hW hH h1)
  clear h h1
  go_enter Try.func26, Try.ntmps26
  go_wp2_with fail
  refine (HX.out _ _ (bal (brf w) _)).mono ?_
  rintro e w1 ⟨⟨t, x, rfl⟩, hb⟩
  have HB := Lib.hid ((bal (brf w) _).trans (hb.mono (by simp)))
  clear hb
  go_wp2_with fail
  go_ret2
  exact ⟨⟨t, x, rfl⟩, HB.out⟩
theorem taken_no (t : TypeId) (x : Value) (w : World) : Calls Try.prog 25 #[.pointer none, .iface t x] w fun e w' => e = .returned (.tuple #[.slice none 0 0, .bool false]) ∧ Below w.heap.size w w' := by
  go_enter Try.func25, Try.ntmps25
  go_wp2_with fail
  go_ret2
  exact ⟨rfl, brf w⟩
theorem bitOf_rowsF (W H : Nat) (f : Nat → Nat → Bool) (x y : Nat) (hx : x < W) (hy : y < H) : bitOf (rowsF W H f) x y = f x y := by
  unfold bitOf
  rw [rowsF_at _ _ _ _ hy, List.getD, List.getElem?_eq_getElem (by rw [rowF_len]; exact hx), Option.getD_some, rowF_at]
theorem rowsF_all_len (W H : Nat) (f : Nat → Nat → Bool) : ∀ r ∈ rowsF W H f, r.length = W := fun r hr => by
  unfold rowsF at hr
  obtain ⟨y, _, rfl⟩ := List.mem_map.1 hr
  simp
theorem pureBits_any (v : Value) (W H x0 y0 s n bb xr : Nat) (f F : Nat → Nat → Bool) (w : World) (hv : RowsT w v (rowsF W H f)) (hp : PicOk W H x0 y0 s n bb xr f F) :
    Calls Try.prog 13 #[v] w fun e w' => ∃ b, e = .returned (.tuple #[.slice (some ⟨b, 0, none⟩) n n, .bool true]) ∧ w.heap.size ≤ b ∧ RowsA w' b n (rowsF n n F) ∧ Below w.heap.size w w' := by
  have hg := gridZ_any W H v _ w hv (rowsF_len _ _ _) (rowsF_all_len _ _ _) (by have := hp.W2; omega) (by have := hp.H2; omega) (by have := hp.W3; omega) (by have := hp.H3; omega)
  have HX := Lib.hid (fun p g w' (hm : MatZ w' p g W H (bitOf (rowsF W H f))) => exPure_any p g W H x0 y0 s n bb xr f F w' (hm.congr (fun x y hx hy => bitOf_rowsF W H f x y hx hy)) hp)
  have HT := Lib.hid (fun p g w' (hm : MatAt w' p g n n F) => taken_any p g n n F w' hm (by have := hp.n177; omega) (by have := hp.n177; omega))
  clear hv hp
  go_enter Try.func13, Try.ntmps13
  go_wp2_with fail
  refine hg.mono ?_
  rintro e w1 ⟨p, g, rfl, hm, -, -, hb1⟩
  have hx := HX.out p g w1 hm
  have HB1 := Lib.hid hb1
  clear hg hm hb1 HX
  go_wp2_with fail
  refine hx.mono ?_
  rintro e w2 ⟨p2, g2, rfl, hm2, hb2⟩
  have ht := HT.out p2 g2 w2 hm2
  have HB2 := Lib.hid (bup HB1.out hb2)
  clear hx hm2 hb2 HT
  go_wp2_with fail
  refine ht.mono ?_
  rintro e w3 ⟨b, rfl, hb0, hr, hb3⟩
  have HR := Lib.hid hr
  have hsz := HB2.out.size
  have HB3 := Lib.hid (bup HB2.out hb3)
  clear ht hr hb3
  go_wp2_with fail
  go_ret2
  exact ⟨b, rfl, by omega, HR.out, HB3.out⟩
theorem pureBits_blank (v : Value) (W H : Nat) (f : Nat → Nat → Bool) (w : World) (hv : RowsT w v (rowsF W H f)) (hW1 : 1 ≤ W) (hH1 : 1 ≤ H) (hW : W ≤ 2000) (hH : H ≤ 2000) (h1 : ∀ x y, y < H → x < W → f x y = false) :
    Calls Try.prog 13 #[v] w fun e w' => e = .returned (.tuple #[.slice none 0 0, .bool false]) ∧ Below w.heap.size w w' := by
  have hg := gridZ_any W H v _ w hv (rowsF_len _ _ _) (rowsF_all_len _ _ _) hW1 hH1 (by omega) (by omega)
  have HX := Lib.hid (fun p g w' (hm : MatZ w' p g W H (bitOf (rowsF W H f))) => exPure_blank p g W H f w' (hm.congr (fun x y hx hy => bitOf_rowsF W H f x y hx hy)) hW hH h1)
  clear hv h1
  go_enter Try.func13, Try.ntmps13
  go_wp2_with fail
  refine hg.mono ?_
  rintro e w1 ⟨p, g, rfl, hm, -, -, hb1⟩
  have hx := HX.out p g w1 hm
  have HB1 := Lib.hid hb1
  clear hg hm hb1 HX
  go_wp2_with fail
  refine hx.mono ?_
  rintro e w2 ⟨⟨t, x, rfl⟩, hb2⟩
  have HB2 := Lib.hid (bup HB1.out hb2)
  clear hx hb2
  go_wp2_with fail
  refine (taken_no t x _).mono ?_
  rintro e w3 ⟨rfl, hb3⟩
  have HB3 := Lib.hid (bup HB2.out hb3)
  clear hb3
  go_wp2_with fail
  go_ret2
  exact ⟨rfl, HB3.out⟩
end Go.Proofs.Ytcldipbboidjbaa
