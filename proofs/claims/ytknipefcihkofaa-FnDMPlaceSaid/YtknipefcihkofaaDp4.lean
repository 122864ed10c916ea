/-
  WALKS: DefaultPlacement: utah, corners.
-/
import Derived.Test.YtknipefcihkofaaDp3
namespace Go.Proofs.Ytknipefcihkofaa
open Go.RowKit

theorem puts_cons {σ : Type} {set : σ → Nat → Nat → σ} {rows cols word bit : Nat} {a b : Int} {t : List (Int × Int)} {s s' : σ} (h : putsG set rows cols word ((a, b) :: t) bit s = some s') : ∃ i, placeAt rows cols a b = some i ∧ putsG set rows cols word t (bit + 1) (set s i (8 * word + bit)) = some s' := by
  rw [putsG] at h
  simp only at h
  cases hp : placeAt rows cols a b with
  | none => rw [hp] at h; cases h
  | some i => rw [hp] at h; exact ⟨i, rfl, h⟩
theorem puts_nil {σ : Type} {set : σ → Nat → Nat → σ} {rows cols word bit : Nat} {s s' : σ} (h : putsG set rows cols word [] bit s = some s') : s = s' := by
  rw [putsG] at h; injection h
set_option maxRecDepth 100000 in
set_option maxHeartbeats 2000000 in
theorem utah_any (p g rows cols n : Nat) (cv : Value) (ws : List UInt8) (M M' : Mod) (row col : Int) (pos : Nat) (w : World) (h : PlAt w p g rows cols n cv ws M) (hp : putsG modSet rows cols pos (utahL row col) 0 M = some M') (hpos : pos < n) (hR : rows ≤ 200) (hC : cols ≤ 200)
    (hrow : 0 ≤ row ∧ row ≤ 300) (hcol : 0 ≤ col ∧ col ≤ 300) :
    Calls Try.prog 32 #[.pointer (some ⟨p, 0, none⟩), .int .i64 row, .int .i64 col, .int .i64 (pos : Nat)] w fun e w' => e = .returned (.tuple #[]) ∧ PlAt w' p g rows cols n cv ws M' ∧ Kept g w w' := by
  unfold utahL at hp
  obtain ⟨r1, r2⟩ := hrow
  obtain ⟨s1, s2⟩ := hcol
  obtain ⟨i0, p0, hp⟩ := puts_cons hp
  obtain ⟨i1, p1, hp⟩ := puts_cons hp
  obtain ⟨i2, p2, hp⟩ := puts_cons hp
  obtain ⟨i3, p3, hp⟩ := puts_cons hp
  obtain ⟨i4, p4, hp⟩ := puts_cons hp
  obtain ⟨i5, p5, hp⟩ := puts_cons hp
  obtain ⟨i6, p6, hp⟩ := puts_cons hp
  obtain ⟨i7, p7, hp⟩ := puts_cons hp
  have hpe := puts_nil hp
  have P0 := Lib.hid p0; have P1 := Lib.hid p1; have P2 := Lib.hid p2; have P3 := Lib.hid p3; have P4 := Lib.hid p4; have P5 := Lib.hid p5; have P6 := Lib.hid p6; have P7 := Lib.hid p7
  have HE := Lib.hid hpe
  clear p0 p1 p2 p3 p4 p5 p6 p7 hp hpe
  have H := Lib.hid (And.intro h (Kept.refl g w))
  have c1 : w.cell? ⟨p, 1, none⟩ = some (.int .i64 rows) := by rw [h.head.cell]; rfl
  have c2 : w.cell? ⟨p, 2, none⟩ = some (.int .i64 cols) := by rw [h.head.cell]; rfl
  clear h
  go_enter Try.func32, Try.ntmps32
  go_wp2_with fail
  refine (module_any p g rows cols n cv ws _ _ _ _ pos 0 i0 _ H.out.1 P0.out hpos (by decide) (by decide) hR hC (by omega) (by omega)).mono ?_
  rintro e w0 ⟨rfl, h1, h2⟩
  have H0 := Lib.hid (And.intro h1 (H.out.2.trans h2))
  have k1 : w0.cell? ⟨p, 1, none⟩ = some (.int .i64 rows) := by rw [h1.head.cell]; rfl
  have k2 : w0.cell? ⟨p, 2, none⟩ = some (.int .i64 cols) := by rw [h1.head.cell]; rfl
  clear h1 h2 H
  clear c1 c2
  go_wp2_with fail
  refine (module_any p g rows cols n cv ws _ _ _ _ pos 1 i1 _ H0.out.1 P1.out hpos (by decide) (by decide) hR hC (by omega) (by omega)).mono ?_
  rintro e w1 ⟨rfl, h1, h2⟩
  have H1 := Lib.hid (And.intro h1 (H0.out.2.trans h2))
  have k1 : w1.cell? ⟨p, 1, none⟩ = some (.int .i64 rows) := by rw [h1.head.cell]; rfl
  have k2 : w1.cell? ⟨p, 2, none⟩ = some (.int .i64 cols) := by rw [h1.head.cell]; rfl
  clear h1 h2 H0
  go_wp2_with fail
  refine (module_any p g rows cols n cv ws _ _ _ _ pos 2 i2 _ H1.out.1 P2.out hpos (by decide) (by decide) hR hC (by omega) (by omega)).mono ?_
  rintro e w2 ⟨rfl, h1, h2⟩
  have H2 := Lib.hid (And.intro h1 (H1.out.2.trans h2))
  have k1 : w2.cell? ⟨p, 1, none⟩ = some (.int .i64 rows) := by rw [h1.head.cell]; rfl
  have k2 : w2.cell? ⟨p, 2, none⟩ = some (.int .i64 cols) := by rw [h1.head.cell]; rfl
  clear h1 h2 H1
  go_wp2_with fail
  refine (module_any p g rows cols n cv ws _ _ _ _ pos 3 i3 _ H2.out.1 P3.out hpos (by decide) (by decide) hR hC (by omega) (by omega)).mono ?_
  rintro e w3 ⟨rfl, h1, h2⟩
  have H3 := Lib.hid (And.intro h1 (H2.out.2.trans h2))
  have k1 : w3.cell? ⟨p, 1, none⟩ = some (.int .i64 rows) := by rw [h1.head.cell]; rfl
  have k2 : w3.cell? ⟨p, 2, none⟩ = some (.int .i64 cols) := by rw [h1.head.cell]; rfl
  clear h1 h2 H2
  go_wp2_with fail
  refine (module_any p g rows cols n cv ws _ _ _ _ pos 4 i4 _ H3.out.1 P4.out hpos (by decide) (by decide) hR hC (by omega) (by omega)).mono ?_
  rintro e w4 ⟨rfl, h1, h2⟩
  have H4 := Lib.hid (And.intro h1 (H3.out.2.trans h2))
  have k1 : w4.cell? ⟨p, 1, none⟩ = some (.int .i64 rows) := by rw [h1.head.cell]; rfl
  have k2 : w4.cell? ⟨p, 2, none⟩ = some (.int .i64 cols) := by rw [h1.head.cell]; rfl
  clear h1 h2 H3
  go_wp2_with fail
  refine (module_any p g rows cols n cv ws _ _ _ _ pos 5 i5 _ H4.out.1 P5.out hpos (by decide) (by decide) hR hC (by omega) (by omega)).mono ?_
  rintro e w5 ⟨rfl, h1, h2⟩
  have H5 := Lib.hid (And.intro h1 (H4.out.2.trans h2))
  have k1 : w5.cell? ⟨p, 1, none⟩ = some (.int .i64 rows) := by rw [h1.head.cell]; rfl
  have k2 : w5.cell? ⟨p, 2, none⟩ = some (.int .i64 cols) := by rw [h1.head.cell]; rfl
  clear h1 h2 H4
  go_wp2_with fail
  refine (module_any p g rows cols n cv ws _ _ _ _ pos 6 i6 _ H5.out.1 P6.out hpos (by decide) (by decide) hR hC (by omega) (by omega)).mono ?_
  rintro e w6 ⟨rfl, h1, h2⟩
  have H6 := Lib.hid (And.intro h1 (H5.out.2.trans h2))
  have k1 : w6.cell? ⟨p, 1, none⟩ = some (.int .i64 rows) := by rw [h1.head.cell]; rfl
  have k2 : w6.cell? ⟨p, 2, none⟩ = some (.int .i64 cols) := by rw [h1.head.cell]; rfl
  clear h1 h2 H5
  go_wp2_with fail
  refine (module_any p g rows cols n cv ws _ _ _ _ pos 7 i7 _ H6.out.1 P7.out hpos (by decide) (by decide) hR hC (by omega) (by omega)).mono ?_
  rintro e w7 ⟨rfl, h1, h2⟩
  have H7 := Lib.hid (And.intro h1 (H6.out.2.trans h2))
  have k1 : w7.cell? ⟨p, 1, none⟩ = some (.int .i64 rows) := by rw [h1.head.cell]; rfl
  have k2 : w7.cell? ⟨p, 2, none⟩ = some (.int .i64 cols) := by rw [h1.head.cell]; rfl
  clear h1 h2 H6
  go_wp2
  refine bodyPost_end (results_none rfl _ _ _) rfl ?_
  exact ⟨rfl, by rw [← HE.out]; exact H7.out.1, H7.out.2⟩
set_option maxRecDepth 100000 in
set_option maxHeartbeats 2000000 in
theorem corner1_any (p g rows cols n : Nat) (cv : Value) (ws : List UInt8) (M M' : Mod) (pos : Nat) (w : World) (h : PlAt w p g rows cols n cv ws M) (hp : putsG modSet rows cols pos (corn1 rows cols) 0 M = some M') (hpos : pos < n) (hR : rows ≤ 200) (hC : cols ≤ 200) (hR6 : 6 ≤ rows) (hC6 : 6 ≤ cols) :
    Calls Try.prog 27 #[.pointer (some ⟨p, 0, none⟩), .int .i64 (pos : Nat)] w fun e w' => e = .returned (.tuple #[]) ∧ PlAt w' p g rows cols n cv ws M' ∧ Kept g w w' := by
  unfold corn1 at hp
  obtain ⟨i0, p0, hp⟩ := puts_cons hp
  obtain ⟨i1, p1, hp⟩ := puts_cons hp
  obtain ⟨i2, p2, hp⟩ := puts_cons hp
  obtain ⟨i3, p3, hp⟩ := puts_cons hp
  obtain ⟨i4, p4, hp⟩ := puts_cons hp
  obtain ⟨i5, p5, hp⟩ := puts_cons hp
  obtain ⟨i6, p6, hp⟩ := puts_cons hp
  obtain ⟨i7, p7, hp⟩ := puts_cons hp
  have hpe := puts_nil hp
  have P0 := Lib.hid p0; have P1 := Lib.hid p1; have P2 := Lib.hid p2; have P3 := Lib.hid p3; have P4 := Lib.hid p4; have P5 := Lib.hid p5; have P6 := Lib.hid p6; have P7 := Lib.hid p7
  have HE := Lib.hid hpe
  clear p0 p1 p2 p3 p4 p5 p6 p7 hp hpe
  have H := Lib.hid (And.intro h (Kept.refl g w))
  have c1 : w.cell? ⟨p, 1, none⟩ = some (.int .i64 rows) := by rw [h.head.cell]; rfl
  have c2 : w.cell? ⟨p, 2, none⟩ = some (.int .i64 cols) := by rw [h.head.cell]; rfl
  clear h
  go_enter Try.func27, Try.ntmps27
  go_wp2_with fail
  refine (module_any p g rows cols n cv ws _ _ _ _ pos 0 i0 _ H.out.1 P0.out hpos (by decide) (by decide) hR hC (by omega) (by omega)).mono ?_
  rintro e w0 ⟨rfl, h1, h2⟩
  have H0 := Lib.hid (And.intro h1 (H.out.2.trans h2))
  have k1 : w0.cell? ⟨p, 1, none⟩ = some (.int .i64 rows) := by rw [h1.head.cell]; rfl
  have k2 : w0.cell? ⟨p, 2, none⟩ = some (.int .i64 cols) := by rw [h1.head.cell]; rfl
  clear h1 h2 H
  clear c1 c2
  go_wp2_with fail
  refine (module_any p g rows cols n cv ws _ _ _ _ pos 1 i1 _ H0.out.1 P1.out hpos (by decide) (by decide) hR hC (by omega) (by omega)).mono ?_
  rintro e w1 ⟨rfl, h1, h2⟩
  have H1 := Lib.hid (And.intro h1 (H0.out.2.trans h2))
  have k1 : w1.cell? ⟨p, 1, none⟩ = some (.int .i64 rows) := by rw [h1.head.cell]; rfl
  have k2 : w1.cell? ⟨p, 2, none⟩ = some (.int .i64 cols) := by rw [h1.head.cell]; rfl
  clear h1 h2 H0
  go_wp2_with fail
  refine (module_any p g rows cols n cv ws _ _ _ _ pos 2 i2 _ H1.out.1 P2.out hpos (by decide) (by decide) hR hC (by omega) (by omega)).mono ?_
  rintro e w2 ⟨rfl, h1, h2⟩
  have H2 := Lib.hid (And.intro h1 (H1.out.2.trans h2))
  have k1 : w2.cell? ⟨p, 1, none⟩ = some (.int .i64 rows) := by rw [h1.head.cell]; rfl
  have k2 : w2.cell? ⟨p, 2, none⟩ = some (.int .i64 cols) := by rw [h1.head.cell]; rfl
  clear h1 h2 H1
  go_wp2_with fail
  refine (module_any p g rows cols n cv ws _ _ _ _ pos 3 i3 _ H2.out.1 P3.out hpos (by decide) (by decide) hR hC (by omega) (by omega)).mono ?_
  rintro e w3 ⟨rfl, h1, h2⟩
  have H3 := Lib.hid (And.intro h1 (H2.out.2.trans h2))
  have k1 : w3.cell? ⟨p, 1, none⟩ = some (.int .i64 rows) := by rw [h1.head.cell]; rfl
  have k2 : w3.cell? ⟨p, 2, none⟩ = some (.int .i64 cols) := by rw [h1.head.cell]; rfl
  clear h1 h2 H2
  go_wp2_with fail
  refine (module_any p g rows cols n cv ws _ _ _ _ pos 4 i4 _ H3.out.1 P4.out hpos (by decide) (by decide) hR hC (by omega) (by omega)).mono ?_
  rintro e w4 ⟨rfl, h1, h2⟩
  have H4 := Lib.hid (And.intro h1 (H3.out.2.trans h2))
  have k1 : w4.cell? ⟨p, 1, none⟩ = some (.int .i64 rows) := by rw [h1.head.cell]; rfl
  have k2 : w4.cell? ⟨p, 2, none⟩ = some (.int .i64 cols) := by rw [h1.head.cell]; rfl
  clear h1 h2 H3
  go_wp2_with fail
  refine (module_any p g rows cols n cv ws _ _ _ _ pos 5 i5 _ H4.out.1 P5.out hpos (by decide) (by decide) hR hC (by omega) (by omega)).mono ?_
  rintro e w5 ⟨rfl, h1, h2⟩
  have H5 := Lib.hid (And.intro h1 (H4.out.2.trans h2))
  have k1 : w5.cell? ⟨p, 1, none⟩ = some (.int .i64 rows) := by rw [h1.head.cell]; rfl
  have k2 : w5.cell? ⟨p, 2, none⟩ = some (.int .i64 cols) := by rw [h1.head.cell]; rfl
  clear h1 h2 H4
  go_wp2_with fail
  refine (module_any p g rows cols n cv ws _ _ _ _ pos 6 i6 _ H5.out.1 P6.out hpos (by decide) (by decide) hR hC (by omega) (by omega)).mono ?_
  rintro e w6 ⟨rfl, h1, h2⟩
  have H6 := Lib.hid (And.intro h1 (H5.out.2.trans h2))
  have k1 : w6.cell? ⟨p, 1, none⟩ = some (.int .i64 rows) := by rw [h1.head.cell]; rfl
  have k2 : w6.cell? ⟨p, 2, none⟩ = some (.int .i64 cols) := by rw [h1.head.cell]; rfl
  clear h1 h2 H5
  go_wp2_with fail
  refine (module_any p g rows cols n cv ws _ _ _ _ pos 7 i7 _ H6.out.1 P7.out hpos (by decide) (by decide) hR hC (by omega) (by omega)).mono ?_
  rintro e w7 ⟨rfl, h1, h2⟩
  have H7 := Lib.hid (And.intro h1 (H6.out.2.trans h2))
  have k1 : w7.cell? ⟨p, 1, none⟩ = some (.int .i64 rows) := by rw [h1.head.cell]; rfl
  have k2 : w7.cell? ⟨p, 2, none⟩ = some (.int .i64 cols) := by rw [h1.head.cell]; rfl
  clear h1 h2 H6
  go_wp2
  refine bodyPost_end (results_none rfl _ _ _) rfl ?_
  exact ⟨rfl, by rw [← HE.out]; exact H7.out.1, H7.out.2⟩
set_option maxRecDepth 100000 in
set_option maxHeartbeats 2000000 in
theorem corner2_any (p g rows cols n : Nat) (cv : Value) (ws : List UInt8) (M M' : Mod) (pos : Nat) (w : World) (h : PlAt w p g rows cols n cv ws M) (hp : putsG modSet rows cols pos (corn2 rows cols) 0 M = some M') (hpos : pos < n) (hR : rows ≤ 200) (hC : cols ≤ 200) (hR6 : 6 ≤ rows) (hC6 : 6 ≤ cols) :
    Calls Try.prog 28 #[.pointer (some ⟨p, 0, none⟩), .int .i64 (pos : Nat)] w fun e w' => e = .returned (.tuple #[]) ∧ PlAt w' p g rows cols n cv ws M' ∧ Kept g w w' := by
  unfold corn2 at hp
  obtain ⟨i0, p0, hp⟩ := puts_cons hp
  obtain ⟨i1, p1, hp⟩ := puts_cons hp
  obtain ⟨i2, p2, hp⟩ := puts_cons hp
  obtain ⟨i3, p3, hp⟩ := puts_cons hp
  obtain ⟨i4, p4, hp⟩ := puts_cons hp
  obtain ⟨i5, p5, hp⟩ := puts_cons hp
  obtain ⟨i6, p6, hp⟩ := puts_cons hp
  obtain ⟨i7, p7, hp⟩ := puts_cons hp
  have hpe := puts_nil hp
  have P0 := Lib.hid p0; have P1 := Lib.hid p1; have P2 := Lib.hid p2; have P3 := Lib.hid p3; have P4 := Lib.hid p4; have P5 := Lib.hid p5; have P6 := Lib.hid p6; have P7 := Lib.hid p7
  have HE := Lib.hid hpe
  clear p0 p1 p2 p3 p4 p5 p6 p7 hp hpe
  have H := Lib.hid (And.intro h (Kept.refl g w))
  have c1 : w.cell? ⟨p, 1, none⟩ = some (.int .i64 rows) := by rw [h.head.cell]; rfl
  have c2 : w.cell? ⟨p, 2, none⟩ = some (.int .i64 cols) := by rw [h.head.cell]; rfl
  clear h
  go_enter Try.func28, Try.ntmps28
  go_wp2_with fail
  refine (module_any p g rows cols n cv ws _ _ _ _ pos 0 i0 _ H.out.1 P0.out hpos (by decide) (by decide) hR hC (by omega) (by omega)).mono ?_
  rintro e w0 ⟨rfl, h1, h2⟩
  have H0 := Lib.hid (And.intro h1 (H.out.2.trans h2))
  have k1 : w0.cell? ⟨p, 1, none⟩ = some (.int .i64 rows) := by rw [h1.head.cell]; rfl
  have k2 : w0.cell? ⟨p, 2, none⟩ = some (.int .i64 cols) := by rw [h1.head.cell]; rfl
  clear h1 h2 H
  clear c1 c2
  go_wp2_with fail
  refine (module_any p g rows cols n cv ws _ _ _ _ pos 1 i1 _ H0.out.1 P1.out hpos (by decide) (by decide) hR hC (by omega) (by omega)).mono ?_
  rintro e w1 ⟨rfl, h1, h2⟩
  have H1 := Lib.hid (And.intro h1 (H0.out.2.trans h2))
  have k1 : w1.cell? ⟨p, 1, none⟩ = some (.int .i64 rows) := by rw [h1.head.cell]; rfl
  have k2 : w1.cell? ⟨p, 2, none⟩ = some (.int .i64 cols) := by rw [h1.head.cell]; rfl
  clear h1 h2 H0
  go_wp2_with fail
  refine (module_any p g rows cols n cv ws _ _ _ _ pos 2 i2 _ H1.out.1 P2.out hpos (by decide) (by decide) hR hC (by omega) (by omega)).mono ?_
  rintro e w2 ⟨rfl, h1, h2⟩
  have H2 := Lib.hid (And.intro h1 (H1.out.2.trans h2))
  have k1 : w2.cell? ⟨p, 1, none⟩ = some (.int .i64 rows) := by rw [h1.head.cell]; rfl
  have k2 : w2.cell? ⟨p, 2, none⟩ = some (.int .i64 cols) := by rw [h1.head.cell]; rfl
  clear h1 h2 H1
  go_wp2_with fail
  refine (module_any p g rows cols n cv ws _ _ _ _ pos 3 i3 _ H2.out.1 P3.out hpos (by decide) (by decide) hR hC (by omega) (by omega)).mono ?_
  rintro e w3 ⟨rfl, h1, h2⟩
  have H3 := Lib.hid (And.intro h1 (H2.out.2.trans h2))
  have k1 : w3.cell? ⟨p, 1, none⟩ = some (.int .i64 rows) := by rw [h1.head.cell]; rfl
  have k2 : w3.cell? ⟨p, 2, none⟩ = some (.int .i64 cols) := by rw [h1.head.cell]; rfl
  clear h1 h2 H2
  go_wp2_with fail
  refine (module_any p g rows cols n cv ws _ _ _ _ pos 4 i4 _ H3.out.1 P4.out hpos (by decide) (by decide) hR hC (by omega) (by omega)).mono ?_
  rintro e w4 ⟨rfl, h1, h2⟩
  have H4 := Lib.hid (And.intro h1 (H3.out.2.trans h2))
  have k1 : w4.cell? ⟨p, 1, none⟩ = some (.int .i64 rows) := by rw [h1.head.cell]; rfl
  have k2 : w4.cell? ⟨p, 2, none⟩ = some (.int .i64 cols) := by rw [h1.head.cell]; rfl
  clear h1 h2 H3
  go_wp2_with fail
  refine (module_any p g rows cols n cv ws _ _ _ _ pos 5 i5 _ H4.out.1 P5.out hpos (by decide) (by decide) hR hC (by omega) (by omega)).mono ?_
  rintro e w5 ⟨rfl, h1, h2⟩
  have H5 := Lib.hid (And.intro h1 (H4.out.2.trans h2))
  have k1 : w5.cell? ⟨p, 1, none⟩ = some (.int .i64 rows) := by rw [h1.head.cell]; rfl
  have k2 : w5.cell? ⟨p, 2, none⟩ = some (.int .i64 cols) := by rw [h1.head.cell]; rfl
  clear h1 h2 H4
  go_wp2_with fail
  refine (module_any p g rows cols n cv ws _ _ _ _ pos 6 i6 _ H5.out.1 P6.out hpos (by decide) (by decide) hR hC (by omega) (by omega)).mono ?_
  rintro e w6 ⟨rfl, h1, h2⟩
  have H6 := Lib.hid (And.intro h1 (H5.out.2.trans h2))
  have k1 : w6.cell? ⟨p, 1, none⟩ = some (.int .i64 rows) := by rw [h1.head.cell]; rfl
  have k2 : w6.cell? ⟨p, 2, none⟩ = some (.int .i64 cols) := by rw [h1.head.cell]; rfl
  clear h1 h2 H5
  go_wp2_with fail
  refine (module_any p g rows cols n cv ws _ _ _ _ pos 7 i7 _ H6.out.1 P7.out hpos (by decide) (by decide) hR hC (by omega) (by omega)).mono ?_
  rintro e w7 ⟨rfl, h1, h2⟩
  have H7 := Lib.hid (And.intro h1 (H6.out.2.trans h2))
  have k1 : w7.cell? ⟨p, 1, none⟩ = some (.int .i64 rows) := by rw [h1.head.cell]; rfl
  have k2 : w7.cell? ⟨p, 2, none⟩ = some (.int .i64 cols) := by rw [h1.head.cell]; rfl
  clear h1 h2 H6
  go_wp2
  refine bodyPost_end (results_none rfl _ _ _) rfl ?_
  exact ⟨rfl, by rw [← HE.out]; exact H7.out.1, H7.out.2⟩
set_option maxRecDepth 100000 in
set_option maxHeartbeats 2000000 in
theorem corner3_any (p g rows cols n : Nat) (cv : Value) (ws : List UInt8) (M M' : Mod) (pos : Nat) (w : World) (h : PlAt w p g rows cols n cv ws M) (hp : putsG modSet rows cols pos (corn3 rows cols) 0 M = some M') (hpos : pos < n) (hR : rows ≤ 200) (hC : cols ≤ 200) (hR6 : 6 ≤ rows) (hC6 : 6 ≤ cols) :
    Calls Try.prog 29 #[.pointer (some ⟨p, 0, none⟩), .int .i64 (pos : Nat)] w fun e w' => e = .returned (.tuple #[]) ∧ PlAt w' p g rows cols n cv ws M' ∧ Kept g w w' := by
  unfold corn3 at hp
  obtain ⟨i0, p0, hp⟩ := puts_cons hp
  obtain ⟨i1, p1, hp⟩ := puts_cons hp
  obtain ⟨i2, p2, hp⟩ := puts_cons hp
  obtain ⟨i3, p3, hp⟩ := puts_cons hp
  obtain ⟨i4, p4, hp⟩ := puts_cons hp
  obtain ⟨i5, p5, hp⟩ := puts_cons hp
  obtain ⟨i6, p6, hp⟩ := puts_cons hp
  obtain ⟨i7, p7, hp⟩ := puts_cons hp
  have hpe := puts_nil hp
  have P0 := Lib.hid p0; have P1 := Lib.hid p1; have P2 := Lib.hid p2; have P3 := Lib.hid p3; have P4 := Lib.hid p4; have P5 := Lib.hid p5; have P6 := Lib.hid p6; have P7 := Lib.hid p7
  have HE := Lib.hid hpe
  clear p0 p1 p2 p3 p4 p5 p6 p7 hp hpe
  have H := Lib.hid (And.intro h (Kept.refl g w))
  have c1 : w.cell? ⟨p, 1, none⟩ = some (.int .i64 rows) := by rw [h.head.cell]; rfl
  have c2 : w.cell? ⟨p, 2, none⟩ = some (.int .i64 cols) := by rw [h.head.cell]; rfl
  clear h
  go_enter Try.func29, Try.ntmps29
  go_wp2_with fail
  refine (module_any p g rows cols n cv ws _ _ _ _ pos 0 i0 _ H.out.1 P0.out hpos (by decide) (by decide) hR hC (by omega) (by omega)).mono ?_
  rintro e w0 ⟨rfl, h1, h2⟩
  have H0 := Lib.hid (And.intro h1 (H.out.2.trans h2))
  have k1 : w0.cell? ⟨p, 1, none⟩ = some (.int .i64 rows) := by rw [h1.head.cell]; rfl
  have k2 : w0.cell? ⟨p, 2, none⟩ = some (.int .i64 cols) := by rw [h1.head.cell]; rfl
  clear h1 h2 H
  clear c1 c2
  go_wp2_with fail
  refine (module_any p g rows cols n cv ws _ _ _ _ pos 1 i1 _ H0.out.1 P1.out hpos (by decide) (by decide) hR hC (by omega) (by omega)).mono ?_
  rintro e w1 ⟨rfl, h1, h2⟩
  have H1 := Lib.hid (And.intro h1 (H0.out.2.trans h2))
  have k1 : w1.cell? ⟨p, 1, none⟩ = some (.int .i64 rows) := by rw [h1.head.cell]; rfl
  have k2 : w1.cell? ⟨p, 2, none⟩ = some (.int .i64 cols) := by rw [h1.head.cell]; rfl
  clear h1 h2 H0
  go_wp2_with fail
  refine (module_any p g rows cols n cv ws _ _ _ _ pos 2 i2 _ H1.out.1 P2.out hpos (by decide) (by decide) hR hC (by omega) (by omega)).mono ?_
  rintro e w2 ⟨rfl, h1, h2⟩
  have H2 := Lib.hid (And.intro h1 (H1.out.2.trans h2))
  have k1 : w2.cell? ⟨p, 1, none⟩ = some (.int .i64 rows) := by rw [h1.head.cell]; rfl
  have k2 : w2.cell? ⟨p, 2, none⟩ = some (.int .i64 cols) := by rw [h1.head.cell]; rfl
  clear h1 h2 H1
  go_wp2_with fail
  refine (module_any p g rows cols n cv ws _ _ _ _ pos 3 i3 _ H2.out.1 P3.out hpos (by decide) (by decide) hR hC (by omega) (by omega)).mono ?_
  rintro e w3 ⟨rfl, h1, h2⟩
  have H3 := Lib.hid (And.intro h1 (H2.out.2.trans h2))
  have k1 : w3.cell? ⟨p, 1, none⟩ = some (.int .i64 rows) := by rw [h1.head.cell]; rfl
  have k2 : w3.cell? ⟨p, 2, none⟩ = some (.int .i64 cols) := by rw [h1.head.cell]; rfl
  clear h1 h2 H2
  go_wp2_with fail
  refine (module_any p g rows cols n cv ws _ _ _ _ pos 4 i4 _ H3.out.1 P4.out hpos (by decide) (by decide) hR hC (by omega) (by omega)).mono ?_
  rintro e w4 ⟨rfl, h1, h2⟩
  have H4 := Lib.hid (And.intro h1 (H3.out.2.trans h2))
  have k1 : w4.cell? ⟨p, 1, none⟩ = some (.int .i64 rows) := by rw [h1.head.cell]; rfl
  have k2 : w4.cell? ⟨p, 2, none⟩ = some (.int .i64 cols) := by rw [h1.head.cell]; rfl
  clear h1 h2 H3
  go_wp2_with fail
  refine (module_any p g rows cols n cv ws _ _ _ _ pos 5 i5 _ H4.out.1 P5.out hpos (by decide) (by decide) hR hC (by omega) (by omega)).mono ?_
  rintro e w5 ⟨rfl, h1, h2⟩
  have H5 := Lib.hid (And.intro h1 (H4.out.2.trans h2))
  have k1 : w5.cell? ⟨p, 1, none⟩ = some (.int .i64 rows) := by rw [h1.head.cell]; rfl
  have k2 : w5.cell? ⟨p, 2, none⟩ = some (.int .i64 cols) := by rw [h1.head.cell]; rfl
  clear h1 h2 H4
  go_wp2_with fail
  refine (module_any p g rows cols n cv ws _ _ _ _ pos 6 i6 _ H5.out.1 P6.out hpos (by decide) (by decide) hR hC (by omega) (by omega)).mono ?_
  rintro e w6 ⟨rfl, h1, h2⟩
  have H6 := Lib.hid (And.intro h1 (H5.out.2.trans h2))
  have k1 : w6.cell? ⟨p, 1, none⟩ = some (.int .i64 rows) := by rw [h1.head.cell]; rfl
  have k2 : w6.cell? ⟨p, 2, none⟩ = some (.int .i64 cols) := by rw [h1.head.cell]; rfl
  clear h1 h2 H5
  go_wp2_with fail
  refine (module_any p g rows cols n cv ws _ _ _ _ pos 7 i7 _ H6.out.1 P7.out hpos (by decide) (by decide) hR hC (by omega) (by omega)).mono ?_
  rintro e w7 ⟨rfl, h1, h2⟩
  have H7 := Lib.hid (And.intro h1 (H6.out.2.trans h2))
  have k1 : w7.cell? ⟨p, 1, none⟩ = some (.int .i64 rows) := by rw [h1.head.cell]; rfl
  have k2 : w7.cell? ⟨p, 2, none⟩ = some (.int .i64 cols) := by rw [h1.head.cell]; rfl
  clear h1 h2 H6
  go_wp2
  refine bodyPost_end (results_none rfl _ _ _) rfl ?_
  exact ⟨rfl, by rw [← HE.out]; exact H7.out.1, H7.out.2⟩
set_option maxRecDepth 100000 in
set_option maxHeartbeats 2000000 in
theorem corner4_any (p g rows cols n : Nat) (cv : Value) (ws : List UInt8) (M M' : Mod) (pos : Nat) (w : World) (h : PlAt w p g rows cols n cv ws M) (hp : putsG modSet rows cols pos (corn4 rows cols) 0 M = some M') (hpos : pos < n) (hR : rows ≤ 200) (hC : cols ≤ 200) (hR6 : 6 ≤ rows) (hC6 : 6 ≤ cols) :
    Calls Try.prog 30 #[.pointer (some ⟨p, 0, none⟩), .int .i64 (pos : Nat)] w fun e w' => e = .returned (.tuple #[]) ∧ PlAt w' p g rows cols n cv ws M' ∧ Kept g w w' := by
  unfold corn4 at hp
  obtain ⟨i0, p0, hp⟩ := puts_cons hp
  obtain ⟨i1, p1, hp⟩ := puts_cons hp
  obtain ⟨i2, p2, hp⟩ := puts_cons hp
  obtain ⟨i3, p3, hp⟩ := puts_cons hp
  obtain ⟨i4, p4, hp⟩ := puts_cons hp
  obtain ⟨i5, p5, hp⟩ := puts_cons hp
  obtain ⟨i6, p6, hp⟩ := puts_cons hp
  obtain ⟨i7, p7, hp⟩ := puts_cons hp
  have hpe := puts_nil hp
  have P0 := Lib.hid p0; have P1 := Lib.hid p1; have P2 := Lib.hid p2; have P3 := Lib.hid p3; have P4 := Lib.hid p4; have P5 := Lib.hid p5; have P6 := Lib.hid p6; have P7 := Lib.hid p7
  have HE := Lib.hid hpe
  clear p0 p1 p2 p3 p4 p5 p6 p7 hp hpe
  have H := Lib.hid (And.intro h (Kept.refl g w))
  have c1 : w.cell? ⟨p, 1, none⟩ = some (.int .i64 rows) := by rw [h.head.cell]; rfl
  have c2 : w.cell? ⟨p, 2, none⟩ = some (.int .i64 cols) := by rw [h.head.cell]; rfl
  have n1 : IntKind.i64.wrap ((rows : Int) - 1) = (rows : Int) - 1 := by rw [IntKind.wrap_i64]; omega
  have n2 : IntKind.i64.wrap ((cols : Int) - 1) = (cols : Int) - 1 := by rw [IntKind.wrap_i64]; omega
  clear h
  go_enter Try.func30, Try.ntmps30
  go_wp2_with fail
  refine (module_any p g rows cols n cv ws _ _ _ _ pos 0 i0 _ H.out.1 P0.out hpos (by decide) (by decide) hR hC (by omega) (by omega)).mono ?_
  rintro e w0 ⟨rfl, h1, h2⟩
  have H0 := Lib.hid (And.intro h1 (H.out.2.trans h2))
  have k1 : w0.cell? ⟨p, 1, none⟩ = some (.int .i64 rows) := by rw [h1.head.cell]; rfl
  have k2 : w0.cell? ⟨p, 2, none⟩ = some (.int .i64 cols) := by rw [h1.head.cell]; rfl
  clear h1 h2 H
  clear c1 c2
  go_wp2_with fail
  refine Can.wp_region_can (fun w' => w'.cell? ⟨p, 1, none⟩ = some (.int .i64 rows) ∧ w'.cell? ⟨p, 2, none⟩ = some (.int .i64 cols)) 12 [0, 1, 2, 3, 4, 5, 6, 7, 8, 9, 10, 11, 12] (by kernel_rfl) (by kernel_rfl) (fun _ _ d _ _ h => by cases d <;> exact h) ⟨k1, k2⟩ (fun hHeld => ?_)
  repeat (refine Can.can_pure (v := ?_) rfl rfl (Or.inl ⟨by rfl, ?_⟩) ?_; rotate_left; (focus ((intro w hSw); (try dsimp only at hSw); go_simp; (try with_reducible rfl))); (try simp only [Act.put, List.getElem_toArray, List.getElem_cons_succ, List.getElem_cons_zero, List.setIfInBounds_toArray, List.set_cons_zero, List.set_cons_succ]))
  clear hHeld n1 n2
  refine Can.can_tail rfl rfl (by rfl) (fun K hK => ?_)
  go_simp
  refine (module_any p g rows cols n cv ws _ _ _ _ pos 1 i1 _ (H0.out.1.up (bdr (brf _))) P1.out hpos rfl (by decide) hR hC (by omega) (by omega)).mono ?_
  rintro e w1 ⟨rfl, h1, h2⟩
  refine hK.out _ _ ?_
  clear hK K
  have H1 := Lib.hid (And.intro h1 ((H0.out.2.trans (Kept.drew g w0)).trans h2))
  have k3 : w1.cell? ⟨p, 1, none⟩ = some (.int .i64 rows) := by rw [h1.head.cell]; rfl
  have k4 : w1.cell? ⟨p, 2, none⟩ = some (.int .i64 cols) := by rw [h1.head.cell]; rfl
  clear h1 h2 H0 k1 k2
  go_wp2_with fail
  refine (module_any p g rows cols n cv ws _ _ _ _ pos 2 i2 _ H1.out.1 P2.out hpos (by decide) (by decide) hR hC (by omega) (by omega)).mono ?_
  rintro e w2 ⟨rfl, h1, h2⟩
  have H2 := Lib.hid (And.intro h1 (H1.out.2.trans h2))
  have k1 : w2.cell? ⟨p, 1, none⟩ = some (.int .i64 rows) := by rw [h1.head.cell]; rfl
  have k2 : w2.cell? ⟨p, 2, none⟩ = some (.int .i64 cols) := by rw [h1.head.cell]; rfl
  clear h1 h2 H1
  go_wp2_with fail
  refine (module_any p g rows cols n cv ws _ _ _ _ pos 3 i3 _ H2.out.1 P3.out hpos (by decide) (by decide) hR hC (by omega) (by omega)).mono ?_
  rintro e w3 ⟨rfl, h1, h2⟩
  have H3 := Lib.hid (And.intro h1 (H2.out.2.trans h2))
  have k1 : w3.cell? ⟨p, 1, none⟩ = some (.int .i64 rows) := by rw [h1.head.cell]; rfl
  have k2 : w3.cell? ⟨p, 2, none⟩ = some (.int .i64 cols) := by rw [h1.head.cell]; rfl
  clear h1 h2 H2
  go_wp2_with fail
  refine (module_any p g rows cols n cv ws _ _ _ _ pos 4 i4 _ H3.out.1 P4.out hpos (by decide) (by decide) hR hC (by omega) (by omega)).mono ?_
  rintro e w4 ⟨rfl, h1, h2⟩
  have H4 := Lib.hid (And.intro h1 (H3.out.2.trans h2))
  have k1 : w4.cell? ⟨p, 1, none⟩ = some (.int .i64 rows) := by rw [h1.head.cell]; rfl
  have k2 : w4.cell? ⟨p, 2, none⟩ = some (.int .i64 cols) := by rw [h1.head.cell]; rfl
  clear h1 h2 H3
  go_wp2_with fail
  refine (module_any p g rows cols n cv ws _ _ _ _ pos 5 i5 _ H4.out.1 P5.out hpos (by decide) (by decide) hR hC (by omega) (by omega)).mono ?_
  rintro e w5 ⟨rfl, h1, h2⟩
  have H5 := Lib.hid (And.intro h1 (H4.out.2.trans h2))
  have k1 : w5.cell? ⟨p, 1, none⟩ = some (.int .i64 rows) := by rw [h1.head.cell]; rfl
  have k2 : w5.cell? ⟨p, 2, none⟩ = some (.int .i64 cols) := by rw [h1.head.cell]; rfl
  clear h1 h2 H4
  go_wp2_with fail
  refine (module_any p g rows cols n cv ws _ _ _ _ pos 6 i6 _ H5.out.1 P6.out hpos (by decide) (by decide) hR hC (by omega) (by omega)).mono ?_
  rintro e w6 ⟨rfl, h1, h2⟩
  have H6 := Lib.hid (And.intro h1 (H5.out.2.trans h2))
  have k1 : w6.cell? ⟨p, 1, none⟩ = some (.int .i64 rows) := by rw [h1.head.cell]; rfl
  have k2 : w6.cell? ⟨p, 2, none⟩ = some (.int .i64 cols) := by rw [h1.head.cell]; rfl
  clear h1 h2 H5
  go_wp2_with fail
  refine (module_any p g rows cols n cv ws _ _ _ _ pos 7 i7 _ H6.out.1 P7.out hpos (by decide) (by decide) hR hC (by omega) (by omega)).mono ?_
  rintro e w7 ⟨rfl, h1, h2⟩
  have H7 := Lib.hid (And.intro h1 (H6.out.2.trans h2))
  have k1 : w7.cell? ⟨p, 1, none⟩ = some (.int .i64 rows) := by rw [h1.head.cell]; rfl
  have k2 : w7.cell? ⟨p, 2, none⟩ = some (.int .i64 cols) := by rw [h1.head.cell]; rfl
  clear h1 h2 H6
  go_wp2
  refine bodyPost_end (results_none rfl _ _ _) rfl ?_
  exact ⟨rfl, by rw [← HE.out]; exact H7.out.1, H7.out.2⟩
end Go.Proofs.Ytknipefcihkofaa
