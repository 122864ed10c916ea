/-
  WALKS: a source of a picture's grays: made, cropped, read.
-/
import Derived.Test.YtimfaplnhlnjlaaPc1
import Derived.Test.YtimfaplnhlnjlaaCan
import Derived.Test.YtimfaplnhlnjlaaErr
namespace Go.Proofs.Ytimfaplnhlnjlaa
open Go.RowKit

/-- A source's block: the picture is W wide and H high, the grays lie in v; the part is at (x, y), a wide and b high. -/
def srcC (v : Value) (W H x y a b : Nat) : Array Value := #[.int .i64 a, .int .i64 b, v, .int .i64 W, .int .i64 H, .int .i64 x, .int .i64 y]
def srcV (p : Nat) : Value := .iface 94 (.pointer (some ⟨p, 0, none⟩))
theorem fits_yes (W H n : Nat) (w : World) (hW : 0 < W) (hH : 0 < H) (hn : n = W * H) (hs : n ≤ 1000000) :
    Calls Try.prog 30 #[.int .i64 W, .int .i64 H, .int .i64 n] w fun e w' => e = .returned (.bool true) ∧ w' = w := by
  have e1 : Int.tdiv (n : Int) (W : Int) = (H : Int) := by
    rw [Int.tdiv_eq_ediv_of_nonneg (by omega), hn]; push_cast
    exact Int.mul_ediv_cancel_left _ (by omega)
  have e2 : Int.tmod (n : Int) (W : Int) = 0 := by
    rw [Int.tmod_eq_emod_of_nonneg (by omega), hn]; push_cast
    exact Int.mul_emod_right _ _
  have hHn : H ≤ n := by rw [hn]; exact Nat.le_mul_of_pos_left _ hW
  have e3 : IntKind.i64.wrap (H : Int) = (H : Int) := by rw [IntKind.wrap_i64]; omega
  have z0 : ((W : Int) == 0) = false := by simp; omega
  clear hn
  go_enter Try.func30, Try.ntmps30
  go_wp2
  go_ret
  exact ⟨rfl, rfl⟩
/-- gozxing.NewPlanarYUVLuminanceSource, not turned over. -/
theorem newPlanar_any (A : Option Addr) (n c W H x y a b : Nat) (w : World) (h1 : x + a ≤ W) (h2 : y + b ≤ H) (hs1 : W ≤ 1000000) (hs2 : H ≤ 1000000) :
    Calls Try.prog 31 #[.slice A n c, .int .i64 W, .int .i64 H, .int .i64 x, .int .i64 y, .int .i64 a, .int .i64 b, .bool false] w fun e w' =>
      ∃ p, e = .returned (.tuple #[srcV p, .nilIface]) ∧ Blk w' p 98 (srcC (.slice A n c) W H x y a b) ∧ Below w.heap.size w w' := by
  go_enter Try.func31, Try.ntmps31
  go_wp2
  go_returns
  exact ⟨_, rfl, Blk.fresh w _ _, bal (brf w) _⟩
theorem info_b8 : (Try.prog.info? 5).map (fun i => (i.zero, i.size, i.bytes)) = some (some (.int .u8 0), 1, 1) := by kernel_rfl
theorem info_three {P : Program} {e : TypeId} {z : Value} {b : Nat} (h : (P.info? e).map (fun i => (i.zero, i.size, i.bytes)) = some (some z, 1, b)) :
    ∃ i, P.info? e = some i ∧ i.zero = some z ∧ i.size = 1 ∧ i.bytes = b := by
  obtain ⟨i, hi, hh⟩ := Option.map_eq_some_iff.1 h
  simp only [Prod.mk.injEq] at hh
  exact ⟨i, hi, hh.1, hh.2.1, hh.2.2⟩
/-- impl.source, not turned over. -/
theorem source_any (W H : Nat) (v : Value) (L : List Nat) (w : World) (hv : RdT w 5 v (b8 L)) (hL : L.length = W * H) (hW : 0 < W) (hH : 0 < H) (hs : L.length ≤ 1000000) :
    Calls Try.prog 23 #[.int .i64 W, .int .i64 H, v, .bool false] w fun e w' =>
      ∃ p v', e = .returned (.tuple #[srcV p, .bool true]) ∧ Blk w' p 98 (srcC v' W H 0 0 W H) ∧ RdT w' 5 v' (b8 L) ∧ Below w.heap.size w w' := by
  have hHn : H ≤ L.length := by rw [hL]; exact Nat.le_mul_of_pos_left _ hW
  have hWn : W ≤ L.length := by rw [hL]; exact Nat.le_mul_of_pos_right _ hH
  have hvr := hv.rd
  obtain ⟨A, cap, rfl, h1, h2, h3⟩ := hv
  rw [b8_len] at *
  have HV := Lib.hid hvr; clear hvr h3
  have HL := Lib.hid hL; clear hL
  obtain ⟨i1, hi1, hy0, hy1, hy2⟩ := info_three info_b8
  go_enter Try.func23, Try.ntmps23
  go_wp2_with fail
  refine (fits_yes W H L.length w hW hH HL.out hs).mono ?_
  rintro e w ⟨rfl, rfl⟩
  go_wp2_with (at_builtin; refine list_app_rd _ rfl _ _ 30 rfl w.heap.size 5 i1 _ 1 Try.underlying30 hi1 hy0 hy1 hy2 rfl _ 0 [] rfl (own_nil _ _ _) _ _ (b8 L) rfl HV.out (b8_one _) (by rw [b8_len]; unfold maxLen; omega) (by rw [b8_len]; omega) (Nat.le_refl _) ?_; intro v6 w6 ho6 hg6)
  have hb6 := below_grown (u := .slice none 0 0) (brf w) hg6 (own_nil w w.heap.size 5) (Nat.le_refl _)
  rw [b8_len, List.nil_append, Nat.zero_add] at ho6
  have hr6 := RdT.of_own ho6
  obtain ⟨A6, c6, rfl, -, -, -⟩ := id hr6
  rw [b8_len]
  have HR6 := Lib.hid hr6; clear hr6 ho6 hg6
  have HB6 := Lib.hid hb6; clear hb6
  go_wp2_with fail
  refine (newPlanar_any A6 L.length c6 W H 0 0 W H w6 (by omega) (by omega) (by omega) (by omega)).mono ?_
  rintro e w7 ⟨p, rfl, hp, hb7⟩
  have HR7 := Lib.hid (HR6.out.up hb7)
  have HB7 := Lib.hid (bup HB6.out hb7)
  have HP := Lib.hid hp
  clear hp HR6 HB6 HV
  rw [b8_len] at HR7
  unfold srcV
  go_wp2
  go_quiet (fail)
  (try simp only [Exit.then])
  go_wp2
  go_returns
  exact ⟨p, _, rfl, HP.out.drewN _, HR7.out.up (bdn (brf _) _), bdn HB7.out _⟩
/-- (*gozxing.PlanarYUVLuminanceSource).Crop. -/
theorem crop_any (p : Nat) (A : Option Addr) (n c W H x0 y0 a0 b0 x y a b : Nat) (w : World) (hp : Blk w p 98 (srcC (.slice A n c) W H x0 y0 a0 b0)) (h1 : x0 + x + a ≤ W) (h2 : y0 + y + b ≤ H) (hs1 : W ≤ 1000000) (hs2 : H ≤ 1000000) :
    Calls Try.prog 73 #[.pointer (some ⟨p, 0, none⟩), .int .i64 x, .int .i64 y, .int .i64 a, .int .i64 b] w fun e w' =>
      ∃ p', e = .returned (.tuple #[srcV p', .nilIface]) ∧ Blk w' p' 98 (srcC (.slice A n c) W H (x0 + x) (y0 + y) a b) ∧ Below w.heap.size w w' := by
  have c2 : w.cell? ⟨p, 2, none⟩ = some (.slice A n c) := by rw [hp.cell]; rfl
  have c3 : w.cell? ⟨p, 3, none⟩ = some (.int .i64 W) := by rw [hp.cell]; rfl
  have c4 : w.cell? ⟨p, 4, none⟩ = some (.int .i64 H) := by rw [hp.cell]; rfl
  have c5 : w.cell? ⟨p, 5, none⟩ = some (.int .i64 x0) := by rw [hp.cell]; rfl
  have c6 : w.cell? ⟨p, 6, none⟩ = some (.int .i64 y0) := by rw [hp.cell]; rfl
  have s1 : IntKind.i64.wrap ((x0 : Int) + (x : Int)) = ((x0 + x : Nat) : Int) := by rw [IntKind.wrap_i64]; omega
  have s2 : IntKind.i64.wrap ((y0 : Int) + (y : Int)) = ((y0 + y : Nat) : Int) := by rw [IntKind.wrap_i64]; omega
  clear hp
  go_enter Try.func73, Try.ntmps73
  go_wp2_with fail
  refine Can.wp_region_can (fun w' => w'.cell? ⟨p, 2, none⟩ = some (.slice A n c) ∧ w'.cell? ⟨p, 3, none⟩ = some (.int .i64 W) ∧ w'.cell? ⟨p, 4, none⟩ = some (.int .i64 H) ∧ w'.cell? ⟨p, 5, none⟩ = some (.int .i64 x0) ∧ w'.cell? ⟨p, 6, none⟩ = some (.int .i64 y0)) 999 [0, 1, 2, 3, 4, 5, 6, 7, 8, 9, 10, 11, 12, 13, 14, 15, 16, 17, 18, 19, 20, 21, 22, 23, 24, 25, 26, 27, 28, 29, 30] (by kernel_rfl) (by kernel_rfl) (fun _ _ d _ _ h => by cases d <;> exact h) ⟨c2, c3, c4, c5, c6⟩ (fun hHeld => ?_)
  repeat (refine Can.can_pure (v := ?_) rfl rfl (Or.inl ⟨by rfl, ?_⟩) ?_; rotate_left; (focus ((intro w hSw); (try dsimp only at hSw); go_simp; (try with_reducible rfl))); (try simp only [Act.put, List.getElem_toArray, List.getElem_cons_succ, List.getElem_cons_zero, List.setIfInBounds_toArray, List.set_cons_zero, List.set_cons_succ]))
  refine Can.can_eff rfl rfl (by rfl) (fun K hK => ?_)
  go_simp
  refine (newPlanar_any A n c W H (x0 + x) (y0 + y) a b _ h1 h2 hs1 hs2).mono ?_
  rintro e w2 ⟨p2, rfl, hp2, hb2⟩
  refine hK.out _ _ ⟨cell_up hHeld.1 hb2, cell_up hHeld.2.1 hb2, cell_up hHeld.2.2.1 hb2, cell_up hHeld.2.2.2.1 hb2, cell_up hHeld.2.2.2.2 hb2⟩ (fun hHeld1 => ?_)
  clear hK K
  (try simp only [Act.put, List.getElem_toArray, List.getElem_cons_succ, List.getElem_cons_zero, List.setIfInBounds_toArray, List.set_cons_zero, List.set_cons_succ])
  repeat (refine Can.can_pure (v := ?_) rfl rfl (Or.inl ⟨by rfl, ?_⟩) ?_; rotate_left; (focus ((intro w hSw); (try dsimp only at hSw); go_simp; (try with_reducible rfl))); (try simp only [Act.put, List.getElem_toArray, List.getElem_cons_succ, List.getElem_cons_zero, List.setIfInBounds_toArray, List.set_cons_zero, List.set_cons_succ]))
  refine Can.can_done ?_
  go_wp2
  go_returns
  exact ⟨p2, rfl, hp2, bup (bdr (brf w)) hb2⟩
theorem srcH_any (p : Nat) (h : Value) (w : World) (hc : w.cell? ⟨p, 1, none⟩ = some h) : Calls Try.prog 74 #[.pointer (some ⟨p, 0, none⟩)] w fun e w' => e = .returned h ∧ w' = w := by
  go_enter Try.func74, Try.ntmps74
  go_wp2
  go_ret
  exact ⟨rfl, rfl⟩
theorem srcW_any (p : Nat) (h : Value) (w : World) (hc : w.cell? ⟨p, 0, none⟩ = some h) : Calls Try.prog 77 #[.pointer (some ⟨p, 0, none⟩)] w fun e w' => e = .returned h ∧ w' = w := by
  go_enter Try.func77, Try.ntmps77
  go_wp2
  go_ret
  exact ⟨rfl, rfl⟩
end Go.Proofs.Ytimfaplnhlnjlaa
