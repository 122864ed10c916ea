/-
  WALKS: lists of widths.
-/
import Derived.Test.YtknipefcihkofaaRv3
namespace Go.Proofs.Ytknipefcihkofaa
open Go.RowKit

theorem nv_app (xs ys : List Nat) : nv (xs ++ ys) = nv xs ++ nv ys := by simp [nv]
theorem widths_any (v : Value) (xs : List Nat) (most : Nat) (w : World) (hv : Rd w w.heap.size v (uv8 xs)) (hx : ∀ x ∈ xs, x < 256) (h1 : 1 ≤ most) (h9 : most ≤ 9) :
    Calls Try.prog 9 #[v, .int .i64 most] w fun e w' => ∃ v', e = .returned v' ∧ Rd w' w'.heap.size v' (nv (wl xs most)) ∧ Below w.heap.size w w' := by
  obtain ⟨i0, hi0, hz0, hz1, hz2⟩ := info_parts info_int
  obtain ⟨A, cap, rfl, h1', h2, h3⟩ := hv
  rw [uv8_len] at *
  unfold maxLen at h2
  have HA := Lib.hid h3; clear h3
  have HX := Lib.hid hx; clear hx
  go_enter Try.func9, Try.ntmps9
  go_wp2
  go_loopw [5, 6] (fun o i wr => ∃ (k c : Nat) (a : Option Addr), k ≤ xs.length ∧ k ≤ 6 ∧ i = .int .i64 k ∧ o = .slice a k c ∧ Hid (wr.ownsRow w.heap.size 3 1 o k (nv ((xs.take k).map fun x => 1 + x % most))) ∧ Hid (Below w.heap.size w wr)) (fun _ i _ => 6 - (intOf i).toNat)
  case atStart => exact ⟨0, 0, none, Nat.zero_le _, Nat.zero_le _, rfl, rfl, Lib.hid (own_nil _ _ _), Lib.hid (brf w)⟩
  case round =>
    obtain ⟨k, c, a, hk, hk6, rfl, rfl, HO, HB⟩ := hrel
    by_cases hlt : k < xs.length
    · by_cases hl6 : k < 6
      · obtain ⟨b, o, rfl, hb, hcell⟩ := HA.out (by omega)
        have c1 := (below_cells HB.out b _ hb).trans (hcell k _ (uv8_at xs k hlt))
        have hxk := HX.out _ (List.getElem_mem hlt)
        have HS : Hid (nv ((xs.take (k + 1)).map fun x => 1 + x % most) = nv ((xs.take k).map fun x => 1 + x % most) ++ [.int .i64 ((1 + xs[k] % most : Nat) : Int)]) := Lib.hid (by
          rw [List.take_succ_eq_append_getElem hlt, List.map_append, nv_app, List.map_cons, List.map_nil]; rfl)
        clear hcell
        generalize xs[k] = y at *
        have hmod : y % most < most := Nat.mod_lt _ (by omega)
        have e1 : (y : Int) % (most : Int) = ((y % most : Nat) : Int) := by simp
        generalize y % most = z at *
        have hbase : w.heap.size ≤ wr.heap.size := HB.out.size
        go_wp2_with (at_builtin; refine list_app_rd _ rfl _ _ _ rfl w.heap.size 3 i0 _ 8 Try.underlying27 hi0 hz0 hz1 hz2 rfl _ k _ rfl (HO.out.alloc _) _ _ [.int .i64 (1 + (z : Int))] rfl (Rd.one rfl _ _) (fun u hu => by simp at hu; subst hu; rfl) (by simp only [List.length_singleton]; unfold maxLen; omega) (by simp only [List.length_singleton]; omega) (by simp; omega) ?_; intro v1 w2 ho1 hg1)
        have HB2 := Lib.hid (below_grown (HB.out.alloc hbase (.cells #[.int .i64 (1 + (z : Int))] 3)) hg1 (HO.out.alloc _) (by simp; omega))
        have HO2 : Hid (w2.ownsRow w.heap.size 3 1 v1 (k + 1) (nv ((xs.take (k + 1)).map fun x => 1 + x % most))) := Lib.hid (by rw [HS.out]; simpa using ho1)
        have hform : ∃ a c, v1 = .slice a (k + 1) c := by
          obtain ⟨_, ⟨rfl, h⟩ | ⟨g, cc, cur, rfl, _⟩⟩ := HO2.out
          · exact ⟨_, _, by rw [h]⟩
          · exact ⟨_, _, rfl⟩
        obtain ⟨a2, c2, rfl⟩ := hform
        clear ho1 hg1
        go_roundw
        case rel => exact ⟨k + 1, c2, a2, by omega, by omega, by go_num, rfl, HO2, HB2⟩
        case measure => simp [intOf]; omega
      · obtain rfl : k = 6 := by omega
        have HW : Hid (wl xs most = (xs.take 6).map fun x => 1 + x % most) := Lib.hid (by
          unfold wl wl0
          rw [if_neg (by intro h; have := congrArg List.length h; rw [List.length_map, List.length_take, List.length_nil] at this; omega)])
        have HR := Lib.hid (Rd.of_own HO.out)
        go_wp2
        go_ret
        exact ⟨_, rfl, by rw [HW.out]; exact HR.out, HB.out⟩
    · obtain rfl : k = xs.length := by omega
      have HW : Hid (wl0 xs most = (xs.take xs.length).map fun x => 1 + x % most) := Lib.hid (by unfold wl0; rw [List.take_length, List.take_of_length_le hk6])
      have HR := Lib.hid (Rd.of_own HO.out)
      by_cases h0 : xs.length = 0
      · have HW2 : Hid (wl xs most = [1]) := Lib.hid (by unfold wl; rw [if_pos (by rw [HW.out, List.eq_nil_of_length_eq_zero h0]; rfl)])
        have e0 : ((xs.length : Int) == 0) = true := by simp [h0]
        have HB2 := Lib.hid (bal HB.out (.cells #[.int .i64 1] 3))
        have HR2 := Lib.hid (Rd.one (w := wr) rfl 3 (.int .i64 1))
        clear HR
        go_wp2
        go_ret
        exact ⟨_, rfl, by rw [HW2.out]; exact HR2.out, HB2.out⟩
      · have HW2 : Hid (wl xs most = (xs.take xs.length).map fun x => 1 + x % most) := Lib.hid (by
          unfold wl; rw [if_neg (by rw [HW.out]; intro h; have := congrArg List.length h; rw [List.length_map, List.take_length, List.length_nil] at this; exact h0 this), HW.out])
        have e0 : ((xs.length : Int) == 0) = false := by rw [beq_eq_false_iff_ne]; omega
        go_wp2
        go_ret
        exact ⟨_, rfl, by rw [HW2.out]; exact HR.out, HB.out⟩
end Go.Proofs.Ytknipefcihkofaa
