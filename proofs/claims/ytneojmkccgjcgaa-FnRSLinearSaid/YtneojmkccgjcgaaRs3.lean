/-
  WALKS: lists of elements.
-/
import Derived.Test.YtneojmkccgjcgaaRs2
namespace Go.Proofs.Ytneojmkccgjcgaa
open Go.RowKit

set_option maxRecDepth 100000 in
set_option maxHeartbeats 1000000 in
/-- spec.RSElements. -/
theorem elements_any (F : Gf.Fd) (hF : F.s ≤ 4096) (l : Value) (xs : List Int) (most : Nat) (w : World) (hl : Rd w w.heap.size l (vals .i64 xs)) (hm : most ≤ 4096) :
    Calls Try.prog 27 #[.agg #[.int .i64 F.p, .int .i64 F.s, .int .i64 F.b], l, .int .i64 most] w fun e w' =>
      ∃ v, e = .returned v ∧ RdT w' 3 v (nv ((xs.take most).map (el F))) ∧ Below w.heap.size w w' := by
  obtain ⟨A, ca, rfl, ha1, ha2, ha3⟩ := hl
  simp only [vals_len] at *
  unfold maxLen at ha2
  have hsp := Gf.s_pos F
  have HA := Lib.hid ha3; clear ha3
  obtain ⟨i0, hi0, hz0, hz1, hz2⟩ := info_parts info_int
  go_enter Try.func27, Try.ntmps27
  go_wp2
  go_loopw [7, 8] (fun o i wr => ∃ k : Nat, k ≤ xs.length ∧ k ≤ most ∧ i = .int .i64 k ∧ Hid (wr.ownsRow (w.heap.size + 1) 3 1 o k (nv ((xs.take k).map (el F)))) ∧
      Hid (Below (w.heap.size + 1) (w.alloc (.cells #[.int .i64 F.p, .int .i64 F.s, .int .i64 F.b] 26)) wr)) (fun _ i _ => most - (intOf i).toNat)
  case atStart => exact ⟨0, Nat.zero_le _, Nat.zero_le _, rfl, ⟨by simp [nv], .inl ⟨rfl, rfl⟩⟩, Below.refl _ _⟩
  case round =>
    obtain ⟨k, hk, hkm, rfl, HO, HB⟩ := hrel
    by_cases hlt : k < xs.length
    · by_cases hlm : k < most
      · obtain ⟨ba, oa, rfl, hba, hca⟩ := HA.out (by omega)
        have c1 := hca k (.int .i64 xs[k]) (by simp [vals, hlt])
        clear hca
        have hB := HB.out
        have hO := HO.out
        have hsz : w.heap.size + 1 ≤ wr.heap.size := by have := hB.size; simpa using this
        have b0 : wr.cell? ⟨w.heap.size, 0, none⟩ = some (.int .i64 F.p) := by rw [below_cells hB _ _ (by omega)]; go_cell
        have b1 : wr.cell? ⟨w.heap.size, 1, none⟩ = some (.int .i64 F.s) := by rw [below_cells hB _ _ (by omega)]; go_cell
        have b2 : wr.cell? ⟨w.heap.size, 2, none⟩ = some (.int .i64 F.b) := by rw [below_cells hB _ _ (by omega)]; go_cell
        have c2 : wr.cell? ⟨ba, oa + k, none⟩ = some (.int .i64 xs[k]) := by rw [below_cells hB _ _ (by omega), ← c1]; go_cell
        clear hB hO c1
        go_wp2
        go_region_held3 (fun w' => w'.cell? ⟨w.heap.size, 0, none⟩ = some (.int .i64 F.p) ∧ w'.cell? ⟨w.heap.size, 1, none⟩ = some (.int .i64 F.s) ∧ w'.cell? ⟨w.heap.size, 2, none⟩ = some (.int .i64 F.b) ∧
            w'.cell? ⟨ba, oa + k, none⟩ = some (.int .i64 xs[k]))
          (first
            | go_keep
            | (go_split_ands; exact ⟨cell_up (by assumption) hb1, cell_up (by assumption) hb1, cell_up (by assumption) hb1, cell_up (by assumption) hb1⟩)
            | (go_split_ands; exact ⟨cell_grown (by assumption) hg2 ((own_up (w := wr.drew) HO.out hb1).alloc _) (by simp), cell_grown (by assumption) hg2 ((own_up (w := wr.drew) HO.out hb1).alloc _) (by simp), cell_grown (by assumption) hg2 ((own_up (w := wr.drew) HO.out hb1).alloc _) (by simp), cell_grown (by assumption) hg2 ((own_up (w := wr.drew) HO.out hb1).alloc _) (by simp; omega)⟩))
          (first
            | (go_at_call 12; refine (element_any _ _ _ _ _ (by omega) (by omega)).mono ?_; rintro e w1 ⟨rfl, hb1⟩)
            | (refine step_app1 (by rfl) _ _ _ (by rfl) (w.heap.size + 1) 3 i0 _ 8 Try.underlying33 hi0 hz0 hz1 hz2 rfl u7 k _ (by rfl) _ (.int .i64 (xs[k] % (F.s : Int))) (own_up (w := wr.drew) HO.out hb1) _ (by rfl) (by rfl)
                (by simp only [maxLen]; omega) (by omega) (by have := hb1.size; simp at this; omega) ?_; intro gg cap w2 ho3 hg2))
        have HO3 := Lib.hid ho3; clear ho3
        have HB3 := Lib.hid (below_grown ((below_up HB.out.drew hb1 (by simp; omega)).alloc (by have := hb1.size; simp at this; omega) (.cells #[.int .i64 (xs[k] % (F.s : Int))] 3)) hg2 ((own_up (w := wr.drew) HO.out hb1).alloc _) (by have := hb1.size; simp at this ⊢; omega))
        clear hg2
        go_wp2
        go_roundw
        case rel =>
          refine ⟨k + 1, by omega, by omega, by go_num, ?_, HB3⟩
          have h3 := HO3.out
          rw [List.take_succ_eq_append_getElem hlt, List.map_append, nv_append]
          simp only [List.map_cons, List.map_nil, nv, el_int] at h3 ⊢
          exact h3
        case measure => simp [intOf]; omega
      · have hkm' : k = most := by omega
        go_wp2
        go_ret
        refine ⟨_, rfl, ?_, ?_⟩
        · have := RdT.of_own HO.out
          rw [hkm'] at this; exact this
        · exact ((Below.refl _ _).alloc (Nat.le_refl _) _).trans (HB.out.mono (by simp))
    · have hkl : k = xs.length := by omega
      go_wp2
      go_ret
      refine ⟨_, rfl, ?_, ?_⟩
      · have := RdT.of_own HO.out
        rw [hkl, List.take_length] at this
        rw [List.take_of_length_le (by omega)]; exact this
      · exact ((Below.refl _ _).alloc (Nat.le_refl _) _).trans (HB.out.mono (by simp))
end Go.Proofs.Ytneojmkccgjcgaa
