/-
  WALKS: widths, their sums, and what is asked of them.
-/
import Derived.Test.YtknipefcihkofaaRv2
namespace Go.Proofs.Ytknipefcihkofaa
open Go.RowKit

theorem info_parts {P : Program} {e : TypeId} {z : Value} {b : Nat} (h : (P.info? e).map (fun i => (i.zero, i.size, i.bytes)) = some (some z, 1, b)) :
    ∃ i, P.info? e = some i ∧ i.zero = some z ∧ i.size = 1 ∧ i.bytes = b := by
  obtain ⟨i, hi, hh⟩ := Option.map_eq_some_iff.1 h
  simp only [Prod.mk.injEq] at hh
  exact ⟨i, hi, hh.1, hh.2.1, hh.2.2⟩
theorem info_int : (Try.prog.info? 3).map (fun i => (i.zero, i.size, i.bytes)) = some (some (.int .i64 0), 1, 8) := by kernel_rfl
/-- Bytes as values. -/
def uv8 (xs : List Nat) : List Value := xs.map fun n : Nat => Value.int .u8 (n : Int)
theorem uv8_len (xs : List Nat) : (uv8 xs).length = xs.length := by simp [uv8]
theorem uv8_at (xs : List Nat) (i : Nat) (h : i < xs.length) : (uv8 xs)[i]? = some (.int .u8 ((xs[i] : Nat) : Int)) := by simp [uv8, h]
def wl0 (xs : List Nat) (most : Nat) : List Nat := (xs.take 6).map fun x => 1 + x % most
def wl (xs : List Nat) (most : Nat) : List Nat := if wl0 xs most = [] then [1] else wl0 xs most
theorem wl_in (xs : List Nat) (most : Nat) (h : 1 ≤ most) : ∀ x ∈ wl xs most, 1 ≤ x ∧ x ≤ most := by
  intro x hx
  unfold wl at hx
  split at hx
  · simp at hx; omega
  · unfold wl0 at hx
    obtain ⟨y, _, rfl⟩ := List.mem_map.1 hx
    have := Nat.mod_lt y (show 0 < most by omega)
    omega
theorem wl_len (xs : List Nat) (most : Nat) : 1 ≤ (wl xs most).length ∧ (wl xs most).length ≤ 6 := by
  unfold wl
  split
  · decide
  · rename_i h
    rcases h2 : wl0 xs most with _ | ⟨a, r⟩
    · exact absurd h2 h
    · rw [← h2]
      refine ⟨by rw [h2]; simp, ?_⟩
      unfold wl0
      rw [List.length_map, List.length_take]; omega

theorem most_any (n : Nat) (w : World) (hn : n < 256) : Calls Try.prog 8 #[.int .u8 n] w fun e w' => e = .returned (.int .i64 ((1 + n % 9 : Nat) : Int)) ∧ w' = w := by
  go_enter Try.func8, Try.ntmps8
  go_wp2
  go_ret
  exact ⟨ret_int (by simp), rfl⟩
theorem sum_any (v : Value) (l : List Nat) (w : World) (hv : Rd w w.heap.size v (nv l)) (hl : l.length ≤ 6) (hw : ∀ x ∈ l, 1 ≤ x ∧ x ≤ 9) :
    Calls Try.prog 10 #[v] w fun e w' => e = .returned (.int .i64 (l.sum : Nat)) ∧ w' = w := by
  obtain ⟨A, cap, rfl, h1, h2, h3⟩ := hv
  rw [nv_len] at *
  unfold maxLen at h2
  have HA := Lib.hid h3; clear h3
  have HW := Lib.hid hw; clear hw
  go_enter Try.func10, Try.ntmps10
  go_wp2
  go_loop [3, 8] (fun n i => ∃ k s : Nat, k ≤ l.length ∧ s ≤ 9 * k ∧ i = .int .i64 k ∧ n = .int .i64 s ∧ Hid (s = (l.take k).sum)) (fun _ i => l.length - (intOf i).toNat)
  case atStart => exact ⟨0, 0, by omega, by omega, rfl, rfl, Lib.hid rfl⟩
  case round =>
    obtain ⟨k, s, hk, hs, rfl, rfl, HS⟩ := hrel
    by_cases hlt : k < l.length
    · obtain ⟨b, o, rfl, hb, hcell⟩ := HA.out (by omega)
      have c1 := hcell k _ (nv_at l k hlt)
      have hgd : l.getD k 0 = l[k] := by rw [List.getD, List.getElem?_eq_getElem hlt]; rfl
      have hx := HW.out _ (List.getElem_mem hlt)
      rw [hgd] at c1
      have HS2 : Hid (s + l[k] = (l.take (k + 1)).sum) := Lib.hid (by rw [List.take_succ_eq_append_getElem hlt, List.sum_append, HS.out]; simp)
      clear hgd hcell
      generalize l[k] = y at *
      go_wp2
      go_round
      case rel => exact ⟨k + 1, s + y, by omega, by omega, by go_num, by go_num, HS2⟩
      case measure => simp [intOf]; omega
    · obtain rfl : k = l.length := by omega
      have HT : Hid (s = l.sum) := Lib.hid (by rw [HS.out, List.take_length])
      go_wp2
      go_ret
      exact ⟨ret_int (by rw [HT.out]), rfl⟩
theorem asked_any (v : Value) (l : List Nat) (most : Nat) (w : World) (hv : Rd w w.heap.size v (nv l)) (hl : l.length ≤ 6) (hw : ∀ x ∈ l, 1 ≤ x ∧ x ≤ 9) (hm : most ≤ 9) :
    Calls Try.prog 11 #[v, .int .i64 most, .bool false] w fun e w' => e = .returned (.bool (decide ((l.sum : Int) - (l.length : Int) < 2 * (most : Int)))) ∧ w' = w := by
  have hs : l.sum ≤ 54 := by
    have : ∀ l : List Nat, (∀ x ∈ l, x ≤ 9) → l.sum ≤ 9 * l.length := by
      intro l h
      induction l with
      | nil => exact Nat.le_refl _
      | cons a r ih =>
        have h1 := h a (List.mem_cons_self ..)
        have h2 := ih (fun x hx => h x (List.mem_cons_of_mem _ hx))
        rw [List.length_cons, List.sum_cons]; omega
    have := this l (fun x hx => (hw x hx).2)
    omega
  obtain ⟨A, cap, rfl, h1, h2, h3⟩ := id hv
  have HV := Lib.hid hv; clear hv h3
  rw [nv_len] at *
  unfold maxLen at h2
  by_cases ht : (l.sum : Int) - (l.length : Int) < 2 * (most : Int)
  all_goals
    go_enter Try.func11, Try.ntmps11
    go_wp2_with fail
    refine (sum_any _ l w HV.out hl hw).mono ?_
    rintro e w1 ⟨rfl, rfl⟩
    go_wp2
    go_ret
    exact ⟨ret_bool (by simp; omega), rfl⟩
/-- impl.RSSValue. -/
theorem value_any (v : Value) (l : List Nat) (most : Nat) (w : World) (hv : Rd w w.heap.size v (nv l)) (hl : l.length ≤ 6) (hl1 : 1 ≤ l.length) (hw : ∀ x ∈ l, 1 ≤ x ∧ x ≤ 9) (hm : most ≤ 9) :
    Calls Try.prog 12 #[v, .int .i64 most, .bool false] w fun e w' => e = .returned (.int .i64 (val most l.sum l)) ∧ Below w.heap.size w w' := by
  obtain ⟨i0, hi0, hz0, hz1, hz2⟩ := info_parts info_int
  have HV := Lib.hid hv; clear hv
  go_enter Try.func12, Try.ntmps12
  go_wp2_with (at_builtin; refine list_app_rd _ rfl _ _ _ rfl w.heap.size 3 i0 _ 8 Try.underlying27 hi0 hz0 hz1 hz2 rfl _ 0 [] rfl (own_nil _ _ _) _ _ (nv l) rfl HV.out (nv_one _) (by rw [nv_len]; unfold maxLen; omega) (by rw [nv_len]; omega) (Nat.le_refl _) ?_; intro v1 w1 ho1 hg1)
  have HO := Lib.hid (Rd.of_own ho1)
  have HB := Lib.hid (below_grown (brf w) hg1 (own_nil _ _ 3) (Nat.le_refl _))
  clear ho1 hg1
  go_wp2_with fail
  refine (rss_any v1 l most w1 (by simpa using HO.out) hl hl1 hw hm).mono ?_
  rintro e w2 ⟨rfl, rfl⟩
  go_wp2
  go_ret
  exact ⟨rfl, HB.out⟩
end Go.Proofs.Ytknipefcihkofaa
