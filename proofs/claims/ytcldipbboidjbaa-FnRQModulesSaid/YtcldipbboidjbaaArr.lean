/-
  GROUND: what an argument that is an array of integers reads as.
-/
import Derived.Test.YtcldipbboidjbaaBase
import Derived.WideKeyArr2
namespace Go.Proofs.Ytcldipbboidjbaa
open Go.ChangeShapes Go.WideShapes Go.ChangeAt Go.RowKit

theorem mapM_all {α β : Type} {f : α → Option β} : ∀ (L : List α) (ys : List β), L.mapM f = some ys → ∀ i ∈ L, ∃ y, f i = some y
  | [], _, _, i, hi => by cases hi
  | a :: L, ys, h, i, hi => by
    rw [List.mapM_cons] at h
    simp only [bind, Option.bind_eq_some_iff, pure, Option.some.injEq] at h
    obtain ⟨y, hy, zs, hzs, rfl⟩ := h
    rcases List.mem_cons.1 hi with rfl | hi
    · exact ⟨y, hy⟩
    · exact mapM_all L zs hzs i hi
theorem vals_of {k : IntKind} : ∀ cs : List Value, (∀ v ∈ cs, ∃ a, v = .int k a ∧ (Lit.int k a).wf = true) → ∃ zs : List Int, cs = vals k zs ∧ ∀ z ∈ zs, (Lit.int k z).wf = true
  | [], _ => ⟨[], rfl, fun z hz => by cases hz⟩
  | c :: cs, h => by
    obtain ⟨a, rfl, ha⟩ := h c (List.mem_cons_self ..)
    obtain ⟨zs, rfl, hz⟩ := vals_of cs (fun v hv => h v (List.mem_cons_of_mem _ hv))
    refine ⟨a :: zs, rfl, fun z hz' => ?_⟩
    rcases List.mem_cons.1 hz' with rfl | hz'
    · exact ha
    · exact hz z hz'
section
variable {H : Type} {enc : TypeId × Value → H} {P : Program}
theorem okWide_arr {t e : TypeId} {n : Nat} {r : Reach} {b0 : Nat} {W : World} {v : Value} (ht : P.underlying t = some (.array n e)) (h : Value.okWide P W r b0 t v) : ∃ xs : Array Value, v = .agg xs ∧ xs.size = P.cellsOf t := by
  simp only [Value.okWide, ht] at h
  obtain ⟨cs, h1, h2, _⟩ := h
  exact ⟨cs, h1, h2⟩
theorem arr_ints {t e : TypeId} {k : IntKind} {n : Nat} {W : World} {v : Value} {d : DataW H} {ps : List MemPlace} (ht : P.underlying t = some (.array n e)) (he : P.underlying e = some (.int k)) (hc : P.cellsOf e = 1) (hct : P.cellsOf t = n)
    (hv : ∃ xs : Array Value, v = .agg xs ∧ xs.size = P.cellsOf t) (h : DataW.Trod enc P W 0 (fun _ => true) true t v d ps) :
    ∃ zs : List Int, v = .agg (vals k zs).toArray ∧ zs.length = n ∧ ∀ z ∈ zs, (Lit.int k z).wf = true := by
  obtain ⟨xs, rfl, hn⟩ := hv
  obtain ⟨fuel, hf⟩ := h
  cases fuel with
  | zero => simp [DataW.trod] at hf
  | succ m =>
    rw [DataW.trod_step] at hf
    unfold DataW.trodStep at hf
    simp only [ht, Value.cells] at hf
    rw [if_pos (by simpa using hn)] at hf
    simp only [Option.map_eq_some_iff] at hf
    obtain ⟨ys, hy, -⟩ := hf
    have hall := mapM_all _ _ hy
    obtain ⟨zs, hz, hw⟩ := vals_of (k := k) xs.toList (fun v hv => by
      obtain ⟨i, hi, rfl⟩ := List.getElem_of_mem hv
      have hin : i < n := by rw [Array.length_toList, hn, hct] at hi; exact hi
      obtain ⟨y, hyi⟩ := hall i (List.mem_range.2 hin)
      have e1 : (xs.toList.drop (i * P.cellsOf e)).take (P.cellsOf e) = [xs.toList[i]] := by
        rw [hc, Nat.mul_one, List.drop_eq_getElem_cons hi]; rfl
      rw [e1] at hyi
      obtain ⟨a, ea, _, wa⟩ := DataW.trod_int he hyi
      exact ⟨a, by simpa using ea, wa⟩)
    refine ⟨zs, by rw [← hz], ?_, hw⟩
    have := congrArg List.length hz
    rw [vals_len, Array.length_toList, hn, hct] at this
    exact this.symm
end
end Go.Proofs.Ytcldipbboidjbaa
