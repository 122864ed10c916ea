/-
  GROUND: steps on an array: a list of structs.
-/
import Derived.Test.YtjhfebhefclenaaAr7
import Derived.Test.YtjhfebhefclenaaArgs
namespace Go.Proofs.Ytjhfebhefclenaa
open Go.RowKit Go.ChangeShapes Go.WideShapes Go.ChangeAt

structure Step where
  op : Int
  a : Int
  b : Int
  bits : List Bool
/-- A slice of bools that reads so, in a block below B. -/
def IsB (w : World) (B : Nat) (u : Value) (l : List Bool) : Prop := Rd w B u (bv l)
/-- At cell o of block g lies a step. -/
structure StepAt (w : World) (B g o : Nat) (s : Step) (u : Value) : Prop where
  c0 : w.cell? ⟨g, o, none⟩ = some (.int .i64 s.op)
  c1 : w.cell? ⟨g, o + 1, none⟩ = some (.int .i64 s.a)
  c2 : w.cell? ⟨g, o + 2, none⟩ = some (.int .i64 s.b)
  c3 : w.cell? ⟨g, o + 3, none⟩ = some u
  rd : Rd w B u (bv s.bits)
theorem StepAt.below {w w' : World} {B g o : Nat} {s : Step} {u : Value} (h : StepAt w B g o s u) (hb : Below B w w') (hg : g < B) : StepAt w' B g o s u :=
  ⟨(below_cells hb g _ hg).trans h.c0, (below_cells hb g _ hg).trans h.c1, (below_cells hb g _ hg).trans h.c2, (below_cells hb g _ hg).trans h.c3, h.rd.below hb⟩
/-- The slice value v reads as steps; all lies below block B. -/
def RdS (w : World) (B : Nat) (v : Value) (st : List Step) : Prop :=
  ∃ A cap, v = .slice A st.length cap ∧ st.length ≤ cap ∧ cap ≤ maxLen ∧
    (0 < st.length → ∃ g o, A = some ⟨g, o, none⟩ ∧ g < B ∧ ∀ i s, st[i]? = some s → ∃ u, StepAt w B g (o + i * 4) s u)
theorem RdS.below {w w' : World} {B : Nat} {v : Value} {st : List Step} (h : RdS w B v st) (hb : Below B w w') : RdS w' B v st := by
  obtain ⟨A, cap, hv, h1, h2, h3⟩ := h
  refine ⟨A, cap, hv, h1, h2, fun hp => ?_⟩
  obtain ⟨g, o, hA, hg, hc⟩ := h3 hp
  exact ⟨g, o, hA, hg, fun i s hs => by obtain ⟨u, hu⟩ := hc i s hs; exact ⟨u, hu.below hb hg⟩⟩
theorem RdS.more {w : World} {B B' : Nat} {v : Value} {st : List Step} (h : RdS w B v st) (hB : B ≤ B') : RdS w B' v st := by
  obtain ⟨A, cap, hv, h1, h2, h3⟩ := h
  refine ⟨A, cap, hv, h1, h2, fun hp => ?_⟩
  obtain ⟨g, o, hA, hg, hc⟩ := h3 hp
  exact ⟨g, o, hA, by omega, fun i s hs => by obtain ⟨u, hu⟩ := hc i s hs; exact ⟨u, hu.c0, hu.c1, hu.c2, hu.c3, hu.rd.more hB⟩⟩
theorem RdS.up {w w' : World} {v : Value} {st : List Step} (h : RdS w w.heap.size v st) (hb : Below w.heap.size w w') : RdS w' w'.heap.size v st := (h.below hb).more hb.size
/-- A step is not too long. -/
def fitB (s : Step) : Bool := decide (s.bits.length ≤ 2147483647)
/-- All steps are not too long, nor too many. -/
def fitS (st : List Step) : Bool := decide (st.length ≤ 2147483647) && st.all fitB
theorem fits2_any (op a b : Value) (A : Option Addr) (n cap : Nat) (w : World) :
    Calls Try.prog 10 #[.agg #[op, a, b, .slice A n cap]] w fun e w' => e = .returned (.bool (decide (n ≤ 2147483647))) ∧ Below w.heap.size w w' := by
  by_cases h : n ≤ 2147483647
  · have h2 : (n : Int) ≤ 2147483647 := by omega
    rw [decide_eq_true h]
    go_enter Try.func10, Try.ntmps10
    go_wp2
    go_ret
    exact ⟨rfl, bal (brf w) _⟩
  · have h2 : ¬ (n : Int) ≤ 2147483647 := by omega
    rw [decide_eq_false h]
    go_enter Try.func10, Try.ntmps10
    go_wp2
    go_ret
    exact ⟨rfl, bal (brf w) _⟩
theorem fitS_far (st : List Step) (h : ¬ st.length ≤ 2147483647) : fitS st = false := by unfold fitS; rw [decide_eq_false h]; rfl
theorem fitS_bad (st : List Step) (i : Nat) (s : Step) (h : st[i]? = some s) (hb : fitB s = false) : fitS st = false := by
  have : st.all fitB = false := by
    rw [List.all_eq_false]
    exact ⟨s, List.mem_of_getElem? h, by rw [hb]; decide⟩
  unfold fitS; rw [this, Bool.and_false]
theorem fitS_all (st : List Step) (h : st.length ≤ 2147483647) (hb : ∀ (i : Nat) (s : Step), st[i]? = some s → fitB s = true) : fitS st = true := by
  have : st.all fitB = true := by
    rw [List.all_eq_true]
    intro s hs
    obtain ⟨i, hi, rfl⟩ := List.getElem_of_mem hs
    exact hb i _ (List.getElem?_eq_getElem hi)
  unfold fitS; rw [this, decide_eq_true h]; rfl
theorem fits1_any (v : Value) (st : List Step) (w : World) (h : RdS w w.heap.size v st) :
    Calls Try.prog 4 #[v] w fun e w' => e = .returned (.bool (fitS st)) ∧ Below w.heap.size w w' := by
  obtain ⟨A, cap, rfl, h1, h2, h3⟩ := h
  unfold maxLen at h2
  have HA := Lib.hid h3; clear h3
  by_cases hbig : st.length ≤ 2147483647
  · have hb2 : (st.length : Int) ≤ 2147483647 := by omega
    have HF := Lib.hid (fitS_all st hbig)
    go_enter Try.func4, Try.ntmps4
    go_wp2_with fail
    go_loopw [10] (fun iv wr => ∃ i : Nat, i ≤ st.length ∧ iv = .int .i64 i ∧ Hid (∀ j s, j < i → st[j]? = some s → fitB s = true) ∧ Hid (Below w.heap.size w wr)) (fun iv _ => st.length - (intOf iv).toNat)
    case atStart => exact ⟨0, Nat.zero_le _, rfl, Lib.hid (fun j s h => absurd h (Nat.not_lt_zero _)), Lib.hid (brf w)⟩
    case round =>
      obtain ⟨i, hi, rfl, HP, HB⟩ := hrel
      by_cases hlt : i < st.length
      · obtain ⟨g, o, rfl, hg, hc⟩ := HA.out (by omega)
        obtain ⟨s, hs⟩ : ∃ s, st[i]? = some s := ⟨_, List.getElem?_eq_getElem hlt⟩
        obtain ⟨u, hu⟩ := hc i s hs
        obtain ⟨A', c', rfl, k1, k2⟩ := hu.rd.form
        have HU := hu.below HB.out hg
        have d0 := HU.c0
        have d1 := HU.c1
        have d2 := HU.c2
        have d3 := HU.c3
        rw [bv_len] at d3
        have HX := Lib.hid hs
        have HFs : Hid (decide (s.bits.length ≤ 2147483647) = fitB s) := Lib.hid rfl
        clear HU hu hc hs k1 k2
        go_wp2_with fail
        refine (fits2_any _ _ _ A' s.bits.length c' _).mono ?_
        rintro e w3 ⟨rfl, hb3⟩
        have HB3 : Hid (Below w.heap.size w w3) := Lib.hid ((bal HB.out (.cells #[.int .i64 s.op, .int .i64 s.a, .int .i64 s.b, .slice A' s.bits.length c'] 32)).trans (hb3.mono (by have := HB.out.size; simp; omega)))
        rw [HFs.out]
        clear hb3 d0 d1 d2 d3 HB HFs
        cases hfb : fitB s
        · have HR := Lib.hid (fitS_bad st i s HX.out hfb)
          clear hfb
          go_wp2_with fail
          go_ret
          exact ⟨ret_bool HR.out.symm, HB3.out⟩
        · have HP2 : Hid (∀ (j : Nat) (s : Step), j < i + 1 → st[j]? = some s → fitB s = true) := Lib.hid (fun j s' hj hs' => by
            by_cases hji : j < i
            · exact HP.out j s' hji hs'
            · obtain rfl : j = i := by omega
              rw [HX.out] at hs'; injection hs' with hs'; subst hs'; exact hfb)
          clear hfb HP
          go_wp2_with fail
          go_roundw
          case rel => exact ⟨i + 1, by omega, by go_num, HP2, HB3⟩
          case measure => simp [intOf]; omega
      · obtain rfl : i = st.length := by omega
        have HR := Lib.hid (HF.out fun j s hs => HP.out j s (List.getElem?_eq_some_iff.1 hs).1 hs)
        clear HP HF
        go_wp2_with fail
        go_ret
        exact ⟨ret_bool HR.out.symm, HB.out⟩
  · have hb2 : ¬ (st.length : Int) ≤ 2147483647 := by omega
    have HR := Lib.hid (fitS_far st hbig)
    go_enter Try.func4, Try.ntmps4
    go_wp2_with fail
    go_ret
    exact ⟨ret_bool HR.out.symm, brf w⟩
end Go.Proofs.Ytjhfebhefclenaa
