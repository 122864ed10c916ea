/-
  WALKS: a field is made, and where its table of logarithms lies.
-/
import Derived.Test.YtopfdmmimgnciaaGreatDoorW21
namespace Go.Proofs.YtopfdmmimgnciaaGreatDoor
open Go.RowKit

/-- Block g is a field with its table of logarithms; both lie from block n on. -/
def LogsAt (w : World) (g : Nat) (F : Gf.Fd) (n : Nat) : Prop :=
  ∃ (e0 q0 q1 : Value) (gl : Nat) (cl : Array Value), Blk w g 185 #[e0, .slice (some ⟨gl, 0, none⟩) F.s F.s, q0, q1, .int .i64 F.s, .int .i64 F.p, .int .i64 F.b] ∧ Blk w gl 3 cl ∧ (∀ i, i < F.s - 1 → cl[Gf.ex F i]? = some (.int .i64 (i : Nat))) ∧ n ≤ g ∧ n ≤ gl
theorem LogsAt.up {w w' : World} {g n : Nat} {F : Gf.Fd} (h : LogsAt w g F n) (hb : Below w.heap.size w w') : LogsAt w' g F n := by
  obtain ⟨e0, q0, q1, gl, cl, h1, h2, h3, h4, h5⟩ := h
  exact ⟨e0, q0, q1, gl, cl, h1.up hb, h2.up hb, h3, h4, h5⟩
theorem LogsAt.far {w : World} {g n : Nat} {F : Gf.Fd} (h : LogsAt w g F n) {p : Addr} (hp : p.block < n) (u : Value) : LogsAt (w.setCell p u) g F n := by
  obtain ⟨e0, q0, q1, gl, cl, h1, h2, h3, h4, h5⟩ := h
  exact ⟨e0, q0, q1, gl, cl, h1.far (by omega) u, h2.far (by omega) u, h3, h4, h5⟩
/-- Block g is a field with its table of logarithms; neither lies in block rb. -/
def LogsOff (w : World) (g : Nat) (F : Gf.Fd) (rb : Nat) : Prop :=
  ∃ (e0 q0 q1 : Value) (gl : Nat) (cl : Array Value), Blk w g 185 #[e0, .slice (some ⟨gl, 0, none⟩) F.s F.s, q0, q1, .int .i64 F.s, .int .i64 F.p, .int .i64 F.b] ∧ Blk w gl 3 cl ∧ (∀ i, i < F.s - 1 → cl[Gf.ex F i]? = some (.int .i64 (i : Nat))) ∧ g ≠ rb ∧ gl ≠ rb
theorem LogsOff.up {w w' : World} {g n : Nat} {F : Gf.Fd} (h : LogsOff w g F n) (hb : Below w.heap.size w w') : LogsOff w' g F n := by
  obtain ⟨e0, q0, q1, gl, cl, h1, h2, h3, h4, h5⟩ := h
  exact ⟨e0, q0, q1, gl, cl, h1.up hb, h2.up hb, h3, h4, h5⟩
theorem LogsOff.far {w : World} {g n : Nat} {F : Gf.Fd} (h : LogsOff w g F n) {p : Addr} (hp : p.block = n) (u : Value) : LogsOff (w.setCell p u) g F n := by
  obtain ⟨e0, q0, q1, gl, cl, h1, h2, h3, h4, h5⟩ := h
  exact ⟨e0, q0, q1, gl, cl, h1.far (by omega) u, h2.far (by omega) u, h3, h4, h5⟩
theorem LogsAt.off {w : World} {g n rb : Nat} {F : Gf.Fd} (h : LogsAt w g F n) (hr : rb < n) : LogsOff w g F rb := by
  obtain ⟨e0, q0, q1, gl, cl, h1, h2, h3, h4, h5⟩ := h
  exact ⟨e0, q0, q1, gl, cl, h1, h2, h3, by omega, by omega⟩
/-- A field that was there ahead of the row. -/
theorem FieldAt.off {w : World} {g rb : Nat} {F : Gf.Fd} (h : FieldAt w g F) (hr : w.heap.size ≤ rb) : LogsOff w g F rb := by
  obtain ⟨ge, gl, qz, qo, ce, cl, h⟩ := h
  have h1 := h.blk.lt
  have h2 := h.logs.lt
  exact ⟨_, _, _, gl, cl, h.blk, h.logs, h.log, by omega, by omega⟩
theorem logL_any (g n : Nat) (F : Gf.Fd) (hF : Gf.Ok F) (h12 : F.m ≤ 12) (a : Nat) (ha0 : 0 < a) (ha : a < F.s) (w : World) (hf : LogsOff w g F n) :
    Calls Tryz.prog 105 #[.pointer (some ⟨g, 0, none⟩), .int .i64 a] w fun e w' => e = .returned (.tuple #[.int .i64 (Gf.lg F a : Nat), .nilIface]) ∧ w' = w := by
  obtain ⟨e0, q0, q1, gl, cl, h1, h2, h3, _, _⟩ := hf
  have hs4 := Gf.s_ge4 hF
  have hs12 := s_le F h12
  obtain ⟨hlg, hex⟩ := Gf.lg_spec hF ha0 ha
  have e0 : ((a : Int) == 0) = false := by simp; omega
  have c1 : w.cell? ⟨g, 1, none⟩ = some (.slice (some ⟨gl, 0, none⟩) F.s F.s) := by rw [h1.cell]; rfl
  have cl1 : w.cell? ⟨gl, a, none⟩ = some (.int .i64 (Gf.lg F a : Nat)) := by
    have h9 := h3 _ hlg
    rw [hex] at h9
    rw [h2.cell]; exact h9
  clear hex h1 h2 h3
  generalize Gf.lg F a = la at *
  go_enter Tryz.func105, Tryz.ntmps105
  go_wp2
  go_ret2
  exact ⟨rfl, rfl⟩
def MadeFieldL (w : World) (F : Gf.Fd) (e : Ending) (w' : World) : Prop :=
  ∃ g, e = .returned (.pointer (some ⟨g, 0, none⟩)) ∧ FieldAt w' g F ∧ LogsAt w' g F w.heap.size ∧ Below w.heap.size w w'

set_option maxRecDepth 100000 in
set_option maxHeartbeats 2000000 in
/-- NewGenericGF; where its table of logarithms lies. -/
theorem newFieldL_any (F : Gf.Fd) (hF : Gf.Ok F) (h12 : F.m ≤ 12) (w : World) :
    Calls Tryz.prog 93 #[.int .i64 F.p, .int .i64 F.s, .int .i64 F.b] w (MadeFieldL w F) := by
  have hs4 := Gf.s_ge4 hF
  have hs12 := s_le F h12
  have hp := hF.hi
  have HF := Lib.hid hF; clear hF
  have hmk := fun W => run_mk (P := Tryz.prog) 25 3 (.int .i64 0) 8 Tryz.underlying25 info_int rfl F.s (by omega) (by omega) W
  go_enter Tryz.func93, Tryz.ntmps93
  go_wp2
  clear hmk
  go_loopw [10, 11] (fun x i wr => ∃ (k xn : Nat) (ce : Array Value), k ≤ F.s ∧ xn < F.s ∧ x = .int .i64 (xn : Nat) ∧ i = .int .i64 (k : Nat) ∧ Hid (xn = Gf.ex F k) ∧ Hid (Blk wr (w.heap.size + 1) 3 ce) ∧ Hid (ce.size = F.s) ∧
      Hid (∀ j, j < k → ce[j]? = some (.int .i64 (Gf.ex F j : Nat))) ∧
      Hid (Blk wr w.heap.size 185 #[.slice none 0 0, .slice none 0 0, .pointer none, .pointer none, .int .i64 F.s, .int .i64 F.p, .int .i64 F.b]) ∧
      Hid (Blk wr (w.heap.size + 2) 3 (rep F.s (.int .i64 0))) ∧ Hid (Below w.heap.size w wr)) (fun _ i _ => F.s - (intOf i).toNat)
  case atStart =>
    refine ⟨0, 1, rep F.s (.int .i64 0), Nat.zero_le _, by omega, rfl, rfl, rfl, ?_, rep_size _ _, fun j hj => absurd hj (Nat.not_lt_zero _), ?_, ?_, ?_⟩
    · exact Blk.alloc (Blk.fresh' (by simp)) _
    · exact ((Blk.fresh w _ _).alloc _).alloc _
    · exact Blk.fresh' (by simp)
    · show Below _ _ _; go_grown
  case round =>
    obtain ⟨k, xn, ce, hk, hx, rfl, rfl, HX, HE, HS, HJ, HG, HL, HB⟩ := hrel
    by_cases hlt : k < F.s
    · have hc : wr.cell? ⟨w.heap.size + 1, k, none⟩ = some (ce[k]'(by rw [HS.out]; exact hlt)) := by rw [HE.out.cell]; simp
      have hf : wr.frozen? ⟨w.heap.size + 1, k, none⟩ = false := HE.out.frozen k
      generalize ce[k]'(by rw [HS.out]; exact hlt) = old at hc
      have hst := Gf.step_lt HF.out hx
      have hstep : Gf.step F xn = if F.s ≤ 2 * xn then 2 * xn ^^^ F.p else 2 * xn := rfl
      have ex1 : bits .xor .i64 ((xn : Int) * 2) (F.p : Int) = ((2 * xn ^^^ F.p : Nat) : Int) := by
        have := i64_xor (2 * xn) F.p (by omega) (by omega)
        rw [← this]; congr 1; omega
      have ex2 : bits .and .i64 ((Gf.step F xn : Nat) : Int) ((F.s : Int) - 1) = ((Gf.step F xn : Nat) : Int) := by
        have h1 := i64_and (Gf.step F xn) (F.s - 1) (by omega) (by omega)
        have h2 : ((F.s - 1 : Nat) : Int) = (F.s : Int) - 1 := by omega
        rw [h2] at h1
        rw [h1]
        have h3 : Gf.step F xn &&& (F.s - 1) = Gf.step F xn := by
          show Gf.step F xn &&& (2 ^ F.m - 1) = _
          rw [Nat.and_two_pow_sub_one_eq_mod]; exact Nat.mod_eq_of_lt hst
        rw [h3]
      have HXS : Hid (Gf.step F xn = Gf.ex F (k + 1)) := by rw [HX.out]; rfl
      have HE' : Hid (Blk (wr.setCell ⟨w.heap.size + 1, k, none⟩ (.int .i64 (xn : Nat))) (w.heap.size + 1) 3 (ce.setIfInBounds k (.int .i64 (xn : Nat)))) := HE.out.put k _
      have HS' : Hid ((ce.setIfInBounds k (.int .i64 (xn : Nat))).size = F.s) := by
        show Array.size _ = _
        rw [Array.size_setIfInBounds]; exact HS.out
      have HJ' : Hid (∀ j, j < k + 1 → (ce.setIfInBounds k (.int .i64 (xn : Nat)))[j]? = some (.int .i64 (Gf.ex F j : Nat))) := fun j hj => by
        rw [Array.getElem?_setIfInBounds]
        by_cases hjk : k = j
        · subst hjk
          rw [if_pos rfl, if_pos (by rw [HS.out]; exact hlt), HX.out]
        · rw [if_neg hjk]; exact HJ.out j (by omega)
      have HG' := Lib.hid (HG.out.far (p := ⟨w.heap.size + 1, k, none⟩) (by simp) (.int .i64 (xn : Nat)))
      have HL' := Lib.hid (HL.out.far (p := ⟨w.heap.size + 1, k, none⟩) (by simp) (.int .i64 (xn : Nat)))
      have HB' := Lib.hid (HB.out.setCell (p := ⟨w.heap.size + 1, k, none⟩) (by simp) (.int .i64 (xn : Nat)))
      generalize Gf.step F xn = sx at *
      have HST := Lib.hid hstep; clear hstep
      by_cases h1 : F.s ≤ 2 * xn
      · rw [show ((2 * xn ^^^ F.p : Nat) : Int) = (sx : Int) from by rw [HST.out, if_pos h1]] at ex1
        clear HST
        go_wp2
        go_roundw
        case rel => exact ⟨k + 1, sx, _, by omega, hst, rfl, by go_num, HXS, HE', HS', HJ', HG', HL', HB'⟩
        case measure => simp [intOf]; omega
      · have e1 : (xn : Int) * 2 = (sx : Int) := by rw [HST.out, if_neg h1]; omega
        clear HST ex1 ex2
        go_wp2
        go_roundw
        case rel => exact ⟨k + 1, sx, _, by omega, hst, rfl, by go_num, HXS, HE', HS', HJ', HG', HL', HB'⟩
        case measure => simp [intOf]; omega
    · obtain rfl : k = F.s := by omega
      clear HX hx hk hlt
      go_wp2
      go_loopw [12] (fun i wq => ∃ (k : Nat) (cl : Array Value), k ≤ F.s - 1 ∧ i = .int .i64 (k : Nat) ∧ Hid (Blk wq (w.heap.size + 1) 3 ce) ∧ Hid (Blk wq (w.heap.size + 2) 3 cl) ∧ Hid (cl.size = F.s) ∧
          Hid (∀ j, j < k → cl[Gf.ex F j]? = some (.int .i64 (j : Nat))) ∧
          Hid (Blk wq w.heap.size 185 #[.slice none 0 0, .slice none 0 0, .pointer none, .pointer none, .int .i64 F.s, .int .i64 F.p, .int .i64 F.b]) ∧
          Hid (Below w.heap.size w wq)) (fun i _ => F.s - (intOf i).toNat)
      case atStart => exact ⟨0, _, Nat.zero_le _, rfl, HE, HL, rep_size _ _, fun j hj => absurd hj (Nat.not_lt_zero _), HG, HB⟩
      case round =>
        clear HE HL HG HB
        obtain ⟨k, cl, hk, rfl, HE, HL, HLS, HLJ, HG, HB⟩ := hrel
        by_cases hlt : k < F.s - 1
        · have hxk := Gf.ex_lt HF.out k
          have c1 : wr.cell? ⟨w.heap.size + 1, k, none⟩ = some (.int .i64 (Gf.ex F k : Nat)) := by rw [HE.out.cell]; exact HJ.out k (by omega)
          have HLJ' : Hid (∀ j, j < k + 1 → (cl.setIfInBounds (Gf.ex F k) (.int .i64 (k : Nat)))[Gf.ex F j]? = some (.int .i64 (j : Nat))) := fun j hj => by
            rw [Array.getElem?_setIfInBounds]
            by_cases hjk : j = k
            · subst hjk
              rw [if_pos rfl, if_pos (by rw [HLS.out]; exact hxk)]
            · rw [if_neg (fun he => hjk (Gf.ex_inj HF.out (by omega) (by omega) he.symm))]
              exact HLJ.out j (by omega)
          generalize Gf.ex F k = xk at *
          have c2 : wr.cell? ⟨w.heap.size + 2, xk, none⟩ = some (cl[xk]'(by rw [HLS.out]; exact hxk)) := by rw [HL.out.cell]; simp
          have f2 : wr.frozen? ⟨w.heap.size + 2, xk, none⟩ = false := HL.out.frozen xk
          generalize cl[xk]'(by rw [HLS.out]; exact hxk) = old at c2
          have HE' := Lib.hid (HE.out.far (p := ⟨w.heap.size + 2, xk, none⟩) (by simp) (.int .i64 (k : Nat)))
          have HL' := Lib.hid (HL.out.put xk (.int .i64 (k : Nat)))
          have HLS' : Hid ((cl.setIfInBounds xk (.int .i64 (k : Nat))).size = F.s) := by
            show Array.size _ = _
            rw [Array.size_setIfInBounds]; exact HLS.out
          have HG' := Lib.hid (HG.out.far (p := ⟨w.heap.size + 2, xk, none⟩) (by simp) (.int .i64 (k : Nat)))
          have HB' := Lib.hid (HB.out.setCell (p := ⟨w.heap.size + 2, xk, none⟩) (by simp) (.int .i64 (k : Nat)))
          go_wp2
          go_roundw
          case rel => exact ⟨k + 1, _, by omega, by go_num, HE', HL', HLS', HLJ', HG', HB'⟩
          case measure => simp [intOf]; omega
        · obtain rfl : k = F.s - 1 := by omega
          clear hlt hk
          have g0 := HG.out.cell 0
          have g1 := HG.out.cell 1
          have f0 := HG.out.frozen 0
          have f1 := HG.out.frozen 1
          simp at g0 g1
          go_wp2_with fail
          refine (newPoly_any w.heap.size _ [0] _ (RdT.one (by simp) 3 (.int .i64 0)) (by simp)).mono ?_
          rintro e w1 ⟨qz, rfl, hz, hb1⟩
          have G1 := ((((HG.out.put 0 _).put 1 _).alloc _).up hb1)
          simp only [List.setIfInBounds_toArray, List.set_cons_zero, List.set_cons_succ] at G1
          have E1 := ((((HE.out.far (p := ⟨w.heap.size, 0, none⟩) (by simp) _).far (p := ⟨w.heap.size, 1, none⟩) (by simp) _).alloc _).up hb1)
          have L1 := ((((HL.out.far (p := ⟨w.heap.size, 0, none⟩) (by simp) _).far (p := ⟨w.heap.size, 1, none⟩) (by simp) _).alloc _).up hb1)
          have B1 := below_up (((HB.out.setCell (p := ⟨w.heap.size, 0, none⟩) (by simp) _).setCell (p := ⟨w.heap.size, 1, none⟩) (by simp) _).alloc (by have := HB.out.size; simp; omega) _) hb1 (by have := HB.out.size; simp; omega)
          clear g0 g1 f0 f1 hb1 HG HE HL HB
          have HG := Lib.hid G1
          have g2 := G1.cell 2
          have f2 := G1.frozen 2
          simp only [List.getElem?_toArray, List.getElem?_cons_succ, List.getElem?_cons_zero] at g2
          have HE := Lib.hid E1
          have HL := Lib.hid L1
          have HB := Lib.hid B1
          have HZ := Lib.hid hz
          clear G1 E1 L1 B1 hz
          go_wp2_with fail
          refine (newPoly_any w.heap.size _ [1] _ (RdT.one (by simp) 3 (.int .i64 1)) (by simp)).mono ?_
          rintro e w2 ⟨qo, rfl, ho, hb2⟩
          have G1 := (((HG.out.put 2 _).alloc _).up hb2)
          simp only [List.setIfInBounds_toArray, List.set_cons_zero, List.set_cons_succ] at G1
          have E1 := (((HE.out.far (p := ⟨w.heap.size, 2, none⟩) (by simp) _).alloc _).up hb2)
          have L1 := (((HL.out.far (p := ⟨w.heap.size, 2, none⟩) (by simp) _).alloc _).up hb2)
          have B1 := below_up ((HB.out.setCell (p := ⟨w.heap.size, 2, none⟩) (by simp) _).alloc (by have := HB.out.size; simp; omega) _) hb2 (by have := HB.out.size; simp; omega)
          have Z1 := (((HZ.out.far (p := ⟨w.heap.size, 2, none⟩) HG.out (by decide) (by decide) _).up (Below.alloc (Below.refl _ _) (Nat.le_refl _) _)).up hb2)
          clear g2 f2 hb2 HG HE HL HB HZ
          have HG := Lib.hid G1
          have g3 := G1.cell 3
          have f3 := G1.frozen 3
          simp only [List.getElem?_toArray, List.getElem?_cons_succ, List.getElem?_cons_zero] at g3
          have HE := Lib.hid E1
          have HL := Lib.hid L1
          have HB := Lib.hid B1
          have HZ := Lib.hid Z1
          have HO := Lib.hid ho
          clear G1 E1 L1 B1 Z1 ho
          go_wp2
          go_ret
          refine ⟨_, rfl, ⟨_, _, qz, qo, ce, cl, ?_, HE.out.far (by simp) _, HJ.out, HL.out.far (by simp) _, HLJ.out, ?_, ?_⟩, ⟨.slice (some ⟨w.heap.size + 1, 0, none⟩) F.s F.s, .pointer (some ⟨qz, 0, none⟩), .pointer (some ⟨qo, 0, none⟩), w.heap.size + 2, cl, ?_, HL.out.far (by simp) _, HLJ.out, Nat.le_refl _, by omega⟩, HB.out.setCell (by simp) _⟩
          · simpa using HG.out.put 3 (.pointer (some ⟨qo, 0, none⟩))
          · exact HZ.out.far (p := ⟨w.heap.size, 3, none⟩) HG.out (by decide) (by decide) _
          · exact HO.out.far (p := ⟨w.heap.size, 3, none⟩) HG.out (by decide) (by decide) _
          · simpa using HG.out.put 3 (.pointer (some ⟨qo, 0, none⟩))
end Go.Proofs.YtopfdmmimgnciaaGreatDoor
