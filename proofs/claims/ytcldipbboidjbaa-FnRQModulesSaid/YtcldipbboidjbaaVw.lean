/-
  GROUND: an argument that is a view of a symbol (spec.RQView).
-/
import Derived.Test.YtcldipbboidjbaaRqC
import Derived.Test.YtcldipbboidjbaaArr
import Derived.ChangeSame
namespace Go.Proofs.Ytcldipbboidjbaa
open Go.RowKit Go.ChangeShapes Go.WideShapes Go.ChangeAt Go.Deep
section
variable {H : Type} {enc : TypeId × Value → H} {P : Program}
theorem u8_nat {x : Int} (h : (Lit.int .u8 x).wf = true) : ∃ k : Nat, x = (k : Int) ∧ k < 256 := by
  have hb := bounds_u8 h
  obtain ⟨k, rfl⟩ := Int.eq_ofNat_of_zero_le hb.1
  exact ⟨k, rfl, by omega⟩
theorem view_arg {t e : TypeId} {f0 f1 f2 f3 f4 : Field} {W : World} {v : Value} {d : DataW H} {ps : List MemPlace} (ht : P.underlying t = some (.struct #[f0, f1, f2, f3, f4])) (hc : P.cellsOf t = 8)
    (ho : f0.offset = 0 ∧ f1.offset = 1 ∧ f2.offset = 5 ∧ f3.offset = 6 ∧ f4.offset = 7) (hz : P.cellsOf f0.type = 1 ∧ P.cellsOf f1.type = 4 ∧ P.cellsOf f2.type = 1 ∧ P.cellsOf f3.type = 1 ∧ P.cellsOf f4.type = 1)
    (h0 : P.underlying f0.type = some (.int .u8)) (h1 : P.underlying f1.type = some (.array 4 e)) (he : P.underlying e = some (.int .u8)) (hce : P.cellsOf e = 1)
    (h2 : P.underlying f2.type = some (.int .u8)) (h3 : P.underlying f3.type = some (.int .u8)) (h4 : P.underlying f4.type = some .bool)
    (hv : ∃ cs, v = .agg cs ∧ cs.size = P.cellsOf t) (h : DataW.Trod enc P W 0 (fun _ => true) true t v d ps) :
    ∃ (s b0 b1 b2 b3 dk l : Nat) (p : Bool), v = .agg (viewC s b0 b1 b2 b3 dk l p) ∧ s < 256 ∧ b0 < 256 ∧ b1 < 256 ∧ b2 < 256 ∧ b3 < 256 := by
  obtain ⟨xs, rfl, hn⟩ := hv
  obtain ⟨fuel, hf⟩ := h
  obtain ⟨ys, n, _, -, -, hlen, hg⟩ := DataW.trod_struct ht hf
  rw [hc] at hn
  obtain ⟨cs⟩ := xs
  obtain ⟨o0, o1, o2, o3, o4⟩ := ho
  obtain ⟨z0, z1, z2, z3, z4⟩ := hz
  match cs, hn with
  | [k0, k1, k2, k3, k4, k5, k6, k7], _ =>
    match ys, hlen with
    | [y0, y1, y2, y3, y4], _ =>
      have g0 : DataW.trod enc P W 0 (fun _ => true) true n f0.type [k0] = some y0 := by simpa [Value.cells, o0, z0] using hg 0 f0 rfl
      have g1 : DataW.trod enc P W 0 (fun _ => true) true n f1.type [k1, k2, k3, k4] = some y1 := by simpa [Value.cells, o1, z1] using hg 1 f1 rfl
      have g2 : DataW.trod enc P W 0 (fun _ => true) true n f2.type [k5] = some y2 := by simpa [Value.cells, o2, z2] using hg 2 f2 rfl
      have g3 : DataW.trod enc P W 0 (fun _ => true) true n f3.type [k6] = some y3 := by simpa [Value.cells, o3, z3] using hg 3 f3 rfl
      have g4 : DataW.trod enc P W 0 (fun _ => true) true n f4.type [k7] = some y4 := by simpa [Value.cells, o4, z4] using hg 4 f4 rfl
      obtain ⟨x0, e0, -, w0⟩ := DataW.trod_int h0 g0
      obtain ⟨x2, e2, -, w2⟩ := DataW.trod_int h2 g2
      obtain ⟨x3, e3, -, w3⟩ := DataW.trod_int h3 g3
      obtain ⟨x4, e4, -⟩ := DataW.trod_bool h4 g4
      obtain ⟨zs, ez, lz, wz⟩ := arr_ints (d := y1.1) (ps := y1.2) (v := .agg #[k1, k2, k3, k4]) h1 he hce z1 ⟨_, rfl, by rw [z1]; rfl⟩ ⟨n, by simpa [Value.cells] using g1⟩
      simp only [List.cons.injEq, and_true] at e0 e2 e3 e4
      subst e0 e2 e3 e4
      match zs, lz with
      | [a0, a1, a2, a3], _ =>
        injection ez with ez
        have ez : [k1, k2, k3, k4] = vals .u8 [a0, a1, a2, a3] := congrArg Array.toList ez
        simp only [vals, List.map_cons, List.map_nil, List.cons.injEq, and_true] at ez
        obtain ⟨s, rfl, hs⟩ := u8_nat w0
        obtain ⟨dk, rfl, -⟩ := u8_nat w2
        obtain ⟨l, rfl, -⟩ := u8_nat w3
        obtain ⟨b0, rfl, q0⟩ := u8_nat (wz a0 (by simp))
        obtain ⟨b1, rfl, q1⟩ := u8_nat (wz a1 (by simp))
        obtain ⟨b2, rfl, q2⟩ := u8_nat (wz a2 (by simp))
        obtain ⟨b3, rfl, q3⟩ := u8_nat (wz a3 (by simp))
        obtain ⟨rfl, rfl, rfl, rfl⟩ := ez
        exact ⟨s, b0, b1, b2, b3, dk, l, x4, rfl, hs, q0, q1, q2, q3⟩
end
end Go.Proofs.Ytcldipbboidjbaa
