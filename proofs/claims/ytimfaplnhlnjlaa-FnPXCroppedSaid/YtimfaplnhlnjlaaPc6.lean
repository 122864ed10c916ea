/-
  THE LAW of parts of parts, its arguments as they come.
-/
import Derived.Test.YtimfaplnhlnjlaaPc5
import Derived.Test.YtimfaplnhlnjlaaArr
namespace Go.Proofs.Ytimfaplnhlnjlaa
open Go.RowKit Go.WideShapes Go.ChangeShapes

theorem vals_b8 {l : List Int} (wf : ∀ n ∈ l, (Lit.int .u8 n).wf = true) : vals .u8 l = b8 (l.map Int.toNat) ∧ ∀ x ∈ l.map Int.toNat, x < 256 := by
  constructor
  · unfold vals b8
    rw [List.map_map]
    apply List.map_congr_left
    intro n hn
    have := bounds_u8 (wf n hn)
    simp only [Function.comp]
    rw [Int.toNat_of_nonneg this.1]
  · intro x hx
    obtain ⟨n, hn, rfl⟩ := List.mem_map.1 hx
    have := bounds_u8 (wf n hn)
    omega
theorem cons_of {α : Type} {n : Nat} {l : List α} (h : l.length = n + 1) : ∃ a b, l = a :: b ∧ b.length = n := by
  cases l with
  | nil => simp at h
  | cons a b => exact ⟨a, b, rfl, by simpa using h⟩
theorem cropped_law (v : Value) (l : List Int) (n : Nat) (zs : List Int) (w : World) (hv : Rd w w.heap.size v (vals .u8 l)) (wl : ∀ z ∈ l, (Lit.int .u8 z).wf = true) (hn : n < 256) (hz : zs.length = 8) (wz : ∀ z ∈ zs, (Lit.int .u8 z).wf = true) :
    Calls Try.prog 4 #[v, .int .u8 n, .agg (vals .u8 zs).toArray] w fun e w' => e = .returned (.bool true) ∧ Below w.heap.size w w' := by
  obtain ⟨h1, h2⟩ := vals_b8 wl
  obtain ⟨h3, h4⟩ := vals_b8 wz
  have h5 : (zs.map Int.toNat).length = 8 := by simpa using hz
  rw [h3]
  rw [h1] at hv
  generalize zs.map Int.toNat = ps at *
  obtain ⟨p0, r0, rfl, k0⟩ := cons_of h5
  obtain ⟨p1, r1, rfl, k1⟩ := cons_of k0
  obtain ⟨p2, r2, rfl, k2⟩ := cons_of k1
  obtain ⟨p3, r3, rfl, k3⟩ := cons_of k2
  obtain ⟨p4, r4, rfl, k4⟩ := cons_of k3
  obtain ⟨p5, r5, rfl, k5⟩ := cons_of k4
  obtain ⟨p6, r6, rfl, k6⟩ := cons_of k5
  obtain ⟨p7, r7, rfl, k7⟩ := cons_of k6
  obtain rfl := List.eq_nil_of_length_eq_zero k7
  exact cropped_walk v _ n p0 p1 p2 p3 p4 p5 p6 p7 w hv h2 hn ⟨⟨⟨⟨h4 p0 (by simp), h4 p1 (by simp)⟩, h4 p2 (by simp)⟩, h4 p3 (by simp)⟩, ⟨⟨h4 p4 (by simp), h4 p5 (by simp)⟩, h4 p6 (by simp)⟩, h4 p7 (by simp)⟩
end Go.Proofs.Ytimfaplnhlnjlaa
