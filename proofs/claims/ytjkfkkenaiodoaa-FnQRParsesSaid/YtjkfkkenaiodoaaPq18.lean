/-
  THE LAW FnQRParses at its argument.
-/
import Derived.Test.YtjkfkkenaiodoaaPq17
namespace Go.Proofs.Ytjkfkkenaiodoaa
open Go.RowKit

theorem parses_law (v0 : Value) (l : List Int) (aN bN : Nat) (W : World) (hs : Rd W W.heap.size v0 (vals .u8 l)) (hwf : ∀ n ∈ l, (Lit.int .u8 n).wf = true) (h1 : aN < 256) (h2 : bN < 256) :
    Calls Try.prog 3 #[v0, .int .u8 aN, .int .u8 bN] W fun e w' => e = .returned (.bool true) ∧ Below W.heap.size W w' := by
  have hl : ∀ x ∈ l, 0 ≤ x ∧ x < 256 := fun x hx => by
    have := bounds_u8 (hwf x hx)
    omega
  have he : vals .u8 l = wv8 (l.map Int.toNat) := by
    unfold vals wv8
    rw [List.map_map]
    refine List.map_congr_left (fun x hx => ?_)
    have := hl x hx
    simp only [Function.comp]
    congr 1
    omega
  rw [he] at hs
  exact parses_walk v0 (l.map Int.toNat) aN bN W hs (fun x hx => by
    obtain ⟨y, hy, rfl⟩ := List.mem_map.1 hx
    have := hl y hy
    omega) h1 h2
end Go.Proofs.Ytjkfkkenaiodoaa
