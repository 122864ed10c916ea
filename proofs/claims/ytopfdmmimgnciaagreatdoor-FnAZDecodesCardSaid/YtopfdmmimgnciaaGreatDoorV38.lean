/-
  THE WALK OF THE LAW FnAZCorrects.
-/
import Derived.Test.YtopfdmmimgnciaaGreatDoorV13
import Derived.Test.YtopfdmmimgnciaaGreatDoorV33
import Derived.Test.YtopfdmmimgnciaaGreatDoorV36
import Derived.Test.YtopfdmmimgnciaaGreatDoorV37
namespace Go.Proofs.YtopfdmmimgnciaaGreatDoor
open Go.RowKit

theorem vals_uvsZ {l : List Int} (wf : ∀ n ∈ l, (Lit.int .u16 n).wf = true) : vals .u16 l = uvs (l.map Int.toNat) ∧ ∀ x ∈ l.map Int.toNat, x < 65536 := by
  constructor
  · unfold vals uvs
    rw [List.map_map]
    apply List.map_congr_left
    intro n hn
    have := bounds_u16 (wf n hn)
    simp only [Function.comp]
    rw [Int.toNat_of_nonneg this.1]
  · intro x hx
    obtain ⟨n, hn, rfl⟩ := List.mem_map.1 hx
    have := bounds_u16 (wf n hn)
    omega
theorem vals_nbZ {l : List Int} (wf : ∀ n ∈ l, (Lit.int .u8 n).wf = true) : vals .u8 l = nb (l.map Int.toNat) ∧ ∀ x ∈ l.map Int.toNat, x < 256 := by
  constructor
  · unfold vals nb
    rw [List.map_map]
    apply List.map_congr_left
    intro n hn
    have := bounds_u8 (wf n hn)
    simp only [Function.comp]
    rw [Int.toNat_of_nonneg this.1]
  · intro x hx
    obtain ⟨n, hn, rfl⟩ := List.mem_map.1 hx
    have := bounds_u8 (wf n hn)
    omega
theorem layZ_any (c : Bool) (L : Nat) (v : Value) (ws : List Nat) (w : World) (hv : Rd w w.heap.size v (nv ws)) (hws : ws.length = capN c L / widN L) (hlt : ∀ x ∈ ws, x < 2 ^ widN L) (hL1 : 1 ≤ L) (hL : L ≤ 32) :
    Calls Tryz.prog 11 #[v, .bool c, .int .i64 L] w fun e w' => ∃ u G, e = .returned u ∧ RowsT w' u (rowsF (wholeN c L) (wholeN c L) G) ∧ takU c L G L = List.replicate (capN c L % widN L) false ++ wbits (widN L) ws ∧ Below w.heap.size w w' := by
  cases c
  · exact lay_full L v ws w hv hws hlt hL1 hL
  · exact lay_compact L v ws w hv hws hlt hL1 hL
theorem bitOf_rowsZ (W H : Nat) (f : Nat → Nat → Bool) (x y : Nat) (hx : x < W) (hy : y < H) : bitOf (rowsF W H f) x y = f x y := by
  unfold bitOf
  rw [rowsF_at _ _ _ _ hy, List.getD, List.getElem?_eq_getElem (by rw [rowF_len]; exact hx)]
  simp [rowF_at]
theorem rowsF_lenZ (W H : Nat) (f : Nat → Nat → Bool) : ∀ r ∈ rowsF W H f, r.length = W := fun r hr => by
  unfold rowsF at hr
  obtain ⟨y, _, rfl⟩ := List.mem_map.1 hr
  simp
end Go.Proofs.YtopfdmmimgnciaaGreatDoor
