/-
  WALKS: aztec's Decoder.Decode of words that are hurt.
-/
import Derived.Test.YtopfdmmimgnciaaGreatDoorV14
import Derived.Test.YtopfdmmimgnciaaGreatDoorV24
import Derived.Test.YtopfdmmimgnciaaGreatDoorV29
import Derived.Test.YtopfdmmimgnciaaGreatDoorV30
import Derived.Test.YtopfdmmimgnciaaGreatDoorV31
import Derived.Test.YtopfdmmimgnciaaGreatDoorV32
namespace Go.Proofs.YtopfdmmimgnciaaGreatDoor
open Go.RowKit

theorem extractZ_any (c : Bool) (L p gm dd rr : Nat) (f : Nat → Nat → Bool) (w : World) (hm : MatAt w p gm (wholeN c L) (wholeN c L) f) (hd : w.cell? ⟨dd, 0, none⟩ = some (.pointer (some ⟨rr, 0, none⟩)))
    (h1 : w.cell? ⟨rr, 1, none⟩ = some (.bool c)) (h3 : w.cell? ⟨rr, 3, none⟩ = some (.int .i64 (L : Nat))) (hL1 : 1 ≤ L) (hL : L ≤ 32) :
    Calls Tryz.prog 47 #[.pointer (some ⟨dd, 0, none⟩), .pointer (some ⟨p, 0, none⟩)] w fun e w' => ∃ v', e = .returned v' ∧ RdT w' 4 v' (bv (takU c L f L)) ∧ Below w.heap.size w w' := by
  cases c
  · exact extract_full L p gm dd rr f w hm hd h1 h3 hL1 hL
  · exact extract_compact L p gm dd rr f w hm hd h1 h3 hL1 hL
theorem newDecZ_any (w : World) : Calls Tryz.prog 22 #[] w fun e w' => e = .returned (.pointer (some ⟨w.heap.size, 0, none⟩)) ∧ w' = w.alloc (.cells #[.pointer none] 92) := by
  go_enter Tryz.func22, Tryz.ntmps22
  go_wp2
  go_ret
  exact ⟨rfl, rfl⟩
theorem blk_ne {w : World} {a b : Nat} {t t' : TypeId} {cs cs' : Array Value} (h1 : Blk w a t cs) (h2 : Blk w b t' cs') (h : t ≠ t') : a ≠ b := fun he => by
  subst he
  have h3 : some (Obj.cells cs t (0, 0)) = some (Obj.cells cs' t' (0, 0)) := h1.symm.trans h2
  injection h3 with h3
  injection h3 with _ h4
  exact h h4
end Go.Proofs.YtopfdmmimgnciaaGreatDoor
