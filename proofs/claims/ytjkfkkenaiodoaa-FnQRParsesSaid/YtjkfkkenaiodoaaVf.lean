/-
  WALKS: a version that was just laid out is made.
-/
import Derived.Test.YtjkfkkenaiodoaaVe
namespace Go.Proofs.Ytjkfkkenaiodoaa
open Go.RowKit

/-- The world in which a version's parts have been laid out. -/
def verW (w : World) (cs : List Nat) (e0 e1 e2 e3 : Nat) (l0 l1 l2 l3 : List (Nat × Nat)) : World :=
  (((((w.alloc (.cells (nvl cs).toArray 3)).alloc (.cells (cellsE l0).toArray 99)).alloc (.cells (cellsE l1).toArray 99)).alloc (.cells (cellsE l2).toArray 99)).alloc (.cells (cellsE l3).toArray 99)).alloc
    (.cells #[.int .i64 e0, .slice (some ⟨w.heap.size + 1, 0, none⟩) l0.length l0.length, .int .i64 e1, .slice (some ⟨w.heap.size + 1 + 1, 0, none⟩) l1.length l1.length, .int .i64 e2, .slice (some ⟨w.heap.size + 1 + 1 + 1, 0, none⟩) l2.length l2.length, .int .i64 e3, .slice (some ⟨w.heap.size + 1 + 1 + 1 + 1, 0, none⟩) l3.length l3.length] 102)
theorem ver_made (w : World) (v : Nat) (cs : List Nat) (e0 e1 e2 e3 : Nat) (l0 l1 l2 l3 : List (Nat × Nat)) (htab : verT v = (cs, [(e0, l0), (e1, l1), (e2, l2), (e3, l3)])) (hc : cs.length ≤ 10) (he : e0 ≤ 100) (hl : l0.length ≤ 10) (hp : ∀ p ∈ l0, p.1 ≤ 200 ∧ p.2 ≤ 200) :
    Calls Try.prog 48 #[.int .i64 v, .slice (some ⟨w.heap.size, 0, none⟩) cs.length cs.length, .slice (some ⟨w.heap.size + 1 + 1 + 1 + 1 + 1, 0, none⟩) 4 4] (verW w cs e0 e1 e2 e3 l0 l1 l2 l3) fun e w' =>
      ∃ p, e = .returned (.pointer (some ⟨p, 0, none⟩)) ∧ VerAt w' p v ∧ Below w.heap.size w w' := by
  unfold verW
  obtain ⟨w1, hw1⟩ : ∃ x, x = w.alloc (.cells (nvl cs).toArray 3) := ⟨_, rfl⟩
  have s1 : w1.heap.size = w.heap.size + 1 := by rw [hw1]; simp
  have k0 : Blk w1 w.heap.size 3 (nvl cs).toArray := by rw [hw1]; exact Blk.fresh w _ _
  have B1 : Below w.heap.size w w1 := by rw [hw1]; exact bal (brf w) _
  rw [← hw1]; clear hw1
  obtain ⟨w2, hw2⟩ : ∃ x, x = w1.alloc (.cells (cellsE l0).toArray 99) := ⟨_, rfl⟩
  have s2 : w2.heap.size = w.heap.size + 1 + 1 := by rw [hw2]; simp [s1]
  have k1 : Blk w2 (w.heap.size + 1) 99 (cellsE l0).toArray := by rw [hw2]; exact Blk.fresh' s1
  have B2 : Below w1.heap.size w1 w2 := by rw [hw2]; exact bal (brf w1) _
  rw [← hw2]; clear hw2
  obtain ⟨w3, hw3⟩ : ∃ x, x = w2.alloc (.cells (cellsE l1).toArray 99) := ⟨_, rfl⟩
  have s3 : w3.heap.size = w.heap.size + 1 + 1 + 1 := by rw [hw3]; simp [s2]
  have k2 : Blk w3 (w.heap.size + 1 + 1) 99 (cellsE l1).toArray := by rw [hw3]; exact Blk.fresh' s2
  have B3 : Below w2.heap.size w2 w3 := by rw [hw3]; exact bal (brf w2) _
  rw [← hw3]; clear hw3
  obtain ⟨w4, hw4⟩ : ∃ x, x = w3.alloc (.cells (cellsE l2).toArray 99) := ⟨_, rfl⟩
  have s4 : w4.heap.size = w.heap.size + 1 + 1 + 1 + 1 := by rw [hw4]; simp [s3]
  have k3 : Blk w4 (w.heap.size + 1 + 1 + 1) 99 (cellsE l2).toArray := by rw [hw4]; exact Blk.fresh' s3
  have B4 : Below w3.heap.size w3 w4 := by rw [hw4]; exact bal (brf w3) _
  rw [← hw4]; clear hw4
  obtain ⟨w5, hw5⟩ : ∃ x, x = w4.alloc (.cells (cellsE l3).toArray 99) := ⟨_, rfl⟩
  have s5 : w5.heap.size = w.heap.size + 1 + 1 + 1 + 1 + 1 := by rw [hw5]; simp [s4]
  have k4 : Blk w5 (w.heap.size + 1 + 1 + 1 + 1) 99 (cellsE l3).toArray := by rw [hw5]; exact Blk.fresh' s4
  have B5 : Below w4.heap.size w4 w5 := by rw [hw5]; exact bal (brf w4) _
  rw [← hw5]; clear hw5
  obtain ⟨cL, hcL⟩ : ∃ x : Array Value, x = #[.int .i64 e0, .slice (some ⟨w.heap.size + 1, 0, none⟩) l0.length l0.length, .int .i64 e1, .slice (some ⟨w.heap.size + 1 + 1, 0, none⟩) l1.length l1.length, .int .i64 e2, .slice (some ⟨w.heap.size + 1 + 1 + 1, 0, none⟩) l2.length l2.length, .int .i64 e3, .slice (some ⟨w.heap.size + 1 + 1 + 1 + 1, 0, none⟩) l3.length l3.length] := ⟨_, rfl⟩
  rw [← hcL]
  obtain ⟨w6, hw6⟩ : ∃ x, x = w5.alloc (.cells cL 102) := ⟨_, rfl⟩
  have s6 : w6.heap.size = w.heap.size + 1 + 1 + 1 + 1 + 1 + 1 := by rw [hw6]; simp [s5]
  have k5 : Blk w6 (w.heap.size + 1 + 1 + 1 + 1 + 1) 102 cL := by rw [hw6]; exact Blk.fresh' s5
  have B6 : Below w5.heap.size w5 w6 := by rw [hw6]; exact bal (brf w5) _
  rw [← hw6]; clear hw6
  have hB := bup (bup (bup (bup (bup B1 B2) B3) B4) B5) B6
  have a0 := ((((k0.up B2).up B3).up B4).up B5).up B6
  have a1 := (((k1.up B3).up B4).up B5).up B6
  have a2 := ((k2.up B4).up B5).up B6
  have a3 := (k3.up B5).up B6
  have a4 := k4.up B6
  refine (newVersion_any v (some ⟨w.heap.size, 0, none⟩) cs.length cs.length (w.heap.size + 1 + 1 + 1 + 1 + 1) (w.heap.size + 1) e0 l0 w6 (by rw [k5.cell, hcL]; rfl) (by rw [k5.cell, hcL]; rfl) (by omega) a1 he hl hp).mono ?_
  rintro e w7 ⟨p, rfl, h1, h2, h3⟩
  refine ⟨p, rfl, ⟨cs, _, _, _, _, _, _, e0, e1, e2, e3, l0, l1, l2, l3, htab, h1, ?_, ?_, a1.up h3, a2.up h3, a3.up h3, a4.up h3⟩, bup hB h3⟩
  · exact (RdT.of_blk (xs := nvl cs) a0 (by rw [nvl_len]) (by rw [nvl_len]; exact Nat.le_refl _) (by unfold maxLen; omega)).up h3
  · rw [← hcL]; exact k5.up h3
end Go.Proofs.Ytjkfkkenaiodoaa
