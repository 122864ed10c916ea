/-
  WALKS: impl.bools; an array beside a row of bools.
-/
import Derived.Test.YtjhfebhefclenaaAs1
import Derived.Test.YtjhfebhefclenaaBb
namespace Go.Proofs.Ytjhfebhefclenaa
open Go.RowKit

theorem blk_ne {w : World} {a b : Nat} {s t : TypeId} {cs ds : Array Value} (h : w.heap[a]? = some (.cells cs s (0, 0))) (k : w.heap[b]? = some (.cells ds t (0, 0))) (hst : s ≠ t) : a ≠ b := fun e => by
  subst e
  rw [h] at k
  injection k with k
  injection k with _ k2
  exact hst k2
theorem own_arr {w w' : World} {p g m base n : Nat} {l : List Bool} {v : Value} {xs : List Value} (ho : w.ownsRow base 4 1 v n xs) (h : ArrG w p g l m) (k : Off w w' p g) : w'.ownsRow base 4 1 v n xs := by
  obtain ⟨h1, h2 | ⟨r, cap, cur, hv, hb', hg, rest⟩⟩ := ho
  · exact ⟨h1, .inl h2⟩
  · exact ⟨h1, .inr ⟨r, cap, cur, hv, hb', (k.same r (Blk.lt (w := w) (g := r) (t := 4) (cs := cur) hg) (blk_ne hg h.head (by decide)) (blk_ne hg h.rows (by decide))).trans hg, rest⟩⟩
theorem ArrG.beside {w w' : World} {p g m base n : Nat} {l : List Bool} {v : Value} {xs : List Value} (h : ArrG w p g l m) (ho : w.ownsRow base 4 1 v n xs) (hg : w.grownBy w' v.ownBlock) : ArrG w' p g l m := by
  have hp : ∀ (b : Nat) (T : TypeId) (cs : Array Value), Blk w b T cs → T ≠ 4 → some b ≠ v.ownBlock := fun b T cs hb hT => by
    obtain ⟨h1, ⟨rfl, _⟩ | ⟨r, cap, cur, rfl, hb', hr, rest⟩⟩ := ho
    · simp [Value.ownBlock]
    · simp only [Value.ownBlock, ne_eq, Option.some.injEq]
      exact blk_ne hb hr hT
  exact ⟨h.head.grown hg (hp _ _ _ h.head (by decide)), h.rows.grown hg (hp _ _ _ h.rows (by decide)), h.fits, h.apart⟩
theorem rep_bv (n : Nat) : rep n (.bool false) = (bv (List.replicate n false)).toArray := by simp [rep, bv]
theorem bv_set (l : List Bool) (i : Nat) (b : Bool) : (bv l).toArray.setIfInBounds i (.bool b) = (bv (l.set i b)).toArray := by simp [bv, List.map_set]
set_option maxRecDepth 100000 in
/-- impl.bools. -/
theorem bools_any (p g : Nat) (l : List Bool) (w : World) (h : ArrG w p g l l.length) (hs : l.length ≤ 16384) :
    Calls Try.prog 23 #[.pointer (some ⟨p, 0, none⟩)] w fun e w' => ∃ v', e = .returned v' ∧ Rd w' w'.heap.size v' (bv l) ∧ Below w.heap.size w w' := by
  have c1 : w.cell? ⟨p, 1, none⟩ = some (.int .i64 l.length) := by rw [h.head.cell]; rfl
  have hmk := run_mk (P := Try.prog) 22 4 (.bool false) 1 Try.underlying22 info_bool rfl l.length (by omega) (by omega) w
  have HA := Lib.hid h
  have hX := Blk.fresh w 4 (rep l.length (.bool false))
  have hB := bal (brf w) (.cells (rep l.length (.bool false)) 4)
  generalize hw1 : (w.alloc (.cells (rep l.length (.bool false)) 4)) = w1 at *
  clear hw1
  rw [rep_bv] at hX
  have HX : Hid (Blk w1 w.heap.size 4 (bv (fillA l false l.length 0)).toArray) := Lib.hid (by rw [fill_zero]; exact hX)
  have HB := Lib.hid hB
  clear h hX hB
  go_enter Try.func23, Try.ntmps23
  go_wp2_with fail
  refine (size_any p _ w c1).mono ?_
  rintro e w ⟨rfl, rfl⟩
  go_wp2_with fail
  clear hmk c1
  go_loopw [10] (fun iv wr => ∃ i : Nat, i ≤ l.length ∧ iv = .int .i64 i ∧ Hid (Blk wr w.heap.size 4 (bv (fillA l false l.length i)).toArray) ∧ Hid (Below w.heap.size w wr)) (fun iv _ => l.length - (intOf iv).toNat)
  case atStart => exact ⟨0, Nat.zero_le _, rfl, HX, HB⟩
  case round =>
    clear HX HB
    obtain ⟨i, hi, rfl, HX, HB⟩ := hrel
    by_cases hlt : i < l.length
    · have hget := getA_any p g i l.length l wr (HA.out.up HB.out) hlt hs
      have hgd : l.getD i false = l[i] := by rw [List.getD, List.getElem?_eq_getElem hlt]; rfl
      rw [hgd] at hget
      have d1 : wr.cell? ⟨w.heap.size, i, none⟩ = some (.bool false) := by
        rw [HX.out.cell, List.getElem?_toArray]; unfold bv
        rw [List.getElem?_map, fill_at_k l false l.length i hlt (by omega)]; rfl
      have f1 := HX.out.frozen i
      have HX2 : Hid (Blk (wr.setCell ⟨w.heap.size, i, none⟩ (.bool l[i])) w.heap.size 4 (bv (fillA l false l.length (i + 1))).toArray) := Lib.hid (by
        rw [← fill_set l false l.length i hlt (Nat.le_refl _), ← bv_set]; exact HX.out.put _ _)
      have HB2 := Lib.hid (HB.out.setCell (p := ⟨w.heap.size, i, none⟩) (Nat.le_refl _) (.bool l[i]))
      clear HX HB hgd
      generalize l[i] = x at *
      go_wp2_with fail
      refine hget.mono ?_
      rintro e wr ⟨rfl, rfl⟩
      go_wp2_with fail
      go_roundw
      case rel => exact ⟨i + 1, by omega, by go_num, HX2, HB2⟩
      case measure => simp [intOf]; omega
    · obtain rfl : i = l.length := by omega
      have HX2 : Hid (Blk wr w.heap.size 4 (bv l).toArray) := Lib.hid (by have := HX.out; rwa [fill_full] at this)
      clear HX
      go_wp2_with fail
      go_ret
      exact ⟨_, rfl, Rd.of_blk HX2.out (bv_len l).symm (by rw [bv_len]; exact Nat.le_refl _) (by unfold maxLen; omega), HB.out⟩
end Go.Proofs.Ytjhfebhefclenaa
