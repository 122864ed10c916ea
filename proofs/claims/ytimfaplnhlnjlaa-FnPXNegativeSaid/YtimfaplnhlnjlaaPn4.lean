/-
  WALK: a row of a source's grays.
-/
import Derived.Test.YtimfaplnhlnjlaaPn3
namespace Go.Proofs.Ytimfaplnhlnjlaa
open Go.RowKit

theorem list_copy_off {P : Program} {ops : Array Oper} {rest : List Oper} {o : Oper} {a : Act} {w : World} {Q : Exit → Act → World → Prop} (hgd : o.guard = none) (d s : Operand) (dT sT : TypeId)
    (ho : o.op = .call { callee := .builtin .copy, args := #[d, s], argTypes := #[dT, sT] }) (elem : TypeId) (hu : P.underlying dT = some (.slice elem)) (hsz : (P.info? elem).map (·.size) = some 1)
    (g off dLen dCap : Nat) (ad : Addr) (sLen sCap : Nat) (hd : a.eval d = .slice (some ⟨g, off, none⟩) dLen dCap) (hs : a.eval s = .slice (some ad) sLen sCap)
    (cur : List Value) (t : TypeId) (hg : Blk w g t cur.toArray) (cs : List Value) (hn : cs.length = Nat.min sLen dLen)
    (hsrc : ∀ j v, cs[j]? = some v → w.cell? (ad.add j) = some v) (hfit : off + cs.length ≤ cur.length) (h1 : ∀ v ∈ cs, v.oneCell' = true)
    (h : ∀ w', Blk w' g t (splice cur off cs).toArray → Off w w' g g → wpList P ops Q rest (a.put o.dst (goInt cs.length)) w') : wpList P ops Q (o :: rest) a w :=
  wpList_plain hgd fun _ hK => by
    have hrun := run_copy_row (P := P) w dT sT o.type elem g off dLen dCap ad sLen sCap cur.toArray t cs hu hsz hg hn hsrc (by simpa using hfit) h1
    unfold Oper.wp
    simp [execOp, ho, resolve, invoke, builtin, hd, hs, hrun, Result.andThen]
    exact hK _ _ (h _ (by have := setRow_heap w g cur.toArray (splice cur off cs).toArray t _ hg; unfold Blk; simpa [splice] using this)
      ⟨fun b _ hb _ => setRow_other w g b _ hb, by simp, fun B w0 hb hB _ _ => below_setRow hb hB _⟩)
set_option maxRecDepth 100000 in
set_option maxHeartbeats 2000000 in
/-- (*PlanarYUVLuminanceSource).GetRow, into a row that is as long. -/
theorem getRow_any (p : Nat) (A : Option Addr) (c W H y g : Nat) (L cur : List Nat) (w : World) (hp : Blk w p 98 (srcC (.slice A L.length c) W H 0 0 W H)) (hv : RdT w 5 (.slice A L.length c) (b8 L)) (hL : L.length = W * H)
    (hy : y < H) (hW : 1 ≤ W) (hs : L.length ≤ 1000000) (hg : Blk w g 5 (b8 cur).toArray) (hcur : cur.length = W) :
    Calls Try.prog 76 #[.pointer (some ⟨p, 0, none⟩), .int .i64 y, .slice (some ⟨g, 0, none⟩) W W] w fun e w' => e = .returned (.tuple #[.slice (some ⟨g, 0, none⟩) W W, .nilIface]) ∧
      Blk w' g 5 (b8 ((L.drop (y * W)).take W)).toArray ∧ Off w w' g g := by
  have hHn : H ≤ L.length := by rw [hL]; exact Nat.le_mul_of_pos_left _ (by omega)
  have hWn : W ≤ L.length := by rw [hL]; exact Nat.le_mul_of_pos_right _ (by omega)
  have c0 : w.cell? ⟨p, 0, none⟩ = some (.int .i64 W) := by rw [hp.cell]; rfl
  have c1 : w.cell? ⟨p, 1, none⟩ = some (.int .i64 H) := by rw [hp.cell]; rfl
  have c2 : w.cell? ⟨p, 2, none⟩ = some (.slice A L.length c) := by rw [hp.cell]; rfl
  have c3 : w.cell? ⟨p, 3, none⟩ = some (.int .i64 W) := by rw [hp.cell]; rfl
  have c5 : w.cell? ⟨p, 5, none⟩ = some (.int .i64 0) := by rw [hp.cell]; rfl
  have c6 : w.cell? ⟨p, 6, none⟩ = some (.int .i64 0) := by rw [hp.cell]; rfl
  obtain ⟨Y, hY⟩ : ∃ Y, Y = y * W := ⟨_, rfl⟩
  have hYL : Y + W ≤ L.length := by rw [hY, hL, Nat.mul_comm W H]; have := Nat.mul_le_mul_right W (show y + 1 ≤ H by omega); rw [Nat.add_mul, Nat.one_mul] at this; exact this
  have sY : IntKind.i64.wrap ((y : Int) * (W : Int)) = (Y : Int) := by
    have : (y : Int) * (W : Int) = (Y : Int) := by rw [hY]; simp
    rw [this, IntKind.wrap_i64]; omega
  have sy : IntKind.i64.wrap (y : Int) = (y : Int) := by rw [IntKind.wrap_i64]; omega
  have sYY : IntKind.i64.wrap (Y : Int) = (Y : Int) := by rw [IntKind.wrap_i64]; omega
  have HY := Lib.hid hY
  have hlg := hg.lt
  obtain ⟨A', cap', hA, k1, k2, k3⟩ := hv
  injection hA with e1 _ e2
  subst e1 e2
  rw [b8_len] at k1 k3
  obtain ⟨bb, oo, cs, fr, rfl, hheap, hcs⟩ := k3 (by omega)
  have hsrc : ∀ wr : World, wr.heap[bb]? = w.heap[bb]? → ∀ j v, (b8 ((L.drop Y).take W))[j]? = some v → wr.cell? ((⟨bb, oo + Y, none⟩ : Addr).add j) = some v := fun wr hwr j v hj => by
    have hjN : j < W := by
      have := (List.getElem?_eq_some_iff.1 hj).1
      rw [b8_len, List.length_take] at this; omega
    rw [addr_add, World.cell?, hwr, hheap]
    have : (b8 L)[Y + j]? = some v := by
      rw [← hj]; unfold b8
      rw [List.getElem?_map, List.getElem?_map, List.getElem?_take_of_lt hjN, List.getElem?_drop]
    have := hcs _ _ this
    rw [← Nat.add_assoc] at this
    simpa using this
  have HS := Lib.hid hsrc; clear hsrc k3 hcs hheap
  unfold maxLen at k2
  have hcl : (b8 ((L.drop Y).take W)).length = W := by rw [b8_len, List.length_take, List.length_drop]; omega
  rw [← hY]
  have HCL := Lib.hid hcl
  have HG := Lib.hid hg
  have HL := Lib.hid hL
  have q1 : Y ≤ c := by omega
  have q2 : Y + W ≤ c := by omega
  obtain ⟨T, hT⟩ : ∃ T, T = Y + W := ⟨_, rfl⟩
  have q3 : T ≤ c := by omega
  have q4 : Y ≤ T := by omega
  have q5 : T - Y = W := by omega
  have sT : wrap64 ((Y : Int) + (W : Int)) = (T : Int) := by unfold wrap64; omega
  have HT := Lib.hid hT
  clear hcl hg hL hY hp hT hHn
  go_enter Try.func76, Try.ntmps76
  go_wp2_with fail
  refine (srcH_any p _ w c1).mono ?_
  rintro e w ⟨rfl, rfl⟩
  go_wp2_with fail
  refine (srcW_any p _ w c0).mono ?_
  rintro e w ⟨rfl, rfl⟩
  have hnil := Lib.run_eql_slice_nil (P := Try.prog) w 30 5 (some ⟨g, 0, none⟩) W W 0 0 Try.underlying30
  go_wp2_with fail
  refine Can.wp_region_can (fun w' => w'.cell? ⟨p, 6, none⟩ = some (.int .i64 0) ∧ w'.cell? ⟨p, 3, none⟩ = some (.int .i64 W) ∧ w'.cell? ⟨p, 5, none⟩ = some (.int .i64 0)) 999 [0, 1, 2, 3, 4, 5, 6, 7, 8, 9, 10, 11, 12, 13, 14, 15, 16] (by kernel_rfl) (by kernel_rfl) (fun _ _ d _ _ h => by cases d <;> exact h) ⟨c6, c3, c5⟩ (fun hHeld => ?_)
  repeat (refine Can.can_pure (v := ?_) rfl rfl (Or.inl ⟨by rfl, ?_⟩) ?_; rotate_left; (focus ((intro w hSw); (try dsimp only at hSw); go_simp; (try with_reducible rfl))); (try simp only [Act.put, List.getElem_toArray, List.getElem_cons_succ, List.getElem_cons_zero, List.setIfInBounds_toArray, List.set_cons_zero, List.set_cons_succ]))
  refine Can.can_done ?_
  clear hHeld hnil
  have d2 := cell_up c2 (bdr (brf w))
  have hsame : w.drew.heap = w.heap := rfl
  have HSd := HS.out w.drew rfl
  have HSd := Lib.hid HSd
  have HGd := Lib.hid (HG.out.drew)
  have HOd : Hid (Off w w.drew g g) := Lib.hid ⟨fun _ _ _ _ => rfl, Nat.le_refl _, fun _ _ h _ _ _ => h.drew⟩
  clear hsame HS HG c0 c1 c2 c3 c5 c6
  have hlq : g < w.drew.heap.size := hlg
  generalize hwq : w.drew = wq at *
  go_wp2_with (with_reducible refine stop_at (o := ⟨some 61, _, _, _, _, _⟩) ?_)
  refine Lib.hid ?_
  refine list_copy_off (o := ⟨some 61, _, _, _, _, _⟩) rfl _ _ 30 30 rfl 5 Try.underlying30 size_b8 g 0 W W _ _ _ rfl rfl (b8 cur) 5 HGd.out (b8 ((L.drop Y).take W)) ?_ HSd.out ?_ (b8_one _) ?_
  · rw [HCL.out, Nat.add_sub_cancel_left]; exact (Nat.min_self W).symm
  · rw [HCL.out, b8_len, hcur]; omega
  intro w2 HG2 hO2
  have hsp : splice (b8 cur) 0 (b8 ((L.drop Y).take W)) = b8 ((L.drop Y).take W) := splice_whole _ _ (by rw [HCL.out, b8_len, hcur])
  rw [hsp] at HG2
  have HO2 := Lib.hid (HOd.out.trans hO2)
  have HG2 := Lib.hid HG2
  clear hsp hO2 HGd HSd HOd d2
  go_wp2
  go_returns
  exact ⟨rfl, HG2.out, HO2.out⟩
end Go.Proofs.Ytimfaplnhlnjlaa
