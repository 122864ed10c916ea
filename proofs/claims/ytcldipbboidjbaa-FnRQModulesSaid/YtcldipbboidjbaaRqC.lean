/-
  WALK: spec.QRTurned. WALKS: spec.RQFrameOf, spec.RQPicture. WALK: spec.RQPicture.
-/
import Derived.Test.YtcldipbboidjbaaRwo
import Derived.Test.YtcldipbboidjbaaCan
import Derived.Test.YtcldipbboidjbaaFill
namespace Go.Proofs.Ytcldipbboidjbaa
open Go.RowKit

set_option maxRecDepth 100000 in
set_option maxHeartbeats 4000000 in
theorem turned_any (s : Value) (n : Nat) (F : Nat → Nat → Bool) (w0 : World) (hs : RowsT w0 s (rowsF n n F)) (h1 : 1 ≤ n) (hn177 : n ≤ 177) :
    Calls Try.prog 10 #[s] w0 fun e w' => ∃ g bs, e = .returned (.slice (some ⟨g, 0, none⟩) n n) ∧ bs.length = n ∧ MkR w' g n n bs (fun x y => F y x) ∧ w0.heap.size ≤ g ∧ Below w0.heap.size w0 w' := by
  obtain ⟨mb, mo, mcap, rfl, hg1, hg2, HROW⟩ := hs.at_ (by rw [rowsF_len]; omega)
  rw [rowsF_len] at hg1 HROW ⊢
  have HRL : Hid (∀ i, i < n → ((rowsF n n F).getD i []).length = n) := Lib.hid (fun i hi => by rw [rowsF_at _ _ _ _ hi, rowF_len])
  have HGF : Hid (∀ i c, i < n → c < n → ((rowsF n n F).getD i []).getD c false = F c i) := Lib.hid (fun i c hi hc => by
    rw [rowsF_at _ _ _ _ hi, List.getD, List.getElem?_eq_getElem (by rw [rowF_len]; exact hc), Option.getD_some, rowF_at])
  obtain ⟨G, hG⟩ : ∃ G : Nat → Nat → Bool, G = fun x y => F y x := ⟨_, rfl⟩
  have HGG : Hid (∀ x y, G x y = F y x) := Lib.hid (fun x y => by rw [hG])
  rw [← hG]
  clear hs hG
  have hmk := fun a => mk_rows n a (by omega)
  have hmkb := fun a => mk_bools n a (by omega)
  go_enter Try.func10, Try.ntmps10
  go_wp2_with fail
  clear hmk
  obtain ⟨w1, rfl⟩ : ∃ wo : World, wo = w0 := ⟨_, rfl⟩
  go_loopw [11] (fun yv wr => ∃ (y : Nat) (bs : List Nat), y ≤ n ∧ bs.length ≤ y ∧ y ≤ bs.length ∧ yv = .int .i64 y ∧ Hid (MkR wr w1.heap.size n n bs G) ∧ Hid (Below w1.heap.size w1 wr)) (fun yv _ => n - (intOf yv).toNat)
  case atStart => exact ⟨0, [], Nat.zero_le _, Nat.le_refl _, Nat.zero_le _, rfl, Lib.hid (MkR.begin_ w1 n n G), Lib.hid (bal (brf w1) _)⟩
  case round =>
    obtain ⟨y, vs, hy, hy1, hy2, rfl, HG, HW⟩ := hrel
    by_cases hlt : y < n
    · obtain rfl : y = vs.length := by omega
      have HGa := HG.out.out.alloc (.cells (bv (List.replicate n false)).toArray 4)
      have cG : (wr.alloc (.cells (bv (List.replicate n false)).toArray 4)).cell? ⟨w1.heap.size, vs.length, none⟩ = some (.slice none 0 0) := cell_up (HG.out.ahead hlt) (bal (brf _) _)
      have fG : (wr.alloc (.cells (bv (List.replicate n false)).toArray 4)).frozen? ⟨w1.heap.size, vs.length, none⟩ = false := HGa.frozen _
      have hglt := HG.out.out.lt
      obtain ⟨wm, hwm⟩ : ∃ wm, wm = (wr.setCell ⟨w1.heap.size, vs.length, none⟩ (.slice (some ⟨wr.heap.size, 0, none⟩) n n)).alloc (.cells (bv (List.replicate n false)).toArray 4) := ⟨_, rfl⟩
      obtain ⟨HG1, hB1, hnx⟩ := HG.out.next hlt _ hwm
      rw [← fill_zero (rowF n G vs.length) false n] at hB1
      have HB1 := Lib.hid hB1; have HNX := Lib.hid hnx
      have HG1 := Lib.hid HG1
      clear hB1 hnx
      have HW2 : Hid (Below w1.heap.size w1 wm) := Lib.hid (by
        rw [hwm]; exact bal (HW.out.setCell (p := ⟨w1.heap.size, vs.length, none⟩) (Nat.le_refl _) _) _)
      have hsz : wr.heap.size < wm.heap.size := HB1.out.lt
      have HWM := Lib.hid hwm.symm; clear hwm HGa HG
      have hrl : (rowF n G vs.length).length = n := rowF_len _ _ _
      have hra : ∀ x (hx : x < (rowF n G vs.length).length), (rowF n G vs.length)[x] = G x vs.length := fun x hx => rowF_at n G vs.length x hx
      have hfin : ∀ wi, Blk wi wr.heap.size 4 (bv (rowF n G vs.length)).toArray → Below wr.heap.size wm wi →
          MkR wi w1.heap.size n n (vs ++ [wr.heap.size]) G ∧ Below w1.heap.size w1 wi := fun wi h1 h2 => ⟨HNX.out wi h1 h2, HW2.out.trans (h2.mono HW.out.size)⟩
      have HFin := Lib.hid hfin; clear hfin HNX
      generalize rowF n G vs.length = row at *
      have HRA := Lib.hid hra; clear hra
      have cG2 : wm.cell? ⟨w1.heap.size, vs.length, none⟩ = some (.slice (some ⟨wr.heap.size, 0, none⟩) n n) := by
        exact MkR.last HG1.out
      go_wp2_with (with_reducible refine stop_at (o := ⟨some 22, _, _, _, _, _⟩) ?_)
      refine Lib.hid ?_
      rw [HWM.out]
      clear cG fG
      go_wp2_with fail
      clear cG2
      go_loopw [25] (fun xv wi => ∃ (x : Nat), x ≤ n ∧ xv = .int .i64 x ∧ Hid (Blk wi wr.heap.size 4 (bv (fillA row false n x)).toArray) ∧ Hid (Below wr.heap.size wm wi)) (fun xv _ => n - (intOf xv).toNat)
      case atStart => exact ⟨0, Nat.zero_le _, rfl, HB1, Lib.hid (Below.refl _ _)⟩
      case round =>
        rename World => wi
        obtain ⟨x, hx, rfl, HBx, HWx⟩ := hrel
        by_cases hxl : x < n
        · have hrx := HRA.out x (by omega)
          rw [HGG.out] at hrx
          have hxr : x < row.length := by omega
          have hset := fill_set row false n x hxr (by omega)
          have hsz0 := HW.out.size
          have HWw := Lib.hid (HW2.out.trans (HWx.out.mono hsz0))
          rw [hrx] at hset
          clear hrx
          obtain ⟨u, hu1, hu2⟩ := HROW.out x hxl
          obtain ⟨ub, uo, uc, rfl, hc1, hc2, HBIT⟩ := row_at hu2 (by rw [HRL.out x hxl]; omega)
          rw [HRL.out x hxl] at hu1 hc1 HBIT
          have cM := cell_up hu1 HWw.out
          have cB := cell_up (HBIT.out vs.length hlt) HWw.out
          rw [HGF.out x vs.length hxl hlt] at cB
          clear hu1 hu2 HBIT
          have cG2 : wi.cell? ⟨w1.heap.size, vs.length, none⟩ = some (.slice (some ⟨wr.heap.size, 0, none⟩) n n) := by
            exact MkR.last (HG1.out.below HWx.out hglt)
          have cO : wi.cell? ⟨wr.heap.size, x, none⟩ = some (.bool false) := by
            rw [HBx.out.cell, List.getElem?_toArray]
            unfold bv
            rw [List.getElem?_map, fill_at_k row false n x hxl (by omega)]; rfl
          have fO : wi.frozen? ⟨wr.heap.size, x, none⟩ = false := HBx.out.frozen _
          obtain ⟨gb, hgb⟩ : ∃ gb, gb = F vs.length x := ⟨_, rfl⟩
          rw [← hgb] at hset cB
          clear hgb
          have HN2 := Lib.hid ((HBx.out.put x (.bool gb)).drew)
          have HWn := Lib.hid ((HWx.out.setCell (p := ⟨wr.heap.size, x, none⟩) (Nat.le_refl _) (.bool gb)).drew)
          rw [bv_set, hset] at HN2
          clear hset
          go_wp2_with fail
          refine Can.wp_region_can (fun w' => w'.cell? ⟨w1.heap.size, vs.length, none⟩ = some (.slice (some ⟨wr.heap.size, 0, none⟩) n n) ∧ w'.cell? ⟨mb, mo + x, none⟩ = some (.slice (some ⟨ub, uo, none⟩) n uc) ∧ w'.cell? ⟨ub, uo + vs.length, none⟩ = some (.bool gb) ∧ w'.cell? ⟨wr.heap.size, x, none⟩ = some (.bool false) ∧ w'.frozen? ⟨wr.heap.size, x, none⟩ = false) 13 [0, 1, 2, 3, 4, 5, 6, 7, 8, 9, 10, 11, 12, 13] (by kernel_rfl) (by kernel_rfl) (fun _ _ d _ _ h => by cases d <;> exact h) ⟨cG2, cM, cB, cO, fO⟩ (fun hHeld => ?_)
          repeat (refine Can.can_pure (v := ?_) rfl rfl (Or.inl ⟨by rfl, ?_⟩) ?_; rotate_left; (focus ((intro w hSw); (try dsimp only at hSw); go_simp; (try with_reducible rfl))); (try simp only [Act.put, List.getElem_toArray, List.getElem_cons_succ, List.getElem_cons_zero, List.setIfInBounds_toArray, List.set_cons_zero, List.set_cons_succ]))
          have f1 := hHeld.2.2.2.2
          have c3 := hHeld.2.2.2.1
          refine Can.can_tail rfl rfl (by rfl) (fun K hK => ?_)
          go_simp
          refine hK.out _ _ ?_
          clear hK K
          clear hHeld f1 c3 cG2 cM cB cO fO
          go_wp2_with fail
          go_roundw
          case rel => exact ⟨x + 1, by omega, by go_num, HN2, HWn⟩
          case measure => simp [intOf]; omega
        · obtain rfl : x = n := by omega
          have hB2 : Blk wi wr.heap.size 4 (bv row).toArray := by
            have := HBx.out
            have e := fill_full row false
            rw [hrl] at e
            rw [e] at this; exact this
          obtain ⟨q1, q2⟩ := HFin.out wi hB2 HWx.out
          have HQ1 := Lib.hid q1; have HQ2 := Lib.hid q2
          clear q1 q2 hB2
          go_wp2_with fail
          go_roundw
          case rel => exact ⟨vs.length + 1, _, by omega, by simp, by simp, by go_num, HQ1, HQ2⟩
          case measure => simp [intOf]; omega
    · obtain rfl : y = n := by omega
      have hvl : vs.length = y := by omega
      go_wp2_with fail
      go_ret
      refine ⟨w1.heap.size, vs, rfl, hvl, HG.out, Nat.le_refl _, HW.out⟩
end Go.Proofs.Ytcldipbboidjbaa
namespace Go.Proofs.Ytcldipbboidjbaa
open Go.RowKit

/-- The cells of a view. -/
def viewC (s b0 b1 b2 b3 d l : Int) (p : Bool) : Array Value := #[.int .u8 s, .int .u8 b0, .int .u8 b1, .int .u8 b2, .int .u8 b3, .int .u8 d, .int .u8 l, .bool p]
def frameC (s l t r b : Nat) : Array Value := #[.int .i64 s, .int .i64 l, .int .i64 t, .int .i64 r, .int .i64 b]
theorem list_ix {P : Program} {w : World} {ops : Array Oper} {rest : List Oper} {o : Oper} {a : Act} {Q : Exit → Act → World → Prop} (hgd : o.guard = none) (t : TypeId) (x ix : Operand) (ho : o.op = .index t x ix) (v : Value)
    (hrun : (Instr.index t (a.eval x) (a.eval ix)).run P w = .ok v w) (h : wpList P ops Q rest (a.put o.dst v) w) : wpList P ops Q (o :: rest) a w :=
  wpList_plain hgd fun _ hK => by
    unfold Oper.wp execOp
    simp only [ho, Sem.run_bind, Sem.run_pure, hrun, Result.andThen_ok]
    exact hK _ _ h
set_option maxRecDepth 100000 in
theorem frameOf_any (s b0 b1 b2 b3 d l : Nat) (p : Bool) (w : World) (h : s < 256 ∧ b0 < 256 ∧ b1 < 256 ∧ b2 < 256 ∧ b3 < 256) :
    Calls Try.prog 12 #[.agg (viewC s b0 b1 b2 b3 d l p)] w fun e w' => e = .returned (.agg (frameC (1 + s % 6) (1 + b0 % 100) (1 + b1 % 100) (1 + b2 % 100) (1 + b3 % 100))) ∧ Below w.heap.size w w' := by
  unfold viewC frameC
  go_enter Try.func12, Try.ntmps12
  go_wp2_with fail
  have hV := ((Blk.fresh w 25 #[.int .u8 s, .int .u8 b0, .int .u8 b1, .int .u8 b2, .int .u8 b3, .int .u8 d, .int .u8 l, .bool p]).alloc (.cells #[.int .i64 0, .int .i64 0, .int .i64 0, .int .i64 0, .int .i64 0] 34)).alloc (.cells #[.int .i64 0, .int .i64 0, .int .i64 0, .int .i64 0] 59)
  have hF := (Blk.fresh' (w := w.alloc (.cells #[.int .u8 s, .int .u8 b0, .int .u8 b1, .int .u8 b2, .int .u8 b3, .int .u8 d, .int .u8 l, .bool p] 25)) (g := w.heap.size + 1) (t := 34) (cs := #[.int .i64 0, .int .i64 0, .int .i64 0, .int .i64 0, .int .i64 0]) (by simp)).alloc (.cells #[.int .i64 0, .int .i64 0, .int .i64 0, .int .i64 0] 59)
  have hN := Blk.fresh' (w := (w.alloc (.cells #[.int .u8 s, .int .u8 b0, .int .u8 b1, .int .u8 b2, .int .u8 b3, .int .u8 d, .int .u8 l, .bool p] 25)).alloc (.cells #[.int .i64 0, .int .i64 0, .int .i64 0, .int .i64 0, .int .i64 0] 34)) (g := w.heap.size + 1 + 1) (t := 59) (cs := #[.int .i64 0, .int .i64 0, .int .i64 0, .int .i64 0]) (by simp)
  have hB := bal (bal (bal (brf w) (.cells #[.int .u8 s, .int .u8 b0, .int .u8 b1, .int .u8 b2, .int .u8 b3, .int .u8 d, .int .u8 l, .bool p] 25)) (.cells #[.int .i64 0, .int .i64 0, .int .i64 0, .int .i64 0, .int .i64 0] 34)) (.cells #[.int .i64 0, .int .i64 0, .int .i64 0, .int .i64 0] 59)
  generalize World.alloc _ _ = wz at *
  have HV := Lib.hid hV; have HF := Lib.hid hF; have HN := Lib.hid hN; have HB := Lib.hid hB
  clear hV hF hN hB
  have m0 : (b0 : Int) % 100 = ((b0 % 100 : Nat) : Int) := by omega
  have m1 : (b1 : Int) % 100 = ((b1 % 100 : Nat) : Int) := by omega
  have m2 : (b2 : Int) % 100 = ((b2 % 100 : Nat) : Int) := by omega
  have m3 : (b3 : Int) % 100 = ((b3 % 100 : Nat) : Int) := by omega
  have l0 : b0 % 100 < 100 := Nat.mod_lt _ (by decide)
  have l1 : b1 % 100 < 100 := Nat.mod_lt _ (by decide)
  have l2 : b2 % 100 < 100 := Nat.mod_lt _ (by decide)
  have l3 : b3 % 100 < 100 := Nat.mod_lt _ (by decide)
  generalize b0 % 100 = c0 at *
  generalize b1 % 100 = c1 at *
  generalize b2 % 100 = c2 at *
  generalize b3 % 100 = c3 at *
  go_loopw [9] (fun kv wr => ∃ (k : Nat), k ≤ 4 ∧ kv = .int .i64 (k : Int) ∧ Hid (Blk wr w.heap.size 25 #[.int .u8 s, .int .u8 b0, .int .u8 b1, .int .u8 b2, .int .u8 b3, .int .u8 d, .int .u8 l, .bool p]) ∧ Hid (Blk wr (w.heap.size + 1) 34 #[.int .i64 0, .int .i64 0, .int .i64 0, .int .i64 0, .int .i64 0]) ∧
    Hid (Blk wr (w.heap.size + 1 + 1) 59 #[.int .i64 (if 0 < k then ((1 + c0 : Nat) : Int) else 0), .int .i64 (if 1 < k then ((1 + c1 : Nat) : Int) else 0), .int .i64 (if 2 < k then ((1 + c2 : Nat) : Int) else 0), .int .i64 (if 3 < k then ((1 + c3 : Nat) : Int) else 0)]) ∧ Hid (Below w.heap.size w wr)) (fun kv _ => 4 - (intOf kv).toNat)
  case atStart => exact ⟨0, by omega, rfl, HV, HF, HN, HB⟩
  case round =>
    clear HV HF HN HB
    obtain ⟨k, hk, rfl, HV, HF, HN, HB⟩ := hrel
    by_cases hk4 : k < 4
    · have hc : k = 0 ∨ k = 1 ∨ k = 2 ∨ k = 3 := by omega
      clear hk hk4
      rcases hc with rfl | rfl | rfl | rfl
      · have hN := HN.out
        simp at hN
        have c1x : wr.cell? ⟨w.heap.size + 1 + 1, 0, none⟩ = some (.int .i64 0) := by rw [hN.cell]; rfl
        have f1x := hN.frozen 0
        have hN2 := hN.put 0 (.int .i64 (1 + (c0 : Int)))
        have HV2 := Lib.hid (HV.out.far (p := ⟨w.heap.size + 1 + 1, 0, none⟩) (by show w.heap.size ≠ w.heap.size + 1 + 1; omega) (.int .i64 (1 + (c0 : Int))))
        have HF2 := Lib.hid (HF.out.far (p := ⟨w.heap.size + 1 + 1, 0, none⟩) (by show w.heap.size + 1 ≠ w.heap.size + 1 + 1; omega) (.int .i64 (1 + (c0 : Int))))
        have HB2 := Lib.hid (HB.out.setCell (p := ⟨w.heap.size + 1 + 1, 0, none⟩) (by show w.heap.size ≤ w.heap.size + 1 + 1; omega) (.int .i64 (1 + (c0 : Int))))
        have HN2 : Hid (Blk (wr.setCell ⟨w.heap.size + 1 + 1, 0, none⟩ (.int .i64 (1 + (c0 : Int)))) (w.heap.size + 1 + 1) 59 #[.int .i64 (if 0 < 1 then ((1 + c0 : Nat) : Int) else 0), .int .i64 (if 1 < 1 then ((1 + c1 : Nat) : Int) else 0), .int .i64 (if 2 < 1 then ((1 + c2 : Nat) : Int) else 0), .int .i64 (if 3 < 1 then ((1 + c3 : Nat) : Int) else 0)]) := Lib.hid (by
          have h9 := hN2
          simp at h9 ⊢
          exact h9)
        clear hN hN2 HV HF HN HB
        go_wp2_with (with_reducible refine stop_at (o := ⟨some 12, _, _, _, _, _⟩) ?_)
        refine Lib.hid ?_
        refine list_ix rfl _ _ _ rfl (.int .u8 (b0 : Nat)) (by first | rfl | kernel_rfl) ?_
        go_wp2_with fail
        go_roundw
        case rel => exact ⟨1, by omega, by rfl, HV2, HF2, HN2, HB2⟩
        case measure => simp [intOf]
      · have hN := HN.out
        simp at hN
        have c1x : wr.cell? ⟨w.heap.size + 1 + 1, 1, none⟩ = some (.int .i64 0) := by rw [hN.cell]; rfl
        have f1x := hN.frozen 1
        have hN2 := hN.put 1 (.int .i64 (1 + (c1 : Int)))
        have HV2 := Lib.hid (HV.out.far (p := ⟨w.heap.size + 1 + 1, 1, none⟩) (by show w.heap.size ≠ w.heap.size + 1 + 1; omega) (.int .i64 (1 + (c1 : Int))))
        have HF2 := Lib.hid (HF.out.far (p := ⟨w.heap.size + 1 + 1, 1, none⟩) (by show w.heap.size + 1 ≠ w.heap.size + 1 + 1; omega) (.int .i64 (1 + (c1 : Int))))
        have HB2 := Lib.hid (HB.out.setCell (p := ⟨w.heap.size + 1 + 1, 1, none⟩) (by show w.heap.size ≤ w.heap.size + 1 + 1; omega) (.int .i64 (1 + (c1 : Int))))
        have HN2 : Hid (Blk (wr.setCell ⟨w.heap.size + 1 + 1, 1, none⟩ (.int .i64 (1 + (c1 : Int)))) (w.heap.size + 1 + 1) 59 #[.int .i64 (if 0 < 2 then ((1 + c0 : Nat) : Int) else 0), .int .i64 (if 1 < 2 then ((1 + c1 : Nat) : Int) else 0), .int .i64 (if 2 < 2 then ((1 + c2 : Nat) : Int) else 0), .int .i64 (if 3 < 2 then ((1 + c3 : Nat) : Int) else 0)]) := Lib.hid (by
          have h9 := hN2
          simp at h9 ⊢
          exact h9)
        clear hN hN2 HV HF HN HB
        go_wp2_with (with_reducible refine stop_at (o := ⟨some 12, _, _, _, _, _⟩) ?_)
        refine Lib.hid ?_
        refine list_ix rfl _ _ _ rfl (.int .u8 (b1 : Nat)) (by first | rfl | kernel_rfl) ?_
        go_wp2_with fail
        go_roundw
        case rel => exact ⟨2, by omega, by rfl, HV2, HF2, HN2, HB2⟩
        case measure => simp [intOf]
      · have hN := HN.out
        simp at hN
        have c1x : wr.cell? ⟨w.heap.size + 1 + 1, 2, none⟩ = some (.int .i64 0) := by rw [hN.cell]; rfl
        have f1x := hN.frozen 2
        have hN2 := hN.put 2 (.int .i64 (1 + (c2 : Int)))
        have HV2 := Lib.hid (HV.out.far (p := ⟨w.heap.size + 1 + 1, 2, none⟩) (by show w.heap.size ≠ w.heap.size + 1 + 1; omega) (.int .i64 (1 + (c2 : Int))))
        have HF2 := Lib.hid (HF.out.far (p := ⟨w.heap.size + 1 + 1, 2, none⟩) (by show w.heap.size + 1 ≠ w.heap.size + 1 + 1; omega) (.int .i64 (1 + (c2 : Int))))
        have HB2 := Lib.hid (HB.out.setCell (p := ⟨w.heap.size + 1 + 1, 2, none⟩) (by show w.heap.size ≤ w.heap.size + 1 + 1; omega) (.int .i64 (1 + (c2 : Int))))
        have HN2 : Hid (Blk (wr.setCell ⟨w.heap.size + 1 + 1, 2, none⟩ (.int .i64 (1 + (c2 : Int)))) (w.heap.size + 1 + 1) 59 #[.int .i64 (if 0 < 3 then ((1 + c0 : Nat) : Int) else 0), .int .i64 (if 1 < 3 then ((1 + c1 : Nat) : Int) else 0), .int .i64 (if 2 < 3 then ((1 + c2 : Nat) : Int) else 0), .int .i64 (if 3 < 3 then ((1 + c3 : Nat) : Int) else 0)]) := Lib.hid (by
          have h9 := hN2
          simp at h9 ⊢
          exact h9)
        clear hN hN2 HV HF HN HB
        go_wp2_with (with_reducible refine stop_at (o := ⟨some 12, _, _, _, _, _⟩) ?_)
        refine Lib.hid ?_
        refine list_ix rfl _ _ _ rfl (.int .u8 (b2 : Nat)) (by first | rfl | kernel_rfl) ?_
        go_wp2_with fail
        go_roundw
        case rel => exact ⟨3, by omega, by rfl, HV2, HF2, HN2, HB2⟩
        case measure => simp [intOf]
      · have hN := HN.out
        simp at hN
        have c1x : wr.cell? ⟨w.heap.size + 1 + 1, 3, none⟩ = some (.int .i64 0) := by rw [hN.cell]; rfl
        have f1x := hN.frozen 3
        have hN2 := hN.put 3 (.int .i64 (1 + (c3 : Int)))
        have HV2 := Lib.hid (HV.out.far (p := ⟨w.heap.size + 1 + 1, 3, none⟩) (by show w.heap.size ≠ w.heap.size + 1 + 1; omega) (.int .i64 (1 + (c3 : Int))))
        have HF2 := Lib.hid (HF.out.far (p := ⟨w.heap.size + 1 + 1, 3, none⟩) (by show w.heap.size + 1 ≠ w.heap.size + 1 + 1; omega) (.int .i64 (1 + (c3 : Int))))
        have HB2 := Lib.hid (HB.out.setCell (p := ⟨w.heap.size + 1 + 1, 3, none⟩) (by show w.heap.size ≤ w.heap.size + 1 + 1; omega) (.int .i64 (1 + (c3 : Int))))
        have HN2 : Hid (Blk (wr.setCell ⟨w.heap.size + 1 + 1, 3, none⟩ (.int .i64 (1 + (c3 : Int)))) (w.heap.size + 1 + 1) 59 #[.int .i64 (if 0 < 4 then ((1 + c0 : Nat) : Int) else 0), .int .i64 (if 1 < 4 then ((1 + c1 : Nat) : Int) else 0), .int .i64 (if 2 < 4 then ((1 + c2 : Nat) : Int) else 0), .int .i64 (if 3 < 4 then ((1 + c3 : Nat) : Int) else 0)]) := Lib.hid (by
          have h9 := hN2
          simp at h9 ⊢
          exact h9)
        clear hN hN2 HV HF HN HB
        go_wp2_with (with_reducible refine stop_at (o := ⟨some 12, _, _, _, _, _⟩) ?_)
        refine Lib.hid ?_
        refine list_ix rfl _ _ _ rfl (.int .u8 (b3 : Nat)) (by first | rfl | kernel_rfl) ?_
        go_wp2_with fail
        go_roundw
        case rel => exact ⟨4, by omega, by rfl, HV2, HF2, HN2, HB2⟩
        case measure => simp [intOf]
    · obtain rfl : k = 4 := by omega
      have hN := HN.out
      simp at hN
      have v0 : wr.cell? ⟨w.heap.size, 0, none⟩ = some (.int .u8 (s : Nat)) := by rw [HV.out.cell]; rfl
      have n0 : wr.cell? ⟨w.heap.size + 1 + 1, 0, none⟩ = some (.int .i64 (1 + (c0 : Int))) := by rw [hN.cell]; rfl
      have n1 : wr.cell? ⟨w.heap.size + 1 + 1, 1, none⟩ = some (.int .i64 (1 + (c1 : Int))) := by rw [hN.cell]; rfl
      have n2 : wr.cell? ⟨w.heap.size + 1 + 1, 2, none⟩ = some (.int .i64 (1 + (c2 : Int))) := by rw [hN.cell]; rfl
      have n3 : wr.cell? ⟨w.heap.size + 1 + 1, 3, none⟩ = some (.int .i64 (1 + (c3 : Int))) := by rw [hN.cell]; rfl
      have ms : (s : Int) % 6 = ((s % 6 : Nat) : Int) := by omega
      have ls : s % 6 < 6 := Nat.mod_lt _ (by decide)
      have e0 := HF.out.cell 0
      have e1 := HF.out.cell 1
      have e2 := HF.out.cell 2
      have e3 := HF.out.cell 3
      have e4 := HF.out.cell 4
      have f0 := HF.out.frozen 0
      have f1 := HF.out.frozen 1
      have f2 := HF.out.frozen 2
      have f3 := HF.out.frozen 3
      have f4 := HF.out.frozen 4
      generalize s % 6 = sm at *
      clear hN HV HN
      go_wp2_with fail
      have k := ((((HF.out.put 0 (.int .i64 (1 + (sm : Int)))).put 1 (.int .i64 (1 + (c0 : Int)))).put 2 (.int .i64 (1 + (c1 : Int)))).put 3 (.int .i64 (1 + (c2 : Int)))).put 4 (.int .i64 (1 + (c3 : Int)))
      have hbF := ((((HB.out.setCell (p := ⟨w.heap.size + 1, 0, none⟩) (by show w.heap.size ≤ w.heap.size + 1; omega) (.int .i64 (1 + (sm : Int)))).setCell (p := ⟨w.heap.size + 1, 1, none⟩) (by show w.heap.size ≤ w.heap.size + 1; omega) (.int .i64 (1 + (c0 : Int)))).setCell (p := ⟨w.heap.size + 1, 2, none⟩) (by show w.heap.size ≤ w.heap.size + 1; omega) (.int .i64 (1 + (c1 : Int)))).setCell (p := ⟨w.heap.size + 1, 3, none⟩) (by show w.heap.size ≤ w.heap.size + 1; omega) (.int .i64 (1 + (c2 : Int)))).setCell (p := ⟨w.heap.size + 1, 4, none⟩) (by show w.heap.size ≤ w.heap.size + 1; omega) (.int .i64 (1 + (c3 : Int)))
      clear e0 e1 e2 e3 e4 f0 f1 f2 f3 f4 n0 n1 n2 n3 v0 HF HB
      generalize World.setCell _ _ _ = wf at *
      have k' : Blk wf (w.heap.size + 1) 34 #[.int .i64 (1 + (sm : Int)), .int .i64 (1 + (c0 : Int)), .int .i64 (1 + (c1 : Int)), .int .i64 (1 + (c2 : Int)), .int .i64 (1 + (c3 : Int))] := k
      have q0 : wf.cell? ⟨w.heap.size + 1, 0, none⟩ = some (.int .i64 (1 + (sm : Int))) := by rw [k'.cell]; rfl
      have q1 : wf.cell? ⟨w.heap.size + 1, 1, none⟩ = some (.int .i64 (1 + (c0 : Int))) := by rw [k'.cell]; rfl
      have q2 : wf.cell? ⟨w.heap.size + 1, 2, none⟩ = some (.int .i64 (1 + (c1 : Int))) := by rw [k'.cell]; rfl
      have q3 : wf.cell? ⟨w.heap.size + 1, 3, none⟩ = some (.int .i64 (1 + (c2 : Int))) := by rw [k'.cell]; rfl
      have q4 : wf.cell? ⟨w.heap.size + 1, 4, none⟩ = some (.int .i64 (1 + (c3 : Int))) := by rw [k'.cell]; rfl
      have HBF := Lib.hid hbF
      clear k k' hbF
      refine bodyPost_ret (v := .agg #[.int .i64 (1 + (sm : Int)), .int .i64 (1 + (c0 : Int)), .int .i64 (1 + (c1 : Int)), .int .i64 (1 + (c2 : Int)), .int .i64 (1 + (c3 : Int))]) (by simp [results, loadVar]; go_simp; first | done | simp [q0, q1, q2, q3, q4]) rfl ?_
      exact ⟨by simp; omega, HBF.out⟩
end Go.Proofs.Ytcldipbboidjbaa
namespace Go.Proofs.Ytcldipbboidjbaa
open Go.RowKit

/-- A picture's pixel. -/
def picF (sc le to n : Nat) (F : Nat → Nat → Bool) (x y : Nat) : Bool := decide (to ≤ y ∧ y < to + sc * n ∧ le ≤ x ∧ x < le + sc * n) && F ((x - le) / sc) ((y - to) / sc)
/-- A row of it, when the first pixels are laid. -/
def picR (sc le : Nat) (G : Nat → Bool) (k x _y : Nat) : Bool := decide (le ≤ x ∧ x < le + k) && G ((x - le) / sc)
theorem row_light {n y : Nat} {G : Nat → Nat → Bool} (h : ∀ x, x < n → G x y = false) : rowF n G y = List.replicate n false := by
  apply List.ext_getElem
  · simp [rowF_len]
  · intro k h1 h2
    rw [rowF_at, List.getElem_replicate]
    exact h k (by simpa [rowF_len] using h1)
theorem row_same {n y y' : Nat} {G G' : Nat → Nat → Bool} (h : ∀ x, x < n → G x y = G' x y') : rowF n G y = rowF n G' y' := by
  unfold rowF
  exact List.map_congr_left (fun x hx => h x (List.mem_range.1 hx))
theorem picR_set (n sc le x : Nat) (G : Nat → Bool) (hx : le + x < n) : (rowF n (picR sc le G x) 0).set (le + x) (G (x / sc)) = rowF n (picR sc le G (x + 1)) 0 := by
  rw [rowF_set _ _ _ _ _ hx]
  refine row_same (fun X hX => ?_)
  unfold picR
  by_cases h : X = le + x
  · subst h
    rw [if_pos ⟨rfl, rfl⟩, decide_eq_true (by omega), Bool.true_and, show le + x - le = x by omega]
  · rw [if_neg (by omega)]
    congr 1
    rw [Bool.eq_iff_iff]; simp only [decide_eq_true_eq]; omega
set_option maxRecDepth 100000 in
set_option maxHeartbeats 4000000 in
theorem picture_any (s : Value) (n sc le to ri bo : Nat) (F : Nat → Nat → Bool) (w0 : World) (hs : RowsT w0 s (rowsF n n F)) (h1 : 1 ≤ n) (hn177 : n ≤ 177) (hsc1 : 1 ≤ sc) (hsc : sc ≤ 6) (hle : le ≤ 100) (hto : to ≤ 100) (hri : ri ≤ 100) (hbo : bo ≤ 100) :
    Calls Try.prog 11 #[s, .agg (frameC sc le to ri bo)] w0 fun e w' => ∃ g bs, e = .returned (.slice (some ⟨g, 0, none⟩) (to + sc * n + bo) (to + sc * n + bo)) ∧ bs.length = to + sc * n + bo ∧ MkR w' g (le + sc * n + ri) (to + sc * n + bo) bs (picF sc le to n F) ∧ w0.heap.size ≤ g ∧ Below w0.heap.size w0 w' := by
  obtain ⟨mb, mo, mcap, rfl, hg1, hg2, HROW⟩ := hs.at_ (by rw [rowsF_len]; omega)
  rw [rowsF_len] at hg1 HROW ⊢
  have HRL : Hid (∀ i, i < n → ((rowsF n n F).getD i []).length = n) := Lib.hid (fun i hi => by rw [rowsF_at _ _ _ _ hi, rowF_len])
  have HGF : Hid (∀ i c, i < n → c < n → ((rowsF n n F).getD i []).getD c false = F c i) := Lib.hid (fun i c hi hc => by
    rw [rowsF_at _ _ _ _ hi, List.getD, List.getElem?_eq_getElem (by rw [rowF_len]; exact hc), Option.getD_some, rowF_at])
  obtain ⟨sd, hsd⟩ : ∃ sd, sd = sc * n := ⟨_, rfl⟩
  have hsdle : sd ≤ 6 * 177 := by rw [hsd]; exact Nat.mul_le_mul hsc hn177
  have e0 : (sc : Int) * (n : Int) = (sd : Int) := by rw [hsd]; simp
  obtain ⟨wd, hwd⟩ : ∃ wd, wd = le + sd + ri := ⟨_, rfl⟩
  obtain ⟨ht, hht⟩ : ∃ ht, ht = to + sd + bo := ⟨_, rfl⟩
  rw [← hsd, ← hwd, ← hht]
  obtain ⟨ts, hts⟩ : ∃ ts, ts = to + sd := ⟨_, rfl⟩
  have s1 : (to : Int) + (sd : Int) = (ts : Int) := by omega
  have e1 : (ts : Int) + (bo : Int) = (ht : Int) := by omega
  have e2 : (le : Int) + (sd : Int) + (ri : Int) = (wd : Int) := by omega
  have HE := Lib.hid (And.intro hsd (And.intro hwd hht))
  have hwd2 : le + sd ≤ wd ∧ wd ≤ 2000 := by omega
  have hht2 : to + sd ≤ ht ∧ ht ≤ 2000 := by omega
  obtain ⟨G, hG⟩ : ∃ G : Nat → Nat → Bool, G = picF sc le to n F := ⟨_, rfl⟩
  rw [← hG]
  have HGG := Lib.hid hG
  have HTS := Lib.hid hts
  have hts2 : ts ≤ ht := by omega
  clear hs hsd hwd hht hG hts
  have hmk := fun a => mk_rows ht a (by omega)
  have hmkb := fun a => mk_bools wd a (by omega)
  unfold frameC
  go_enter Try.func11, Try.ntmps11
  have hf := Blk.fresh w0 34 #[.int .i64 sc, .int .i64 le, .int .i64 to, .int .i64 ri, .int .i64 bo]
  have x0 : (w0.alloc (.cells #[.int .i64 sc, .int .i64 le, .int .i64 to, .int .i64 ri, .int .i64 bo] 34)).cell? ⟨w0.heap.size, 0, none⟩ = some (.int .i64 sc) := by rw [hf.cell]; rfl
  have x2 : (w0.alloc (.cells #[.int .i64 sc, .int .i64 le, .int .i64 to, .int .i64 ri, .int .i64 bo] 34)).cell? ⟨w0.heap.size, 2, none⟩ = some (.int .i64 to) := by rw [hf.cell]; rfl
  have x4 : (w0.alloc (.cells #[.int .i64 sc, .int .i64 le, .int .i64 to, .int .i64 ri, .int .i64 bo] 34)).cell? ⟨w0.heap.size, 4, none⟩ = some (.int .i64 bo) := by rw [hf.cell]; rfl
  go_wp2_with fail
  clear hmk e0 e1 x0 x2 x4
  have hB0 := bal (brf w0) (.cells #[.int .i64 sc, .int .i64 le, .int .i64 to, .int .i64 ri, .int .i64 bo] 34)
  have hsz1 : (w0.alloc (.cells #[.int .i64 sc, .int .i64 le, .int .i64 to, .int .i64 ri, .int .i64 bo] 34)).heap.size = w0.heap.size + 1 := by simp
  rw [← hsz1]
  obtain ⟨w1, hw1⟩ : ∃ w1, w1 = w0.alloc (.cells #[.int .i64 sc, .int .i64 le, .int .i64 to, .int .i64 ri, .int .i64 bo] 34) := ⟨_, rfl⟩
  rw [← hw1] at hf hB0 hsz1 ⊢
  clear hw1
  have hfl : w0.heap.size < w1.heap.size := by omega
  have HFR : Hid (∀ wr, Below w1.heap.size w1 wr → wr.cell? ⟨w0.heap.size, 0, none⟩ = some (.int .i64 sc) ∧ wr.cell? ⟨w0.heap.size, 1, none⟩ = some (.int .i64 le) ∧ wr.cell? ⟨w0.heap.size, 2, none⟩ = some (.int .i64 to) ∧ wr.cell? ⟨w0.heap.size, 3, none⟩ = some (.int .i64 ri)) := Lib.hid (fun wr hb => by
    have h9 := hf.below hb hfl
    exact ⟨by rw [h9.cell]; rfl, by rw [h9.cell]; rfl, by rw [h9.cell]; rfl, by rw [h9.cell]; rfl⟩)
  have HB0 := Lib.hid hB0
  have HS1 := Lib.hid hsz1
  clear hf hB0 hsz1
  go_loopw [25] (fun yv wr => ∃ (y : Nat) (bs : List Nat), y ≤ ht ∧ bs.length ≤ y ∧ y ≤ bs.length ∧ yv = .int .i64 y ∧ Hid (MkR wr w1.heap.size wd ht bs G) ∧ Hid (Below w1.heap.size w1 wr)) (fun yv _ => ht - (intOf yv).toNat)
  case atStart => exact ⟨0, [], Nat.zero_le _, Nat.le_refl _, Nat.zero_le _, rfl, Lib.hid (by have := MkR.begin_ w1 wd ht G; simpa using this), Lib.hid (by have := bal (brf w1) (.cells (List.replicate ht (Value.slice none 0 0)).toArray 29); simpa using this)⟩
  case round =>
    obtain ⟨y, vs, hy, hy1, hy2, rfl, HG, HW⟩ := hrel
    by_cases hlt : y < ht
    · obtain rfl : y = vs.length := by omega
      obtain ⟨y0, y1, y2, y3⟩ := HFR.out wr HW.out
      have HGa := HG.out.out.alloc (.cells (bv (List.replicate wd false)).toArray 4)
      have cG : (wr.alloc (.cells (bv (List.replicate wd false)).toArray 4)).cell? ⟨w1.heap.size, vs.length, none⟩ = some (.slice none 0 0) := cell_up (HG.out.ahead hlt) (bal (brf _) _)
      have fG : (wr.alloc (.cells (bv (List.replicate wd false)).toArray 4)).frozen? ⟨w1.heap.size, vs.length, none⟩ = false := HGa.frozen _
      have hglt := HG.out.out.lt
      obtain ⟨wm, hwm⟩ : ∃ wm, wm = (wr.setCell ⟨w1.heap.size, vs.length, none⟩ (.slice (some ⟨wr.heap.size, 0, none⟩) wd wd)).alloc (.cells (bv (List.replicate wd false)).toArray 4) := ⟨_, rfl⟩
      obtain ⟨HG1, hB1, hnx⟩ := HG.out.next hlt _ hwm
      have HB1 := Lib.hid hB1; have HNX := Lib.hid hnx
      have HG1 := Lib.hid HG1
      clear hB1 hnx
      have HW2 : Hid (Below w1.heap.size w1 wm) := Lib.hid (by
        rw [hwm]; exact bal (HW.out.setCell (p := ⟨w1.heap.size, vs.length, none⟩) (Nat.le_refl _) _) _)
      have HWM := Lib.hid hwm.symm; clear hwm HGa HG
      have hfin : ∀ wi, Blk wi wr.heap.size 4 (bv (rowF wd G vs.length)).toArray → Below wr.heap.size wm wi →
          MkR wi w1.heap.size wd ht (vs ++ [wr.heap.size]) G ∧ Below w1.heap.size w1 wi := fun wi h1 h2 => ⟨HNX.out wi h1 h2, HW2.out.trans (h2.mono HW.out.size)⟩
      have HFin := Lib.hid hfin; clear hfin HNX
      have cG2 : wm.cell? ⟨w1.heap.size, vs.length, none⟩ = some (.slice (some ⟨wr.heap.size, 0, none⟩) wd wd) := MkR.last HG1.out
      go_wp2_with (with_reducible refine stop_at (o := ⟨some 40, _, _, _, _, _⟩) ?_)
      refine Lib.hid ?_
      rw [HWM.out]
      clear cG fG y0 y1 y2 y3
      obtain ⟨y0, y1, y2, y3⟩ := HFR.out wm HW2.out
      have hts := HTS.out
      by_cases ha : vs.length < to
      · have hrow : rowF wd G vs.length = List.replicate wd false := row_light (fun x _ => by
          rw [HGG.out]; unfold picF
          rw [decide_eq_false (by rw [← HE.out.1]; omega), Bool.false_and])
        have hB2 := HB1.out
        rw [← hrow] at hB2
        obtain ⟨q1, q2⟩ := HFin.out wm hB2 (Below.refl _ _)
        have HQ1 := Lib.hid q1; have HQ2 := Lib.hid q2
        clear q1 q2 hB2 hrow hts HG1 HB1 HW2 HWM HFin
        go_wp2_with fail
        go_roundw
        case rel => exact ⟨vs.length + 1, _, by omega, by simp, by simp, by go_num, HQ1, HQ2⟩
        case measure => simp [intOf]; omega
      by_cases hb : ts ≤ vs.length
      · have hrow : rowF wd G vs.length = List.replicate wd false := row_light (fun x _ => by
          rw [HGG.out]; unfold picF
          rw [decide_eq_false (by rw [← HE.out.1]; omega), Bool.false_and])
        have hB2 := HB1.out
        rw [← hrow] at hB2
        obtain ⟨q1, q2⟩ := HFin.out wm hB2 (Below.refl _ _)
        have HQ1 := Lib.hid q1; have HQ2 := Lib.hid q2
        clear q1 q2 hB2 hrow hts HG1 HB1 HW2 HWM HFin
        go_wp2_with fail
        go_roundw
        case rel => exact ⟨vs.length + 1, _, by omega, by simp, by simp, by go_num, HQ1, HQ2⟩
        case measure => simp [intOf]; omega
      obtain ⟨yt, hyt⟩ : ∃ yt, yt = vs.length - to := ⟨_, rfl⟩
      obtain ⟨q, hq⟩ : ∃ q, q = yt / sc := ⟨_, rfl⟩
      have d1 : (vs.length : Int) - (to : Int) = (yt : Int) := by omega
      have d2 : Int.tdiv (yt : Int) (sc : Int) = (q : Int) := by rw [hq, Int.tdiv_eq_ediv_of_nonneg (by omega)]; simp
      have d3 : (yt : Int) / (sc : Int) = (q : Int) := by rw [hq]; simp
      have hqn : q < n := by
        rw [hq]
        refine Nat.div_lt_of_lt_mul ?_
        have := HE.out.1; omega
      have hytb : yt ≤ 2000 := by omega
      have hqb : q ≤ 200 := by omega
      have hsc0 : ¬ ((sc : Int) = 0) := by omega
      have hsc00 : ¬ sc = 0 := by omega
      have HYQ : Hid (q = (vs.length - to) / sc) := Lib.hid (by rw [hq, hyt])
      obtain ⟨u, hu1, hu2⟩ := HROW.out q hqn
      obtain ⟨ub, uo, uc, rfl, hc1, hc2, HBIT⟩ := row_at hu2 (by rw [HRL.out q hqn]; omega)
      rw [HRL.out q hqn] at hu1 hc1 HBIT
      have cM := cell_up hu1 (HB0.out.trans (HW2.out.mono (by omega)))
      have hst : Blk wm wr.heap.size 4 (bv (rowF wd (picR sc le (fun j => F j q) 0) 0)).toArray := by
        have h9 := HB1.out
        rw [← row_light (G := picR sc le (fun j => F j q) 0) (y := 0) (fun x _ => by unfold picR; rw [decide_eq_false (by omega), Bool.false_and])] at h9
        exact h9
      have HST := Lib.hid hst
      have hab : to ≤ vs.length ∧ vs.length < ts := by omega
      clear hst hq hyt hu1 hu2 HB1 hts
      have k1 : ¬ (vs.length : Int) < (to : Int) := by omega
      have k2 : ¬ (ts : Int) ≤ (vs.length : Int) := by omega
      go_wp2_with fail
      clear d1 d2 d3 cM s1 k1 k2
      go_loopw [9] (fun xv wi => ∃ (x : Nat), x ≤ sd ∧ xv = .int .i64 (x : Int) ∧ Hid (Blk wi wr.heap.size 4 (bv (rowF wd (picR sc le (fun j => F j q) x) 0)).toArray) ∧ Hid (Below wr.heap.size wm wi)) (fun xv _ => sd - (intOf xv).toNat)
      case atStart => exact ⟨0, Nat.zero_le _, rfl, HST, Lib.hid (Below.refl _ _)⟩
      case round =>
        clear HST cG2 y0 y1 y2 y3
        rename World => wi
        obtain ⟨x, hx, rfl, HBx, HWx⟩ := hrel
        by_cases hxl : x < sd
        · obtain ⟨xq, hxq⟩ : ∃ xq, xq = x / sc := ⟨_, rfl⟩
          obtain ⟨lx, hlx⟩ : ∃ lx, lx = le + x := ⟨_, rfl⟩
          have d1 : Int.tdiv (x : Int) (sc : Int) = (xq : Int) := by rw [hxq, Int.tdiv_eq_ediv_of_nonneg (by omega)]; simp
          have d2 : (x : Int) / (sc : Int) = (xq : Int) := by rw [hxq]; simp
          have d3 : (le : Int) + (x : Int) = (lx : Int) := by omega
          have hxqn : xq < n := by
            rw [hxq]
            refine Nat.div_lt_of_lt_mul ?_
            have := HE.out.1; omega
          have hlxd : lx < wd := by omega
          have w2 : IntKind.i64.wrap (xq : Int) = (xq : Int) := by rw [IntKind.wrap_i64]; omega
          have w3 : IntKind.i64.wrap (lx : Int) = (lx : Int) := by rw [IntKind.wrap_i64]; omega
          have HWw := Lib.hid (HW2.out.trans (HWx.out.mono HW.out.size))
          obtain ⟨y0, y1, y2, y3⟩ := HFR.out wi HWw.out
          have cG2 : wi.cell? ⟨w1.heap.size, vs.length, none⟩ = some (.slice (some ⟨wr.heap.size, 0, none⟩) wd wd) := MkR.last (HG1.out.below HWx.out hglt)
          have cB := cell_up (HBIT.out xq hxqn) (HB0.out.trans (HWw.out.mono (by omega)))
          rw [HGF.out q xq hqn hxqn] at cB
          have hset := picR_set wd sc le x (fun j => F j q) (by omega)
          rw [← hxq, ← hlx] at hset
          obtain ⟨gb, hgb⟩ : ∃ gb, gb = F xq q := ⟨_, rfl⟩
          have hset2 : (rowF wd (picR sc le (fun j => F j q) x) 0).set lx gb = rowF wd (picR sc le (fun j => F j q) (x + 1)) 0 := by rw [hgb]; exact hset
          rw [← hgb] at cB
          have cO : wi.cell? ⟨wr.heap.size, lx, none⟩ = some (.bool (picR sc le (fun j => F j q) x lx 0)) := by
            rw [HBx.out.cell, List.getElem?_toArray]
            have h9 := bv_at (rowF wd (picR sc le (fun j => F j q) x) 0) lx (by rw [rowF_len]; exact hlxd)
            rw [h9, rowF_at]
          have fO : wi.frozen? ⟨wr.heap.size, lx, none⟩ = false := HBx.out.frozen _
          have hn2 := (HBx.out.put lx (.bool gb)).drew
          rw [bv_set, hset2] at hn2
          have HN2 := Lib.hid hn2
          have HWn := Lib.hid ((HWx.out.setCell (p := ⟨wr.heap.size, lx, none⟩) (Nat.le_refl _) (.bool gb)).drew)
          generalize picR sc le (fun j => F j q) x lx 0 = old at *
          clear hset hset2 hn2 hgb hxq hlx HBx HWx HWw y2 y3
          go_wp2_with fail
          refine Can.wp_region_can (fun w' => w'.cell? ⟨w1.heap.size, vs.length, none⟩ = some (.slice (some ⟨wr.heap.size, 0, none⟩) wd wd) ∧ w'.cell? ⟨w0.heap.size, 0, none⟩ = some (.int .i64 sc) ∧ w'.cell? ⟨w0.heap.size, 1, none⟩ = some (.int .i64 le) ∧ w'.cell? ⟨ub, uo + xq, none⟩ = some (.bool gb) ∧ w'.cell? ⟨wr.heap.size, lx, none⟩ = some (.bool old) ∧ w'.frozen? ⟨wr.heap.size, lx, none⟩ = false) 16 [0, 1, 2, 3, 4, 5, 6, 7, 8, 9, 10, 11, 12, 13, 14, 15, 16] (by kernel_rfl) (by kernel_rfl) (fun _ _ d _ _ h => by cases d <;> exact h) ⟨cG2, y0, y1, cB, cO, fO⟩ (fun hHeld => ?_)
          repeat (refine Can.can_pure (v := ?_) rfl rfl (Or.inl ⟨by rfl, ?_⟩) ?_; rotate_left; (focus ((intro w hSw); (try dsimp only at hSw); go_simp; (try with_reducible rfl))); (try simp only [Act.put, List.getElem_toArray, List.getElem_cons_succ, List.getElem_cons_zero, List.setIfInBounds_toArray, List.set_cons_zero, List.set_cons_succ]))
          have f1 := hHeld.2.2.2.2.2
          have c3 := hHeld.2.2.2.2.1
          refine Can.can_tail rfl rfl (by rfl) (fun K hK => ?_)
          go_simp
          refine hK.out _ _ ?_
          clear hK K
          clear hHeld f1 c3 cG2 y0 y1 cB cO fO d1 d2 d3 w2 w3
          go_wp2_with fail
          go_roundw
          case rel => exact ⟨x + 1, by omega, by go_num, HN2, HWn⟩
          case measure => simp [intOf]; omega
        · obtain rfl : sd = x := by omega
          have hB2 : Blk wi wr.heap.size 4 (bv (rowF wd G vs.length)).toArray := by
            have h9 := HBx.out
            rw [row_same (G' := G) (y' := vs.length) (fun X hX => by
              rw [HGG.out]
              unfold picR picF
              rw [← HE.out.1, ← HYQ.out]
              congr 1
              have := HTS.out
              rw [Bool.eq_iff_iff]; simp only [decide_eq_true_eq]; omega)] at h9
            exact h9
          obtain ⟨q1, q2⟩ := HFin.out wi hB2 HWx.out
          have HQ1 := Lib.hid q1; have HQ2 := Lib.hid q2
          clear q1 q2 hB2 HBx HWx HG1 HW2 HWM HFin
          go_wp2_with fail
          go_roundw
          case rel => exact ⟨vs.length + 1, _, by omega, by simp, by simp, by go_num, HQ1, HQ2⟩
          case measure => simp [intOf]; omega
    · obtain rfl : y = ht := by omega
      have hvl : vs.length = y := by omega
      have HB9 : Hid (Below w0.heap.size w0 wr) := Lib.hid (HB0.out.trans (HW.out.mono (by omega)))
      go_wp2_with fail
      go_ret
      exact ⟨w1.heap.size, vs, rfl, hvl, HG.out, by omega, HB9.out⟩
end Go.Proofs.Ytcldipbboidjbaa
