/-
  GROUND: rows of a picture that are made blank one by one. THE WALK OF THE LAW FnRQModules.
-/
import Derived.Test.YtcldipbboidjbaaEx3
import Derived.Test.YtcldipbboidjbaaWy3
import Derived.Test.YtcldipbboidjbaaVw
namespace Go.Proofs.Ytcldipbboidjbaa
open Go.RowKit

/-- In block g lie rows of n bits: the first y of them new and blank, the others in the blocks bs. -/
def PicS (w : World) (g n : Nat) (bs : List Nat) (y : Nat) : Prop :=
  ∃ ns : List Nat, ns.length = y ∧ Blk w g 29 ((ns ++ bs.drop y).map (rowV n)).toArray ∧ ∀ i, i < y → Blk w (ns.getD i 0) 4 (bv (List.replicate n false)).toArray ∧ ns.getD i 0 ≠ g
section
variable {w w' : World} {g n y : Nat} {bs : List Nat}
theorem PicS.begin_ {F : Nat → Nat → Bool} (h : MkR w g n bs.length bs F) : PicS w g n bs 0 := by
  refine ⟨[], rfl, ?_, fun i hi => absurd hi (Nat.not_lt_zero _)⟩
  have h1 := h.out
  have e : bs.length = (bs.map (rowV n)).length := by simp
  rw [e, padV_full] at h1
  exact h1
theorem PicS.blk (h : PicS w g n bs y) : ∃ cs, Blk w g 29 cs := by
  obtain ⟨ns, _, h1, _⟩ := h
  exact ⟨_, h1⟩
theorem PicS.at_ (h : PicS w g n bs y) (hy : y < bs.length) : w.cell? ⟨g, y, none⟩ = some (rowV n (bs.getD y 0)) := by
  obtain ⟨ns, h0, h1, _⟩ := h
  rw [h1.cell, List.getElem?_toArray, List.getElem?_map, List.getElem?_append_right (by omega), h0, Nat.sub_self, List.getElem?_drop, Nat.add_zero, List.getElem?_eq_getElem hy, List.getD, List.getElem?_eq_getElem hy]
  rfl
theorem PicS.next (h : PicS w g n bs y) (hy : y < bs.length) {wm : World} (hwm : wm = (w.alloc (.cells (bv (List.replicate n false)).toArray 4)).setCell ⟨g, y, none⟩ (rowV n w.heap.size)) : PicS wm g n bs (y + 1) := by
  obtain ⟨ns, h0, h1, h2⟩ := h
  have hgl := h1.lt
  refine ⟨ns ++ [w.heap.size], by simp [h0], ?_, fun i hi => ?_⟩
  · have h3 := (h1.alloc (.cells (bv (List.replicate n false)).toArray 4)).put y (rowV n w.heap.size)
    rw [← hwm] at h3
    have e : ((ns ++ bs.drop y).map (rowV n)).toArray.setIfInBounds y (rowV n w.heap.size) = ((ns ++ [w.heap.size] ++ bs.drop (y + 1)).map (rowV n)).toArray := by
      rw [List.setIfInBounds_toArray]
      congr 1
      have e2 : rowV n w.heap.size = rowV n w.heap.size := rfl
      rw [← List.map_set, List.set_append_right _ _ (by omega), h0, Nat.sub_self, List.drop_eq_getElem_cons hy, List.set_cons_zero, List.append_assoc]
      rfl
    rw [e] at h3
    exact h3
  · rcases Nat.lt_or_ge i ns.length with hl | hl
    · rw [getD_snocN_lo _ _ _ hl, hwm]
      obtain ⟨h4, h5⟩ := h2 i (by omega)
      exact ⟨(h4.alloc _).far (p := ⟨g, y, none⟩) h5 _, h5⟩
    · obtain rfl : i = ns.length := by omega
      rw [getD_snocN, hwm]
      exact ⟨(Blk.fresh' (by simp)).far (p := ⟨g, y, none⟩) (by show w.heap.size ≠ g; omega) _, by omega⟩
theorem PicS.done (h : PicS w g n bs bs.length) (h16 : n ≤ 65536 ∧ bs.length ≤ 65536) : RowsT w (.slice (some ⟨g, 0, none⟩) bs.length bs.length) (rowsF n bs.length (fun _ _ => false)) := by
  obtain ⟨ns, h0, h1, h2⟩ := h
  rw [List.drop_length, List.append_nil] at h1
  refine ⟨ns.map (rowV n), RdT.of_blk h1 (by simp [h0]) (by simp [h0]) (by unfold maxLen; omega), by rw [List.length_map, rowsF_len]; exact h0, fun i hi => ?_⟩
  rw [rowsF_len] at hi
  rw [rowsF_at _ _ _ _ hi]
  have e : (ns.map (rowV n)).getD i undef = rowV n (ns.getD i 0) := by
    rw [List.getD, List.getElem?_map, List.getElem?_eq_getElem (by omega), List.getD, List.getElem?_eq_getElem (by omega)]; rfl
  rw [e]
  have e2 : rowF n (fun _ _ => false) i = List.replicate n false := by
    unfold rowF
    show (List.range n).map (fun _ => false) = _
    rw [List.map_const', List.length_range]
  rw [e2]
  exact RdT.of_blk (h2 i hi).1 (by simp [bv]) (by simp [bv]) (by unfold maxLen; omega)
end
theorem rqVersion_any (a : Nat) (w : World) (h : a < 256) : Calls Try.prog 5 #[.int .u8 a] w fun e w' => e = .returned (.int .i64 ((1 + a % 40 : Nat) : Int)) ∧ w' = w := by
  have t1 : Int.tmod (a : Int) 40 = ((a % 40 : Nat) : Int) := by rw [Int.tmod_eq_emod_of_nonneg (by omega)]; simp
  have t2 : (a : Int) % 40 = ((a % 40 : Nat) : Int) := by omega
  have t3 : (1 : Int) + ((a % 40 : Nat) : Int) = ((1 + a % 40 : Nat) : Int) := by omega
  have hb : 1 + a % 40 ≤ 40 := by omega
  generalize 1 + a % 40 = q at *
  generalize a % 40 = r at *
  go_enter Try.func5, Try.ntmps5
  go_wp2
  go_ret
  exact ⟨rfl, rfl⟩
theorem rqLevel_any (a : Nat) (w : World) (h : a < 256) : Calls Try.prog 8 #[.int .u8 a] w fun e w' => e = .returned (.int .i64 ((a % 4 : Nat) : Int)) ∧ w' = w := by
  have t1 : Int.tmod (a : Int) 4 = ((a % 4 : Nat) : Int) := by rw [Int.tmod_eq_emod_of_nonneg (by omega)]; simp
  have t2 : (a : Int) % 4 = ((a % 4 : Nat) : Int) := by omega
  generalize a % 4 = r at *
  go_enter Try.func8, Try.ntmps8
  go_wp2
  go_ret
  exact ⟨rfl, rfl⟩
theorem rqMask_any (a : Nat) (w : World) (h : a < 256) : Calls Try.prog 9 #[.int .u8 a] w fun e w' => e = .returned (.int .i64 ((a % 8 : Nat) : Int)) ∧ w' = w := by
  have t1 : Int.tmod (a : Int) 8 = ((a % 8 : Nat) : Int) := by rw [Int.tmod_eq_emod_of_nonneg (by omega)]; simp
  have t2 : (a : Int) % 8 = ((a % 8 : Nat) : Int) := by omega
  generalize a % 8 = r at *
  go_enter Try.func9, Try.ntmps9
  go_wp2
  go_ret
  exact ⟨rfl, rfl⟩
set_option maxRecDepth 100000 in
set_option maxHeartbeats 4000000 in
theorem modules_walk (v0 : Value) (l : List Int) (vN lN mN : Nat) (tu : Bool) (s b0 b1 b2 b3 dk lt : Nat) (pt : Bool) (W : World) (hs : Rd W W.heap.size v0 (vals .u8 l)) (hwf : ∀ n ∈ l, (Lit.int .u8 n).wf = true) (h1 : vN < 256) (h2 : lN < 256) (h3 : mN < 256)
    (hbs : s < 256 ∧ b0 < 256 ∧ b1 < 256 ∧ b2 < 256 ∧ b3 < 256) :
    Calls Try.prog 3 #[v0, .int .u8 vN, .int .u8 lN, .int .u8 mN, .bool tu, .agg (viewC s b0 b1 b2 b3 dk lt pt)] W fun e w' => e = .returned (.bool true) ∧ Below W.heap.size W w' := by
  have hl : ∀ x ∈ l, 0 ≤ x ∧ x < 256 := fun x hx => by
    have := bounds_u8 (hwf x hx)
    omega
  have hv := fun w' => rqVersion_any vN w' h1
  have hlv := fun w' => rqLevel_any lN w' h2
  have hmv := fun w' => rqMask_any mN w' h3
  have hv1 : 1 ≤ 1 + vN % 40 := by omega
  have hv40 : 1 + vN % 40 ≤ 40 := by omega
  have hl4 : lN % 4 < 4 := by omega
  have hm8 : mN % 8 < 8 := by omega
  obtain ⟨v, hvv⟩ : ∃ x, x = 1 + vN % 40 := ⟨_, rfl⟩
  obtain ⟨lv, hlvv⟩ : ∃ x, x = lN % 4 := ⟨_, rfl⟩
  obtain ⟨mk, hmkv⟩ : ∃ x, x = mN % 8 := ⟨_, rfl⟩
  rw [← hvv] at hv1 hv40
  rw [← hlvv] at hl4
  rw [← hmkv] at hm8
  have hv := fun w' => by have h9 := hv w'; rw [← hvv] at h9; exact h9
  have hlv := fun w' => by have h9 := hlv w'; rw [← hlvv] at h9; exact h9
  have hmv := fun w' => by have h9 := hmv w'; rw [← hmkv] at h9; exact h9
  clear hvv hlvv hmkv
  unfold viewC
  have hVW := Blk.fresh W 25 #[.int .u8 s, .int .u8 b0, .int .u8 b1, .int .u8 b2, .int .u8 b3, .int .u8 dk, .int .u8 lt, .bool pt]
  have hW0 := bal (brf W) (.cells #[.int .u8 s, .int .u8 b0, .int .u8 b1, .int .u8 b2, .int .u8 b3, .int .u8 dk, .int .u8 lt, .bool pt] 25)
  by_cases hlen : l.length ≤ 2147483647
  · have hfl := fun w' (hb : Below W.heap.size W w') => qrFill_any v0 l v w' (hs.up hb) hl hlen hv1 hv40
    obtain ⟨A, cap, rfl, q1, q2, -⟩ := hs
    rw [vals_len] at q1 hfl ⊢
    have HFL := Lib.hid hfl
    have HVW0 := Lib.hid hVW
    have HW0 := Lib.hid hW0
    clear hfl hl hwf hVW hW0
    go_enter Try.func3, Try.ntmps3
    go_wp2_with fail
    refine (hv _).mono ?_
    rintro e w0 ⟨rfl, rfl⟩
    have hfl := HFL.out _ HW0.out
    clear hv
    go_wp2_with fail
    refine hfl.mono ?_
    rintro e w1 ⟨s1, bits, rfl, hbl, hb, hw1⟩
    have HB := Lib.hid hb
    have HBL := Lib.hid hbl
    have HVW1 := Lib.hid (HVW0.out.up hw1)
    have HW1 := Lib.hid (bup HW0.out hw1)
    clear hfl HFL hb hbl hw1 HVW0 HW0
    go_wp2_with fail
    refine (hlv _).mono ?_
    rintro e w1 ⟨rfl, rfl⟩
    go_wp2_with fail
    refine (hmv _).mono ?_
    rintro e w1 ⟨rfl, rfl⟩
    have hqm := qrModules_any s1 bits v lv mk w1 HB.out.rd hv1 hv40 hl4 hm8
    have hok := modOk v lv mk bits hv1 hv40
    have hok2 := modOk_turned v lv mk bits hv1 hv40
    obtain ⟨n, hn⟩ : ∃ x, x = 17 + 4 * v := ⟨_, rfl⟩
    rw [← hn] at hqm hok hok2
    clear hn
    obtain ⟨F, hF⟩ : ∃ x, x = modF v lv mk bits := ⟨_, rfl⟩
    rw [← hF] at hqm hok hok2
    clear hF
    have HOK1 := Lib.hid hok
    have HOK2 := Lib.hid hok2
    have n177 := hok.n177
    have n21 := hok.n21
    clear hlv hmv hok hok2
    go_wp2_with fail
    refine hqm.mono ?_
    rintro e wk ⟨gm, bs, rfl, hbl, hmk, hg, hw2⟩
    have HMD := Lib.hid (hmk.rowsT hbl ⟨by omega, by omega⟩)
    have HVW := Lib.hid (HVW1.out.up hw2)
    have HWk := Lib.hid (bup HW1.out hw2)
    clear hqm hbl hmk hg hw2 HB HW1 HVW1
    rcases tu with _ | _
    · have HOK := HOK1
      clear HOK1 HOK2
      -- the modules lie (HMD), they are a symbol's (HOK), below W all stayed (HWk), the view lies in its block (HVW): world wk, block gm, function F
      have a0 : wk.cell? ⟨W.heap.size, 0, none⟩ = some (.int .u8 s) := by rw [HVW.out.cell]; rfl
      have a1 : wk.cell? ⟨W.heap.size, 1, none⟩ = some (.int .u8 b0) := by rw [HVW.out.cell]; rfl
      have a2 : wk.cell? ⟨W.heap.size, 2, none⟩ = some (.int .u8 b1) := by rw [HVW.out.cell]; rfl
      have a3 : wk.cell? ⟨W.heap.size, 3, none⟩ = some (.int .u8 b2) := by rw [HVW.out.cell]; rfl
      have a4 : wk.cell? ⟨W.heap.size, 4, none⟩ = some (.int .u8 b3) := by rw [HVW.out.cell]; rfl
      have a5 : wk.cell? ⟨W.heap.size, 5, none⟩ = some (.int .u8 dk) := by rw [HVW.out.cell]; rfl
      have a6 : wk.cell? ⟨W.heap.size, 6, none⟩ = some (.int .u8 lt) := by rw [HVW.out.cell]; rfl
      have a7 : wk.cell? ⟨W.heap.size, 7, none⟩ = some (.bool pt) := by rw [HVW.out.cell]; rfl
      have hfr := frameOf_any s b0 b1 b2 b3 dk lt pt wk hbs
      have l1 : 1 ≤ 1 + s % 6 ∧ 1 + s % 6 ≤ 6 := by omega
      have l2 : 1 ≤ 1 + b0 % 100 ∧ 1 + b0 % 100 ≤ 100 := by omega
      have l3 : 1 ≤ 1 + b1 % 100 ∧ 1 + b1 % 100 ≤ 100 := by omega
      have l4 : 1 ≤ 1 + b2 % 100 ∧ 1 + b2 % 100 ≤ 100 := by omega
      have l5 : 1 ≤ 1 + b3 % 100 ∧ 1 + b3 % 100 ≤ 100 := by omega
      obtain ⟨sc, hsc⟩ : ∃ x, x = 1 + s % 6 := ⟨_, rfl⟩
      obtain ⟨le, hle⟩ : ∃ x, x = 1 + b0 % 100 := ⟨_, rfl⟩
      obtain ⟨to, hto⟩ : ∃ x, x = 1 + b1 % 100 := ⟨_, rfl⟩
      obtain ⟨ri, hri⟩ : ∃ x, x = 1 + b2 % 100 := ⟨_, rfl⟩
      obtain ⟨bo, hbo⟩ : ∃ x, x = 1 + b3 % 100 := ⟨_, rfl⟩
      rw [← hsc] at l1 hfr; rw [← hle] at l2 hfr; rw [← hto] at l3 hfr; rw [← hri] at l4 hfr; rw [← hbo] at l5 hfr
      clear hsc hle hto hri hbo
      unfold viewC at hfr
      go_wp2_with fail
      refine hfr.mono ?_
      rintro e w3 ⟨rfl, hw3⟩
      have hpic := picture_any (.slice (some ⟨gm, 0, none⟩) n n) n sc le to ri bo F w3 (HMD.out.up hw3) (by omega) n177 l1.1 l1.2 l2.2 l3.2 l4.2 l5.2
      have HMD3 := Lib.hid (HMD.out.up hw3)
      have HW3 := Lib.hid (bup HWk.out hw3)
      obtain ⟨bb, xr, hpo⟩ := picOk (le := le) (to := to) (ri := ri) (bo := bo) HOK.out l1.1 l1.2 l2.2 l3.2 l4.2 l5.2 l4.1 l5.1
      clear hfr hw3 HMD HWk HVW a0 a1 a2 a3 a4 a5 a6 a7 HOK
      obtain ⟨wd, hwd⟩ : ∃ x, x = le + sc * n + ri := ⟨_, rfl⟩
      obtain ⟨ht, hht⟩ : ∃ x, x = to + sc * n + bo := ⟨_, rfl⟩
      rw [← hwd, ← hht] at hpic hpo
      obtain ⟨G, hG⟩ : ∃ x, x = picF sc le to n F := ⟨_, rfl⟩
      rw [← hG] at hpic hpo
      have W3 := hpo.W3
      have H3 := hpo.H3
      have hht1 : 1 ≤ ht := by omega
      have hwd1 : 1 ≤ wd := by omega
      have HPO := Lib.hid hpo
      clear hwd hht hG hpo
      unfold frameC at hpic
      go_wp2_with fail
      refine hpic.mono ?_
      rintro e w4 ⟨g, bs, rfl, hbl, hmr, hg, hw4⟩
      have HB4 := Lib.hid hw4
      have HMR := Lib.hid hmr
      have hpb := pureBits_any _ wd ht le to sc n bb xr G F w4 (hmr.rowsT hbl ⟨by omega, by omega⟩) HPO.out
      clear hpic hmr hw4
      go_wp2_with fail
      refine hpb.mono ?_
      rintro e w5 ⟨br, rfl, hbr, hra, hw5⟩
      have hgw : g < w4.heap.size := HMR.out.out.lt
      have hbg : br ≠ g := by omega
      have HRA := Lib.hid hra
      have HB5 := Lib.hid (bup HB4.out hw5)
      have HBL := Lib.hid hbl
      have HS := Lib.hid (PicS.begin_ (F := G) (by have h9 := HMR.out.up hw5; rw [← hbl] at h9; exact h9))
      have hmk := fun a => mk_bools wd a (by omega)
      clear hpb hra hw5 HMR HB4 hbl hgw hbr HPO
      go_wp2_with fail
      go_loopw [49] (fun iv wr => ∃ (y : Nat), y ≤ ht ∧ iv = .int .i64 y ∧ Hid (PicS wr g wd bs y) ∧ Hid (RowsA wr br n (rowsF n n F)) ∧ Hid (Below w3.heap.size w3 wr)) (fun iv _ => ht - (intOf iv).toNat)
      case atStart => exact ⟨0, Nat.zero_le _, rfl, HS, HRA, HB5⟩
      case round =>
        clear HS HRA HB5
        obtain ⟨y, hy, rfl, HS, HRA, HB⟩ := hrel
        rename World => wr
        by_cases hlt : y < ht
        · have cy := HS.out.at_ (by rw [HBL.out]; exact hlt)
          unfold rowV at cy
          obtain ⟨cs, hbk⟩ := HS.out.blk
          have cA := cell_up cy (bal (brf wr) (.cells (bv (List.replicate wd false)).toArray 4))
          have fA := (hbk.alloc (.cells (bv (List.replicate wd false)).toArray 4)).frozen y
          obtain ⟨wm, hwm⟩ : ∃ wm, wm = (wr.alloc (.cells (bv (List.replicate wd false)).toArray 4)).setCell ⟨g, y, none⟩ (.slice (some ⟨wr.heap.size, 0, none⟩) wd wd) := ⟨_, rfl⟩
          have HS2 := Lib.hid (HS.out.next (by rw [HBL.out]; exact hlt) hwm)
          have HRA2 : Hid (RowsA wm br n (rowsF n n F)) := Lib.hid (by
            rw [hwm]
            exact (HRA.out.up (bal (brf _) _)).far (hbk.alloc _) hbg y _)
          have HB2 : Hid (Below w3.heap.size w3 wm) := Lib.hid (by
            rw [hwm]
            exact (bal HB.out _).setCell (p := ⟨g, y, none⟩) hg _)
          have HWM := Lib.hid hwm.symm
          clear hwm hbk HS HRA HB
          go_wp2_with fail
          rw [HWM.out]
          clear cA fA cy
          go_roundw
          case rel => exact ⟨y + 1, by omega, by go_num, HS2, HRA2, HB2⟩
          case measure => simp [intOf]; omega
        · obtain rfl : y = ht := by omega
          have hdn := HS.out
          rw [← HBL.out] at hdn
          have hdn := hdn.done ⟨by omega, by rw [HBL.out]; omega⟩
          rw [HBL.out] at hdn
          have hbk := pureBits_blank _ wd y _ wr hdn hwd1 hht1 W3 H3 (fun _ _ _ _ => rfl)
          clear hdn hmk
          go_wp2_with fail
          refine hbk.mono ?_
          rintro e w6 ⟨rfl, hw6⟩
          have HB6 := Lib.hid (bup HB.out hw6)
          have hsr := sameRows_any (.slice (some ⟨br, 0, none⟩) n n) (.slice (some ⟨gm, 0, none⟩) n n) n F w6 ((HRA.out.up hw6).rowsT (by omega)) (HMD3.out.up HB6.out) (by omega)
          clear hbk hw6
          go_wp2_with fail
          refine hsr.mono ?_
          rintro e w7 ⟨rfl, hw7⟩
          have HB7 := Lib.hid (bup HB6.out hw7)
          clear hsr hw7
          go_wp2_with fail
          go_ret
          exact ⟨rfl, bup HW3.out HB7.out⟩
    · have htu := turned_any (.slice (some ⟨gm, 0, none⟩) n n) n F wk HMD.out (by omega) n177
      clear HOK1
      go_wp2_with fail
      refine htu.mono ?_
      rintro e wk ⟨gm, bt, rfl, hbt, hmt, hgt, hwt⟩
      have HOK := HOK2
      have HMDn := Lib.hid (hmt.rowsT hbt ⟨by omega, by omega⟩)
      have HVWn := Lib.hid (HVW.out.up hwt)
      have HWkn := Lib.hid (bup HWk.out hwt)
      clear htu hbt hmt hgt hwt HMD HVW HWk HOK2
      have HMD := HMDn
      have HVW := HVWn
      have HWk := HWkn
      clear HMDn HVWn HWkn
      obtain ⟨F, hF⟩ : ∃ G : Nat → Nat → Bool, G = fun x y => F y x := ⟨_, rfl⟩
      rw [← hF] at HMD HOK
      clear hF
      -- the modules lie (HMD), they are a symbol's (HOK), below W all stayed (HWk), the view lies in its block (HVW): world wk, block gm, function F
      have a0 : wk.cell? ⟨W.heap.size, 0, none⟩ = some (.int .u8 s) := by rw [HVW.out.cell]; rfl
      have a1 : wk.cell? ⟨W.heap.size, 1, none⟩ = some (.int .u8 b0) := by rw [HVW.out.cell]; rfl
      have a2 : wk.cell? ⟨W.heap.size, 2, none⟩ = some (.int .u8 b1) := by rw [HVW.out.cell]; rfl
      have a3 : wk.cell? ⟨W.heap.size, 3, none⟩ = some (.int .u8 b2) := by rw [HVW.out.cell]; rfl
      have a4 : wk.cell? ⟨W.heap.size, 4, none⟩ = some (.int .u8 b3) := by rw [HVW.out.cell]; rfl
      have a5 : wk.cell? ⟨W.heap.size, 5, none⟩ = some (.int .u8 dk) := by rw [HVW.out.cell]; rfl
      have a6 : wk.cell? ⟨W.heap.size, 6, none⟩ = some (.int .u8 lt) := by rw [HVW.out.cell]; rfl
      have a7 : wk.cell? ⟨W.heap.size, 7, none⟩ = some (.bool pt) := by rw [HVW.out.cell]; rfl
      have hfr := frameOf_any s b0 b1 b2 b3 dk lt pt wk hbs
      have l1 : 1 ≤ 1 + s % 6 ∧ 1 + s % 6 ≤ 6 := by omega
      have l2 : 1 ≤ 1 + b0 % 100 ∧ 1 + b0 % 100 ≤ 100 := by omega
      have l3 : 1 ≤ 1 + b1 % 100 ∧ 1 + b1 % 100 ≤ 100 := by omega
      have l4 : 1 ≤ 1 + b2 % 100 ∧ 1 + b2 % 100 ≤ 100 := by omega
      have l5 : 1 ≤ 1 + b3 % 100 ∧ 1 + b3 % 100 ≤ 100 := by omega
      obtain ⟨sc, hsc⟩ : ∃ x, x = 1 + s % 6 := ⟨_, rfl⟩
      obtain ⟨le, hle⟩ : ∃ x, x = 1 + b0 % 100 := ⟨_, rfl⟩
      obtain ⟨to, hto⟩ : ∃ x, x = 1 + b1 % 100 := ⟨_, rfl⟩
      obtain ⟨ri, hri⟩ : ∃ x, x = 1 + b2 % 100 := ⟨_, rfl⟩
      obtain ⟨bo, hbo⟩ : ∃ x, x = 1 + b3 % 100 := ⟨_, rfl⟩
      rw [← hsc] at l1 hfr; rw [← hle] at l2 hfr; rw [← hto] at l3 hfr; rw [← hri] at l4 hfr; rw [← hbo] at l5 hfr
      clear hsc hle hto hri hbo
      unfold viewC at hfr
      go_wp2_with fail
      refine hfr.mono ?_
      rintro e w3 ⟨rfl, hw3⟩
      have hpic := picture_any (.slice (some ⟨gm, 0, none⟩) n n) n sc le to ri bo F w3 (HMD.out.up hw3) (by omega) n177 l1.1 l1.2 l2.2 l3.2 l4.2 l5.2
      have HMD3 := Lib.hid (HMD.out.up hw3)
      have HW3 := Lib.hid (bup HWk.out hw3)
      obtain ⟨bb, xr, hpo⟩ := picOk (le := le) (to := to) (ri := ri) (bo := bo) HOK.out l1.1 l1.2 l2.2 l3.2 l4.2 l5.2 l4.1 l5.1
      clear hfr hw3 HMD HWk HVW a0 a1 a2 a3 a4 a5 a6 a7 HOK
      obtain ⟨wd, hwd⟩ : ∃ x, x = le + sc * n + ri := ⟨_, rfl⟩
      obtain ⟨ht, hht⟩ : ∃ x, x = to + sc * n + bo := ⟨_, rfl⟩
      rw [← hwd, ← hht] at hpic hpo
      obtain ⟨G, hG⟩ : ∃ x, x = picF sc le to n F := ⟨_, rfl⟩
      rw [← hG] at hpic hpo
      have W3 := hpo.W3
      have H3 := hpo.H3
      have hht1 : 1 ≤ ht := by omega
      have hwd1 : 1 ≤ wd := by omega
      have HPO := Lib.hid hpo
      clear hwd hht hG hpo
      unfold frameC at hpic
      go_wp2_with fail
      refine hpic.mono ?_
      rintro e w4 ⟨g, bs, rfl, hbl, hmr, hg, hw4⟩
      have HB4 := Lib.hid hw4
      have HMR := Lib.hid hmr
      have hpb := pureBits_any _ wd ht le to sc n bb xr G F w4 (hmr.rowsT hbl ⟨by omega, by omega⟩) HPO.out
      clear hpic hmr hw4
      go_wp2_with fail
      refine hpb.mono ?_
      rintro e w5 ⟨br, rfl, hbr, hra, hw5⟩
      have hgw : g < w4.heap.size := HMR.out.out.lt
      have hbg : br ≠ g := by omega
      have HRA := Lib.hid hra
      have HB5 := Lib.hid (bup HB4.out hw5)
      have HBL := Lib.hid hbl
      have HS := Lib.hid (PicS.begin_ (F := G) (by have h9 := HMR.out.up hw5; rw [← hbl] at h9; exact h9))
      have hmk := fun a => mk_bools wd a (by omega)
      clear hpb hra hw5 HMR HB4 hbl hgw hbr HPO
      go_wp2_with fail
      go_loopw [49] (fun iv wr => ∃ (y : Nat), y ≤ ht ∧ iv = .int .i64 y ∧ Hid (PicS wr g wd bs y) ∧ Hid (RowsA wr br n (rowsF n n F)) ∧ Hid (Below w3.heap.size w3 wr)) (fun iv _ => ht - (intOf iv).toNat)
      case atStart => exact ⟨0, Nat.zero_le _, rfl, HS, HRA, HB5⟩
      case round =>
        clear HS HRA HB5
        obtain ⟨y, hy, rfl, HS, HRA, HB⟩ := hrel
        rename World => wr
        by_cases hlt : y < ht
        · have cy := HS.out.at_ (by rw [HBL.out]; exact hlt)
          unfold rowV at cy
          obtain ⟨cs, hbk⟩ := HS.out.blk
          have cA := cell_up cy (bal (brf wr) (.cells (bv (List.replicate wd false)).toArray 4))
          have fA := (hbk.alloc (.cells (bv (List.replicate wd false)).toArray 4)).frozen y
          obtain ⟨wm, hwm⟩ : ∃ wm, wm = (wr.alloc (.cells (bv (List.replicate wd false)).toArray 4)).setCell ⟨g, y, none⟩ (.slice (some ⟨wr.heap.size, 0, none⟩) wd wd) := ⟨_, rfl⟩
          have HS2 := Lib.hid (HS.out.next (by rw [HBL.out]; exact hlt) hwm)
          have HRA2 : Hid (RowsA wm br n (rowsF n n F)) := Lib.hid (by
            rw [hwm]
            exact (HRA.out.up (bal (brf _) _)).far (hbk.alloc _) hbg y _)
          have HB2 : Hid (Below w3.heap.size w3 wm) := Lib.hid (by
            rw [hwm]
            exact (bal HB.out _).setCell (p := ⟨g, y, none⟩) hg _)
          have HWM := Lib.hid hwm.symm
          clear hwm hbk HS HRA HB
          go_wp2_with fail
          rw [HWM.out]
          clear cA fA cy
          go_roundw
          case rel => exact ⟨y + 1, by omega, by go_num, HS2, HRA2, HB2⟩
          case measure => simp [intOf]; omega
        · obtain rfl : y = ht := by omega
          have hdn := HS.out
          rw [← HBL.out] at hdn
          have hdn := hdn.done ⟨by omega, by rw [HBL.out]; omega⟩
          rw [HBL.out] at hdn
          have hbk := pureBits_blank _ wd y _ wr hdn hwd1 hht1 W3 H3 (fun _ _ _ _ => rfl)
          clear hdn hmk
          go_wp2_with fail
          refine hbk.mono ?_
          rintro e w6 ⟨rfl, hw6⟩
          have HB6 := Lib.hid (bup HB.out hw6)
          have hsr := sameRows_any (.slice (some ⟨br, 0, none⟩) n n) (.slice (some ⟨gm, 0, none⟩) n n) n F w6 ((HRA.out.up hw6).rowsT (by omega)) (HMD3.out.up HB6.out) (by omega)
          clear hbk hw6
          go_wp2_with fail
          refine hsr.mono ?_
          rintro e w7 ⟨rfl, hw7⟩
          have HB7 := Lib.hid (bup HB6.out hw7)
          clear hsr hw7
          go_wp2_with fail
          go_ret
          exact ⟨rfl, bup HW3.out HB7.out⟩
  · obtain ⟨A, cap, rfl, q1, q2, -⟩ := hs
    rw [vals_len] at q1 ⊢
    unfold maxLen at q2
    have HW0 := Lib.hid hW0
    clear hl hwf hVW hW0 hv hlv hmv
    go_enter Try.func3, Try.ntmps3
    go_wp2_with fail
    go_ret
    exact ⟨rfl, HW0.out⟩
end Go.Proofs.Ytcldipbboidjbaa
