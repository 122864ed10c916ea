/-
  WALK: impl.ArrayRun.
-/
import Derived.Test.YtjhfebhefclenaaAs4
namespace Go.Proofs.Ytjhfebhefclenaa
open Go.RowKit

/-- An array of so many bits, and a row of bools, both from block B on. -/
structure RunAt (w0 wr : World) (B p g : Nat) (l took : List Bool) (fv : Value) (k : Nat) : Prop where
  arr : ArrG wr p g l l.length
  row : wr.ownsRow w0.heap.size 4 1 fv k (bv took)
  below : Below w0.heap.size w0 wr
  loP : w0.heap.size ≤ p
  loG : w0.heap.size ≤ g
/-- Behind a call that turned the array alone. -/
theorem RunAt.turn {w0 wr w1 w2 : World} {B p g g' : Nat} {l l' took : List Bool} {fv : Value} {k : Nat} (h : RunAt w0 wr B p g l took fv k) (h1 : Below wr.heap.size wr w1) (ha : ArrG w2 p g' l' l'.length) (ho : Off w1 w2 p g) (hg : g' = g ∨ w1.heap.size ≤ g') : RunAt w0 w2 B p g' l' took fv k := by
  have hA := h.arr.up h1
  refine ⟨ha, own_arr (own_up h.row h1) hA ho, ?_, h.loP, ?_⟩
  · exact ho.below _ _ (h.below.trans (h1.mono h.below.size)) h.loP h.loG (Nat.le_trans h.below.size h1.size)
  · rcases hg with rfl | hg
    · exact h.loG
    · exact Nat.le_trans h.below.size (Nat.le_trans h1.size hg)
theorem RunAt.up {w0 wr w1 : World} {B p g : Nat} {l took : List Bool} {fv : Value} {k : Nat} (h : RunAt w0 wr B p g l took fv k) (h1 : Below wr.heap.size wr w1) : RunAt w0 w1 B p g l took fv k :=
  ⟨h.arr.up h1, own_up h.row h1, h.below.trans (h1.mono h.below.size), h.loP, h.loG⟩
/-- Behind an append to the row. -/
theorem RunAt.app {w0 wr w2 : World} {B p g : Nat} {l took : List Bool} {fv fv' : Value} {k : Nat} {b : Bool} (h : RunAt w0 wr B p g l took fv k) (hg : wr.grownBy w2 fv.ownBlock) (ho : w2.ownsRow w0.heap.size 4 1 fv' (k + 1) (bv took ++ [.bool b])) : RunAt w0 w2 B p g l (took ++ [b]) fv' (k + 1) :=
  ⟨h.arr.beside h.row hg, by unfold bv at ho ⊢; rw [List.map_append]; exact ho, below_grown h.below hg h.row h.below.size, h.loP, h.loG⟩
set_option maxRecDepth 100000 in
set_option maxHeartbeats 4000000 in
theorem arrayRun_any (v1 v2 : Value) (l : List Bool) (st : List Step) (w : World) (hv : Rd w w.heap.size v1 (bv l)) (hst : RdS w w.heap.size v2 st) (hok : OkL l.length st) (hl : l.length ≤ 200) (hm : st.length ≤ 30) :
    Calls Try.prog 7 #[v1, v2] w fun e w' => ∃ r1 r2, e = .returned (.tuple #[r1, r2]) ∧ Rd w' w'.heap.size r1 (bv (bitsK l st st.length)) ∧ Rd w' w'.heap.size r2 (bv (tookK l st st.length)) ∧ Below w.heap.size w w' := by
  obtain ⟨i0, hi0, hz0, hz1, hz2⟩ := info_parts info_bool
  obtain ⟨A, cap, rfl, h1, h2, h3⟩ := hst
  unfold maxLen at h2
  have HA := Lib.hid h3
  have HOK := Lib.hid hok
  have hm2 : (st.length : Int) ≤ 30 := by omega
  clear h3 hok
  go_enter Try.func7, Try.ntmps7
  go_wp2_with fail
  refine (array_any v1 l w hv (by omega)).mono ?_
  rintro e w1 ⟨p, g, rfl, hA, hp, hg, hb⟩
  have HR : Hid (∃ g, RunAt w w1 0 p g (bitsK l st 0) (tookK l st 0) (.slice none 0 0) 0) := Lib.hid ⟨g, hA.arr, own_nil _ _ _, hb, hp, hg⟩
  clear hA hp hg hb hv
  go_wp2_with fail
  go_loopw [7, 15] (fun fv iv wr => ∃ i : Nat, i ≤ st.length ∧ iv = .int .i64 i ∧ Hid (∃ g, RunAt w wr 0 p g (bitsK l st i) (tookK l st i) fv i)) (fun _ iv _ => st.length - (intOf iv).toNat)
  case atStart => exact ⟨0, Nat.zero_le _, rfl, HR⟩
  case round =>
    clear HR
    obtain ⟨i, hi, rfl, HR⟩ := hrel
    by_cases hlt : i < st.length
    · obtain ⟨ga, oa, rfl, hga, hc⟩ := HA.out (by omega)
      obtain ⟨s, hs⟩ : ∃ s, st[i]? = some s := ⟨_, List.getElem?_eq_getElem hlt⟩
      obtain ⟨u, hu⟩ := hc i s hs
      obtain ⟨g, hR⟩ := HR.out
      have HU := hu.below hR.below hga
      have d0 := HU.c0
      have d1 := HU.c1
      have d2 := HU.c2
      have d3 := HU.c3
      have hOk := HOK.out i s hs
      have hbk := bitsK_succ l st i s hs
      have htk := tookK_succ l st i s hs
      have hsl := sizeK_le l.length st HOK.out i
      rw [← bitsK_len] at hOk hsl
      obtain ⟨A', c', rfl, k1, k2⟩ := hu.rd.form
      obtain ⟨op, sa, sb, bl⟩ := s
      rw [bv_len] at d3 k1
      have HURd := Lib.hid (hu.rd.below hR.below)
      rw [bv_len] at HURd
      unfold maxLen at k2
      dsimp only at d0 d1 d2 d3 HURd k1
      have HRn := Lib.hid hR
      have HK0 := Lib.hid hOk
      have HBK := Lib.hid hbk
      have HTK := Lib.hid htk
      have hL : (bitsK l st i).length ≤ 2300 := by omega
      clear HU hu hc hs hR HR hOk hbk htk hsl
      generalize bitsK l st i = L at *
      generalize tookK l st i = T at *
      have hop := HK0.out.op
      dsimp only at hop
      have hops : op = 1 ∨ op = 2 ∨ op = 3 ∨ op = 4 ∨ op = 5 ∨ op = 6 ∨ op = 7 ∨ op = 8 ∨ op = 9 := by omega
      clear hop
      rcases hops with rfl | rfl | rfl | rfl | rfl | rfl | rfl | rfl | rfl
      · have hpl := HK0.out.place (.inl rfl)
        dsimp only at hpl
        obtain ⟨a, rfl⟩ := Int.eq_ofNat_of_zero_le hpl.1
        have ha : a < L.length := by omega
        have HZ := Lib.hid (bal (brf wr) (.cells #[.int .i64 1, .int .i64 (a : Int), .int .i64 sb, .slice A' bl.length c'] 32))
        go_wp2_with fail
        refine (setA_any p g a L _ (HRn.out.arr.up HZ.out) ha (by omega)).mono ?_
        rintro e w3 ⟨rfl, hA3, hO3⟩
        have HR3 := Lib.hid (HRn.out.turn HZ.out hA3 hO3 (.inl rfl))
        clear hA3 hO3 HRn HZ hpl d0 d1 d2 d3
        have HE : Hid (resS L ⟨1, (a : Int), sb, bl⟩ = (L.set a true, true)) := Lib.hid (by unfold resS; simp)
        go_wp2_with (with_reducible refine stop_at (o := ⟨some 91, _, _, _, _, _⟩) ?_)
        refine Lib.hid ?_
        refine list_app_rd _ rfl _ _ _ rfl w.heap.size 4 i0 _ 1 Try.underlying22 hi0 hz0 hz1 hz2 rfl _ i (bv T) rfl (HR3.out.up (bal (brf _) _)).row _ _ [.bool true] rfl (Rd.one rfl _ _) (fun u hu => by simp at hu; subst hu; rfl) (by simp only [List.length_singleton]; unfold maxLen; omega) (by simp only [List.length_singleton]; omega) (by have := HR3.out.below.size; simp; omega) ?_
        intro v1 w4 ho1 hg1
        have HR4 : Hid (∃ g, RunAt w w4 0 p g (bitsK l st (i + 1)) (tookK l st (i + 1)) v1 (i + 1)) := Lib.hid (by
          rw [HBK.out, HTK.out, HE.out]
          exact ⟨_, (HR3.out.up (bal (brf _) _)).app hg1 ho1⟩)
        clear ho1 hg1 HR3 HBK HTK HE
        go_wp2
        go_roundw
        case rel => exact ⟨i + 1, by omega, by go_num, HR4⟩
        case measure => simp [intOf]; omega
      · have hpl := HK0.out.place (.inr rfl)
        dsimp only at hpl
        obtain ⟨a, rfl⟩ := Int.eq_ofNat_of_zero_le hpl.1
        have ha : a < L.length := by omega
        have HZ := Lib.hid (bal (brf wr) (.cells #[.int .i64 2, .int .i64 (a : Int), .int .i64 sb, .slice A' bl.length c'] 32))
        go_wp2_with fail
        refine (flipA_any p g a L _ (HRn.out.arr.up HZ.out) ha (by omega)).mono ?_
        rintro e w3 ⟨rfl, hA3, hO3⟩
        have HR3 := Lib.hid (HRn.out.turn HZ.out hA3 hO3 (.inl rfl))
        clear hA3 hO3 HRn HZ hpl d0 d1 d2 d3
        have HE : Hid (resS L ⟨2, (a : Int), sb, bl⟩ = (L.set a (!L.getD a false), true)) := Lib.hid (by unfold resS; simp)
        go_wp2_with (with_reducible refine stop_at (o := ⟨some 91, _, _, _, _, _⟩) ?_)
        refine Lib.hid ?_
        refine list_app_rd _ rfl _ _ _ rfl w.heap.size 4 i0 _ 1 Try.underlying22 hi0 hz0 hz1 hz2 rfl _ i (bv T) rfl (HR3.out.up (bal (brf _) _)).row _ _ [.bool true] rfl (Rd.one rfl _ _) (fun u hu => by simp at hu; subst hu; rfl) (by simp only [List.length_singleton]; unfold maxLen; omega) (by simp only [List.length_singleton]; omega) (by have := HR3.out.below.size; simp; omega) ?_
        intro v1 w4 ho1 hg1
        have HR4 : Hid (∃ g, RunAt w w4 0 p g (bitsK l st (i + 1)) (tookK l st (i + 1)) v1 (i + 1)) := Lib.hid (by
          rw [HBK.out, HTK.out, HE.out]
          exact ⟨_, (HR3.out.up (bal (brf _) _)).app hg1 ho1⟩)
        clear ho1 hg1 HR3 HBK HTK HE
        go_wp2
        go_roundw
        case rel => exact ⟨i + 1, by omega, by go_num, HR4⟩
        case measure => simp [intOf]; omega
      · have HZ := Lib.hid (bal (brf wr) (.cells #[.int .i64 3, .int .i64 sa, .int .i64 sb, .slice A' bl.length c'] 32))
        go_wp2_with fail
        by_cases hc : 0 ≤ sa ∧ sa ≤ sb ∧ sb ≤ (L.length : Int)
        · obtain ⟨a, rfl⟩ := Int.eq_ofNat_of_zero_le hc.1
          obtain ⟨b, rfl⟩ := Int.eq_ofNat_of_zero_le (Int.le_trans hc.1 hc.2.1)
          refine (setRange_yes p g a b L _ (HRn.out.arr.up HZ.out) (by omega) (by omega) (by omega)).mono ?_
          rintro e w3 ⟨rfl, hA3, hO3⟩
          have HR3 := Lib.hid (HRn.out.turn HZ.out hA3 hO3 (.inl rfl))
          have HE : Hid (resS L ⟨3, (a : Int), (b : Int), bl⟩ = (rangeL L a b, true)) := Lib.hid (by
            unfold resS; dsimp only; rw [if_neg (by decide), if_neg (by decide), if_pos rfl, if_pos hc]; simp)
          clear hA3 hO3 HRn HZ d0 d1 d2 d3 hc
          go_wp2_with (with_reducible refine stop_at (o := ⟨some 91, _, _, _, _, _⟩) ?_)
          refine Lib.hid ?_
          refine list_app_rd _ rfl _ _ _ rfl w.heap.size 4 i0 _ 1 Try.underlying22 hi0 hz0 hz1 hz2 rfl _ i (bv T) rfl (HR3.out.up (bal (brf _) _)).row _ _ [.bool true] rfl (Rd.one rfl _ _) (fun u hu => by simp at hu; subst hu; rfl) (by simp only [List.length_singleton]; unfold maxLen; omega) (by simp only [List.length_singleton]; omega) (by have := HR3.out.below.size; simp; omega) ?_
          intro v1 w4 ho1 hg1
          have HR4 : Hid (∃ g, RunAt w w4 0 p g (bitsK l st (i + 1)) (tookK l st (i + 1)) v1 (i + 1)) := Lib.hid (by
            rw [HBK.out, HTK.out, HE.out]
            exact ⟨_, (HR3.out.up (bal (brf _) _)).app hg1 ho1⟩)
          clear ho1 hg1 HR3 HBK HTK HE
          go_wp2
          go_roundw
          case rel => exact ⟨i + 1, by omega, by go_num, HR4⟩
          case measure => simp [intOf]; omega
        · refine (setRange_no p g sa sb L _ (HRn.out.arr.up HZ.out) (by omega)).mono ?_
          rintro e w3 ⟨⟨T3, u3, rfl⟩, hb3⟩
          have HR3 := Lib.hid ((HRn.out.up HZ.out).up hb3)
          have HE : Hid (resS L ⟨3, sa, sb, bl⟩ = (L, false)) := Lib.hid (by
            unfold resS; dsimp only; rw [if_neg (by decide), if_neg (by decide), if_pos rfl, if_neg hc])
          clear hb3 HRn HZ d0 d1 d2 d3 hc
          go_wp2_with (with_reducible refine stop_at (o := ⟨some 91, _, _, _, _, _⟩) ?_)
          refine Lib.hid ?_
          refine list_app_rd _ rfl _ _ _ rfl w.heap.size 4 i0 _ 1 Try.underlying22 hi0 hz0 hz1 hz2 rfl _ i (bv T) rfl (HR3.out.up (bal (brf _) _)).row _ _ [.bool false] rfl (Rd.one rfl _ _) (fun u hu => by simp at hu; subst hu; rfl) (by simp only [List.length_singleton]; unfold maxLen; omega) (by simp only [List.length_singleton]; omega) (by have := HR3.out.below.size; simp; omega) ?_
          intro v1 w4 ho1 hg1
          have HR4 : Hid (∃ g, RunAt w w4 0 p g (bitsK l st (i + 1)) (tookK l st (i + 1)) v1 (i + 1)) := Lib.hid (by
            rw [HBK.out, HTK.out, HE.out]
            exact ⟨_, (HR3.out.up (bal (brf _) _)).app hg1 ho1⟩)
          clear ho1 hg1 HR3 HBK HTK HE
          go_wp2
          go_roundw
          case rel => exact ⟨i + 1, by omega, by go_num, HR4⟩
          case measure => simp [intOf]; omega
      · have HZ := Lib.hid (bal (brf wr) (.cells #[.int .i64 4, .int .i64 sa, .int .i64 sb, .slice A' bl.length c'] 32))
        go_wp2_with fail
        refine (clearA_any p g L _ (HRn.out.arr.up HZ.out) (by omega)).mono ?_
        rintro e w3 ⟨rfl, hA3, hO3⟩
        have HR3 := Lib.hid (HRn.out.turn HZ.out hA3 hO3 (.inl rfl))
        clear hA3 hO3 HRn HZ d0 d1 d2 d3
        have HE : Hid (resS L ⟨4, sa, sb, bl⟩ = (List.replicate L.length false, true)) := Lib.hid (by unfold resS; simp)
        go_wp2_with (with_reducible refine stop_at (o := ⟨some 91, _, _, _, _, _⟩) ?_)
        refine Lib.hid ?_
        refine list_app_rd _ rfl _ _ _ rfl w.heap.size 4 i0 _ 1 Try.underlying22 hi0 hz0 hz1 hz2 rfl _ i (bv T) rfl (HR3.out.up (bal (brf _) _)).row _ _ [.bool true] rfl (Rd.one rfl _ _) (fun u hu => by simp at hu; subst hu; rfl) (by simp only [List.length_singleton]; unfold maxLen; omega) (by simp only [List.length_singleton]; omega) (by have := HR3.out.below.size; simp; omega) ?_
        intro v1 w4 ho1 hg1
        have HR4 : Hid (∃ g, RunAt w w4 0 p g (bitsK l st (i + 1)) (tookK l st (i + 1)) v1 (i + 1)) := Lib.hid (by
          rw [HBK.out, HTK.out, HE.out]
          exact ⟨_, (HR3.out.up (bal (brf _) _)).app hg1 ho1⟩)
        clear ho1 hg1 HR3 HBK HTK HE
        go_wp2
        go_roundw
        case rel => exact ⟨i + 1, by omega, by go_num, HR4⟩
        case measure => simp [intOf]; omega
      · have HZ := Lib.hid (bal (brf wr) (.cells #[.int .i64 5, .int .i64 sa, .int .i64 sb, .slice A' bl.length c'] 32))
        go_wp2_with fail
        refine (appendBit_any p g L.length L (sa != 0) _ (HRn.out.arr.up HZ.out) (by omega)).mono ?_
        rintro e w3 ⟨g3, rfl, hA3, hO3, hg3⟩
        rw [show max L.length (L.length + 1) = (L ++ [sa != 0]).length by simp] at hA3
        have HR3 := Lib.hid (HRn.out.turn HZ.out hA3 hO3 hg3)
        clear hA3 hO3 hg3 HRn HZ d0 d1 d2 d3
        have HE : Hid (resS L ⟨5, sa, sb, bl⟩ = (L ++ [sa != 0], true)) := Lib.hid (by unfold resS; simp [bne])
        go_wp2_with (with_reducible refine stop_at (o := ⟨some 91, _, _, _, _, _⟩) ?_)
        refine Lib.hid ?_
        refine list_app_rd _ rfl _ _ _ rfl w.heap.size 4 i0 _ 1 Try.underlying22 hi0 hz0 hz1 hz2 rfl _ i (bv T) rfl (HR3.out.up (bal (brf _) _)).row _ _ [.bool true] rfl (Rd.one rfl _ _) (fun u hu => by simp at hu; subst hu; rfl) (by simp only [List.length_singleton]; unfold maxLen; omega) (by simp only [List.length_singleton]; omega) (by have := HR3.out.below.size; simp; omega) ?_
        intro v1 w4 ho1 hg1
        have HR4 : Hid (∃ g, RunAt w w4 0 p g (bitsK l st (i + 1)) (tookK l st (i + 1)) v1 (i + 1)) := Lib.hid (by
          rw [HBK.out, HTK.out, HE.out]
          exact ⟨_, (HR3.out.up (bal (brf _) _)).app hg1 ho1⟩)
        clear ho1 hg1 HR3 HBK HTK HE
        go_wp2
        go_roundw
        case rel => exact ⟨i + 1, by omega, by go_num, HR4⟩
        case measure => simp [intOf]; omega
      · have hnum := HK0.out.num rfl
        dsimp only at hnum
        obtain ⟨a, rfl⟩ := Int.eq_ofNat_of_zero_le hnum.1
        have ha : a < 2147483648 := by omega
        have HZ := Lib.hid (bal (brf wr) (.cells #[.int .i64 6, .int .i64 (a : Int), .int .i64 sb, .slice A' bl.length c'] 32))
        go_wp2_with fail
        by_cases hc : 0 ≤ sb ∧ sb ≤ 32
        · obtain ⟨b, rfl⟩ := Int.eq_ofNat_of_zero_le hc.1
          refine (appendBits_yes p g L.length a b L _ (HRn.out.arr.up HZ.out) (by omega) ha (by omega)).mono ?_
          rintro e w3 ⟨g3, rfl, hA3, hO3, hg3⟩
          rw [show max L.length (L.length + b) = (L ++ topB a b b).length by rw [List.length_append, topB_len]; omega] at hA3
          have HR3 := Lib.hid (HRn.out.turn HZ.out hA3 hO3 hg3)
          have HE : Hid (resS L ⟨6, (a : Int), (b : Int), bl⟩ = (L ++ topB a b b, true)) := Lib.hid (by
            unfold resS; dsimp only; rw [if_neg (by decide), if_neg (by decide), if_neg (by decide), if_neg (by decide), if_neg (by decide), if_pos rfl, if_pos hc]; simp)
          clear hA3 hO3 hg3 HRn HZ d0 d1 d2 d3 hc hnum
          go_wp2_with (with_reducible refine stop_at (o := ⟨some 91, _, _, _, _, _⟩) ?_)
          refine Lib.hid ?_
          refine list_app_rd _ rfl _ _ _ rfl w.heap.size 4 i0 _ 1 Try.underlying22 hi0 hz0 hz1 hz2 rfl _ i (bv T) rfl (HR3.out.up (bal (brf _) _)).row _ _ [.bool true] rfl (Rd.one rfl _ _) (fun u hu => by simp at hu; subst hu; rfl) (by simp only [List.length_singleton]; unfold maxLen; omega) (by simp only [List.length_singleton]; omega) (by have := HR3.out.below.size; simp; omega) ?_
          intro v1 w4 ho1 hg1
          have HR4 : Hid (∃ g, RunAt w w4 0 p g (bitsK l st (i + 1)) (tookK l st (i + 1)) v1 (i + 1)) := Lib.hid (by
            rw [HBK.out, HTK.out, HE.out]
            exact ⟨_, (HR3.out.up (bal (brf _) _)).app hg1 ho1⟩)
          clear ho1 hg1 HR3 HBK HTK HE
          go_wp2
          go_roundw
          case rel => exact ⟨i + 1, by omega, by go_num, HR4⟩
          case measure => simp [intOf]; omega
        · refine (appendBits_no p (a : Int) sb _ (by omega)).mono ?_
          rintro e w3 ⟨⟨T3, u3, rfl⟩, hb3⟩
          have HR3 := Lib.hid ((HRn.out.up HZ.out).up hb3)
          have HE : Hid (resS L ⟨6, (a : Int), sb, bl⟩ = (L, false)) := Lib.hid (by
            unfold resS; dsimp only; rw [if_neg (by decide), if_neg (by decide), if_neg (by decide), if_neg (by decide), if_neg (by decide), if_pos rfl, if_neg hc])
          clear hb3 HRn HZ d0 d1 d2 d3 hc hnum
          go_wp2_with (with_reducible refine stop_at (o := ⟨some 91, _, _, _, _, _⟩) ?_)
          refine Lib.hid ?_
          refine list_app_rd _ rfl _ _ _ rfl w.heap.size 4 i0 _ 1 Try.underlying22 hi0 hz0 hz1 hz2 rfl _ i (bv T) rfl (HR3.out.up (bal (brf _) _)).row _ _ [.bool false] rfl (Rd.one rfl _ _) (fun u hu => by simp at hu; subst hu; rfl) (by simp only [List.length_singleton]; unfold maxLen; omega) (by simp only [List.length_singleton]; omega) (by have := HR3.out.below.size; simp; omega) ?_
          intro v1 w4 ho1 hg1
          have HR4 : Hid (∃ g, RunAt w w4 0 p g (bitsK l st (i + 1)) (tookK l st (i + 1)) v1 (i + 1)) := Lib.hid (by
            rw [HBK.out, HTK.out, HE.out]
            exact ⟨_, (HR3.out.up (bal (brf _) _)).app hg1 ho1⟩)
          clear ho1 hg1 HR3 HBK HTK HE
          go_wp2
          go_roundw
          case rel => exact ⟨i + 1, by omega, by go_num, HR4⟩
          case measure => simp [intOf]; omega
      · have HZ := Lib.hid (bal (brf wr) (.cells #[.int .i64 7, .int .i64 sa, .int .i64 sb, .slice A' bl.length c'] 32))
        have hfi := HK0.out.fit
        dsimp only at hfi
        have hUr : Rd (wr.alloc (.cells #[.int .i64 7, .int .i64 sa, .int .i64 sb, .slice A' bl.length c'] 32)) (wr.alloc (.cells #[.int .i64 7, .int .i64 sa, .int .i64 sb, .slice A' bl.length c'] 32)).heap.size (.slice A' bl.length c') (bv bl) := (HURd.out.below (HZ.out.mono HRn.out.below.size)).more (Nat.le_trans HRn.out.below.size HZ.out.size)
        have hArr := array_any _ bl _ hUr hfi
        clear hUr
        go_wp2_with fail
        refine hArr.mono ?_
        rintro e w4 ⟨q, gq, rfl, hA4, hq, hgq, hb4⟩
        have hA4 := hA4.arr
        have n0 := HRn.out.arr.head.lt
        have n5 := HRn.out.arr.rows.lt
        have n6 := HZ.out.size
        have n7 : wr.heap.size ≤ q := Nat.le_trans n6 hq
        have n8 : wr.heap.size ≤ gq := Nat.le_trans n6 hgq
        have n1 : q ≠ p := by omega
        have n2 : q ≠ g := by omega
        have n3 : gq ≠ p := by omega
        have n4 : gq ≠ g := by omega
        have HR4 := Lib.hid ((HRn.out.up HZ.out).up hb4)
        clear hArr hb4 hq hgq HZ HRn n0 n5 n6 n7 n8
        go_wp2_with fail
        refine (appendArr_any p g L.length q gq bl.length L bl w4 HR4.out.arr hA4 (by omega) (by have := HK0.out.short rfl; dsimp only at this; omega) n1 n2 n3 n4).mono ?_
        rintro e w3 ⟨g3, rfl, hA3, hO3, hg3⟩
        rw [show max L.length (L.length + bl.length) = (L ++ bl).length by rw [List.length_append]; omega] at hA3
        have HR3 := Lib.hid (HR4.out.turn (brf _) hA3 hO3 hg3)
        clear hA3 hO3 hg3 HR4 hA4 d0 d1 d2 d3 n1 n2 n3 n4
        have HE : Hid (resS L ⟨7, sa, sb, bl⟩ = (L ++ bl, true)) := Lib.hid (by unfold resS; simp)
        go_wp2_with (with_reducible refine stop_at (o := ⟨some 91, _, _, _, _, _⟩) ?_)
        refine Lib.hid ?_
        refine list_app_rd _ rfl _ _ _ rfl w.heap.size 4 i0 _ 1 Try.underlying22 hi0 hz0 hz1 hz2 rfl _ i (bv T) rfl (HR3.out.up (bal (brf _) _)).row _ _ [.bool true] rfl (Rd.one rfl _ _) (fun u hu => by simp at hu; subst hu; rfl) (by simp only [List.length_singleton]; unfold maxLen; omega) (by simp only [List.length_singleton]; omega) (by have := HR3.out.below.size; simp; omega) ?_
        intro v1 w4 ho1 hg1
        have HR4 : Hid (∃ g, RunAt w w4 0 p g (bitsK l st (i + 1)) (tookK l st (i + 1)) v1 (i + 1)) := Lib.hid (by
          rw [HBK.out, HTK.out, HE.out]
          exact ⟨_, (HR3.out.up (bal (brf _) _)).app hg1 ho1⟩)
        clear ho1 hg1 HR3 HBK HTK HE
        go_wp2
        go_roundw
        case rel => exact ⟨i + 1, by omega, by go_num, HR4⟩
        case measure => simp [intOf]; omega
      · have HZ := Lib.hid (bal (brf wr) (.cells #[.int .i64 8, .int .i64 sa, .int .i64 sb, .slice A' bl.length c'] 32))
        have hfi := HK0.out.fit
        dsimp only at hfi
        have hUr : Rd (wr.alloc (.cells #[.int .i64 8, .int .i64 sa, .int .i64 sb, .slice A' bl.length c'] 32)) (wr.alloc (.cells #[.int .i64 8, .int .i64 sa, .int .i64 sb, .slice A' bl.length c'] 32)).heap.size (.slice A' bl.length c') (bv bl) := (HURd.out.below (HZ.out.mono HRn.out.below.size)).more (Nat.le_trans HRn.out.below.size HZ.out.size)
        have hArr := array_any _ bl _ hUr hfi
        clear hUr
        go_wp2_with fail
        refine hArr.mono ?_
        rintro e w4 ⟨q, gq, rfl, hA4, hq, hgq, hb4⟩
        have hA4 := hA4.arr
        have n0 := HRn.out.arr.head.lt
        have n5 := HRn.out.arr.rows.lt
        have n6 := HZ.out.size
        have n7 : wr.heap.size ≤ q := Nat.le_trans n6 hq
        have n8 : wr.heap.size ≤ gq := Nat.le_trans n6 hgq
        have n1 : q ≠ p := by omega
        have n2 : q ≠ g := by omega
        have n3 : gq ≠ p := by omega
        have n4 : gq ≠ g := by omega
        have HR4 := Lib.hid ((HRn.out.up HZ.out).up hb4)
        clear hArr hb4 hq hgq HZ HRn n0 n5 n6 n7 n8
        go_wp2_with fail
        by_cases hc : bl.length = L.length
        · refine (xor_yes p g q gq L bl w4 HR4.out.arr hA4 hc (by omega) n1 n2 n3 n4).mono ?_
          rintro e w3 ⟨rfl, hA3, hO3⟩
          have HR3 := Lib.hid (HR4.out.turn (brf _) hA3 hO3 (.inl rfl))
          have HE : Hid (resS L ⟨8, sa, sb, bl⟩ = (xorL L bl, true)) := Lib.hid (by
            unfold resS; dsimp only; rw [if_neg (by decide), if_neg (by decide), if_neg (by decide), if_neg (by decide), if_neg (by decide), if_neg (by decide), if_neg (by decide), if_pos rfl, if_pos hc])
          clear hA3 hO3 HR4 hA4 d0 d1 d2 d3 n1 n2 n3 n4 hc
          go_wp2_with (with_reducible refine stop_at (o := ⟨some 91, _, _, _, _, _⟩) ?_)
          refine Lib.hid ?_
          refine list_app_rd _ rfl _ _ _ rfl w.heap.size 4 i0 _ 1 Try.underlying22 hi0 hz0 hz1 hz2 rfl _ i (bv T) rfl (HR3.out.up (bal (brf _) _)).row _ _ [.bool true] rfl (Rd.one rfl _ _) (fun u hu => by simp at hu; subst hu; rfl) (by simp only [List.length_singleton]; unfold maxLen; omega) (by simp only [List.length_singleton]; omega) (by have := HR3.out.below.size; simp; omega) ?_
          intro v1 w4 ho1 hg1
          have HR4 : Hid (∃ g, RunAt w w4 0 p g (bitsK l st (i + 1)) (tookK l st (i + 1)) v1 (i + 1)) := Lib.hid (by
            rw [HBK.out, HTK.out, HE.out]
            exact ⟨_, (HR3.out.up (bal (brf _) _)).app hg1 ho1⟩)
          clear ho1 hg1 HR3 HBK HTK HE
          go_wp2
          go_roundw
          case rel => exact ⟨i + 1, by omega, by go_num, HR4⟩
          case measure => simp [intOf]; omega
        · refine (xor_no p g q gq L bl w4 HR4.out.arr hA4 hc).mono ?_
          rintro e w3 ⟨⟨T3, u3, rfl⟩, hb3⟩
          have HR3 := Lib.hid (HR4.out.up hb3)
          have HE : Hid (resS L ⟨8, sa, sb, bl⟩ = (L, false)) := Lib.hid (by
            unfold resS; dsimp only; rw [if_neg (by decide), if_neg (by decide), if_neg (by decide), if_neg (by decide), if_neg (by decide), if_neg (by decide), if_neg (by decide), if_pos rfl, if_neg hc])
          clear hb3 HR4 hA4 d0 d1 d2 d3 n1 n2 n3 n4 hc
          go_wp2_with (with_reducible refine stop_at (o := ⟨some 91, _, _, _, _, _⟩) ?_)
          refine Lib.hid ?_
          refine list_app_rd _ rfl _ _ _ rfl w.heap.size 4 i0 _ 1 Try.underlying22 hi0 hz0 hz1 hz2 rfl _ i (bv T) rfl (HR3.out.up (bal (brf _) _)).row _ _ [.bool false] rfl (Rd.one rfl _ _) (fun u hu => by simp at hu; subst hu; rfl) (by simp only [List.length_singleton]; unfold maxLen; omega) (by simp only [List.length_singleton]; omega) (by have := HR3.out.below.size; simp; omega) ?_
          intro v1 w4 ho1 hg1
          have HR4 : Hid (∃ g, RunAt w w4 0 p g (bitsK l st (i + 1)) (tookK l st (i + 1)) v1 (i + 1)) := Lib.hid (by
            rw [HBK.out, HTK.out, HE.out]
            exact ⟨_, (HR3.out.up (bal (brf _) _)).app hg1 ho1⟩)
          clear ho1 hg1 HR3 HBK HTK HE
          go_wp2
          go_roundw
          case rel => exact ⟨i + 1, by omega, by go_num, HR4⟩
          case measure => simp [intOf]; omega
      · have HZ := Lib.hid (bal (brf wr) (.cells #[.int .i64 9, .int .i64 sa, .int .i64 sb, .slice A' bl.length c'] 32))
        go_wp2_with fail
        refine (reverseA_any p g L _ (HRn.out.arr.up HZ.out) (HK0.out.some_ rfl) (by omega)).mono ?_
        rintro e w3 ⟨g3, rfl, hA3, hO3, hg3⟩
        have HR3 := Lib.hid (HRn.out.turn HZ.out hA3 hO3 hg3)
        clear hA3 hO3 hg3 HRn HZ d0 d1 d2 d3
        have HE : Hid (resS L ⟨9, sa, sb, bl⟩ = (L.reverse, true)) := Lib.hid (by unfold resS; simp)
        go_wp2_with (with_reducible refine stop_at (o := ⟨some 91, _, _, _, _, _⟩) ?_)
        refine Lib.hid ?_
        refine list_app_rd _ rfl _ _ _ rfl w.heap.size 4 i0 _ 1 Try.underlying22 hi0 hz0 hz1 hz2 rfl _ i (bv T) rfl (HR3.out.up (bal (brf _) _)).row _ _ [.bool true] rfl (Rd.one rfl _ _) (fun u hu => by simp at hu; subst hu; rfl) (by simp only [List.length_singleton]; unfold maxLen; omega) (by simp only [List.length_singleton]; omega) (by have := HR3.out.below.size; simp; omega) ?_
        intro v1 w4 ho1 hg1
        have HR4 : Hid (∃ g, RunAt w w4 0 p g (bitsK l st (i + 1)) (tookK l st (i + 1)) v1 (i + 1)) := Lib.hid (by
          rw [HBK.out, HTK.out, HE.out]
          exact ⟨_, (HR3.out.up (bal (brf _) _)).app hg1 ho1⟩)
        clear ho1 hg1 HR3 HBK HTK HE
        go_wp2
        go_roundw
        case rel => exact ⟨i + 1, by omega, by go_num, HR4⟩
        case measure => simp [intOf]; omega
    · obtain rfl : i = st.length := by omega
      obtain ⟨g, hR⟩ := HR.out
      have hsl := sizeK_le l.length st HOK.out st.length
      rw [← bitsK_len] at hsl
      have HRn := Lib.hid hR
      have hL : (bitsK l st st.length).length ≤ 2300 := by omega
      clear hR HR hsl
      obtain ⟨L, hL0⟩ : ∃ L, L = bitsK l st st.length := ⟨_, rfl⟩
      obtain ⟨T, hT0⟩ : ∃ T, T = tookK l st st.length := ⟨_, rfl⟩
      rw [← hL0] at HRn hL
      rw [← hT0] at HRn
      have HL0 := Lib.hid hL0
      have HT0 := Lib.hid hT0
      clear hL0 hT0
      go_wp2_with fail
      refine (bools_any p g L wr HRn.out.arr (by omega)).mono ?_
      rintro e w3 ⟨v3, rfl, hv3, hb3⟩
      have HV3 := Lib.hid hv3
      have HR3 := Lib.hid (HRn.out.up hb3)
      clear hv3 hb3 HRn
      go_wp2_with fail
      go_returns
      exact ⟨_, _, rfl, by rw [← HL0.out]; exact HV3.out, by rw [← HT0.out]; exact Rd.of_own HR3.out.row, HR3.out.below⟩
end Go.Proofs.Ytjhfebhefclenaa
