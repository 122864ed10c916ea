/-
  WALK: spec.BIArray.
-/
import Derived.Test.YtjhfebhefclenaaAs6
import Derived.Test.YtjhfebhefclenaaCan
namespace Go.Proofs.Ytjhfebhefclenaa
open Go.RowKit

/-- A list of bits by a function. -/
def tabB (n : Nat) (f : Nat → Bool) : List Bool := (List.range n).map f
theorem tabB_len (n : Nat) (f : Nat → Bool) : (tabB n f).length = n := by simp [tabB]
theorem tabB_at (n : Nat) (f : Nat → Bool) (i : Nat) (h : i < n) : (tabB n f)[i]'(by rw [tabB_len]; exact h) = f i := by simp [tabB]
theorem tabB_getD (n : Nat) (f : Nat → Bool) (i : Nat) (h : i < n) : (tabB n f).getD i false = f i := by
  rw [List.getD, List.getElem?_eq_getElem (by rw [tabB_len]; exact h), Option.getD_some, tabB_at _ _ _ h]
theorem tabB_set (n : Nat) (f g : Nat → Bool) (k : Nat) (v : Bool) (h1 : ∀ i, i < n → i ≠ k → f i = g i) (h2 : k < n → g k = v) : (tabB n f).set k v = tabB n g := by
  apply List.ext_getElem
  · rw [List.length_set, tabB_len, tabB_len]
  · intro i a b
    rw [tabB_len] at b
    rw [List.getElem_set, tabB_at _ _ _ b, tabB_at _ _ _ b]
    by_cases hki : k = i
    · subst hki; rw [if_pos rfl, h2 b]
    · rw [if_neg hki, h1 i b (fun h => hki h.symm)]
theorem tabB_congr (n : Nat) (f g : Nat → Bool) (h : ∀ i, i < n → f i = g i) : tabB n f = tabB n g := by
  apply List.ext_getElem
  · rw [tabB_len, tabB_len]
  · intro i a b
    rw [tabB_len] at b
    rw [tabB_at _ _ _ b, tabB_at _ _ _ b, h i b]
theorem tabB_self (l : List Bool) : l = tabB l.length fun i => l.getD i false := by
  apply List.ext_getElem
  · rw [tabB_len]
  · intro i a b
    rw [tabB_at _ _ _ a, List.getD, List.getElem?_eq_getElem a]; rfl
theorem range_set (L : List Bool) (a k : Nat) (hak : a ≤ k) : (rangeL L a k).set k true = rangeL L a (k + 1) := by
  refine tabB_set L.length _ _ k true (fun i hi hne => ?_) (fun _ => ?_)
  · have : decide (i < k) = decide (i < k + 1) := by rw [Bool.eq_iff_iff]; simp; omega
    rw [this]
  · simp [hak]
/-- The first k bits turned by others. -/
def xorP (L M : List Bool) (k : Nat) : List Bool := tabB L.length fun i => if i < k then (L.getD i false ^^ M.getD i false) else L.getD i false
theorem xorP_len (L M : List Bool) (k : Nat) : (xorP L M k).length = L.length := tabB_len _ _
theorem xorP_zero (L M : List Bool) : xorP L M 0 = L := by
  rw [xorP, tabB_congr _ _ (fun i => L.getD i false) fun i _ => by rw [if_neg (Nat.not_lt_zero _)]]
  exact (tabB_self L).symm
theorem xorP_end (L M : List Bool) : xorP L M L.length = xorL L M := tabB_congr _ _ _ fun i hi => by rw [if_pos hi]
theorem xorP_set (L M : List Bool) (k : Nat) (_hk : k < L.length) : (xorP L M k).set k (L.getD k false ^^ M.getD k false) = xorP L M (k + 1) := by
  refine tabB_set _ _ _ k _ (fun i hi hne => ?_) (fun _ => by rw [if_pos (by omega)])
  by_cases h : i < k
  · rw [if_pos h, if_pos (by omega)]
  · rw [if_neg h, if_neg (by omega)]
/-- The first and last k bits exchanged. -/
def revP (L : List Bool) (k : Nat) : List Bool := tabB L.length fun i => if i < k ∨ L.length ≤ i + k then L.getD (L.length - 1 - i) false else L.getD i false
theorem revP_len (L : List Bool) (k : Nat) : (revP L k).length = L.length := tabB_len _ _
theorem revP_zero (L : List Bool) : revP L 0 = L := by
  rw [revP, tabB_congr _ _ (fun i => L.getD i false) fun i hi => by rw [if_neg (by omega)]]
  exact (tabB_self L).symm
theorem revP_at (L : List Bool) (k i : Nat) (h : i < L.length) (hi : ¬ (i < k ∨ L.length ≤ i + k)) : (revP L k).getD i false = L.getD i false := by
  rw [revP, tabB_getD _ _ _ h, if_neg hi]
theorem revP_set (L : List Bool) (k : Nat) (hk : k < L.length / 2) : ((revP L k).set k (L.getD (L.length - 1 - k) false)).set (L.length - 1 - k) (L.getD k false) = revP L (k + 1) := by
  have e1 : (revP L k).set k (L.getD (L.length - 1 - k) false) = tabB L.length fun i => if i < k + 1 ∨ L.length ≤ i + k then L.getD (L.length - 1 - i) false else L.getD i false := by
    refine tabB_set _ _ _ k _ (fun i hi hne => ?_) (fun _ => by rw [if_pos (by omega)])
    by_cases h : i < k ∨ L.length ≤ i + k
    · rw [if_pos h, if_pos (by omega)]
    · rw [if_neg h, if_neg (by omega)]
  rw [e1]
  refine tabB_set _ _ _ _ _ (fun i hi hne => ?_) (fun _ => ?_)
  · by_cases h : i < k + 1 ∨ L.length ≤ i + k
    · rw [if_pos h, if_pos (by omega)]
    · rw [if_neg h, if_neg (by omega)]
  · rw [if_pos (by omega), show L.length - 1 - (L.length - 1 - k) = k by omega]
theorem revP_end (L : List Bool) : revP L (L.length / 2) = L.reverse := by
  have e : L.reverse = tabB L.length fun i => L.reverse.getD i false := by
    have := tabB_self L.reverse
    rwa [List.length_reverse] at this
  rw [e]
  refine tabB_congr _ _ _ fun i hi => ?_
  rw [reverse_getD, decide_eq_true hi, Bool.true_and]
  by_cases h : i < L.length / 2 ∨ L.length ≤ i + L.length / 2
  · rw [if_pos h]
  · rw [if_neg h, show L.length - 1 - i = i by omega]
theorem Two.form {w0 wr : World} {ov tv : Value} {L T : List Bool} {m : Nat} (h : Two w0 wr ov L tv T m) : ∃ A cap, ov = .slice A L.length cap ∧ L.length ≤ cap ∧ cap ≤ 9223372036854775807 := by
  obtain ⟨A, cap, hv, h1, h2⟩ := (Rd.of_own h.out).form
  rw [bv_len] at hv h1
  unfold maxLen at h2
  exact ⟨A, cap, hv, h1, by omega⟩
theorem own_ne {w : World} {base n x : Nat} {v : Value} {xs : List Value} {T : TypeId} {cs : Array Value} (ho : w.ownsRow base 4 1 v n xs) (hb : Blk w x T cs) (hT : T ≠ 4) : some x ≠ v.ownBlock := by
  obtain ⟨h1, ⟨rfl, _⟩ | ⟨r, cap, cur, rfl, hb', hr, rest⟩⟩ := ho
  · simp [Value.ownBlock]
  · simp only [Value.ownBlock, ne_eq, Option.some.injEq]
    exact blk_ne hb hr hT
theorem shr_bit64 (a j : Nat) (ha : a < 9223372036854775808) : (bits .and .i64 ((a : Int) / (2 : Int) ^ j) 1 == 1) = a.testBit j := by
  have e : (a : Int) / (2 : Int) ^ j = ((a / 2 ^ j : Nat) : Int) := by simp
  have h1 : a / 2 ^ j ≤ a := Nat.div_le_self _ _
  have h2 : bits .and .i64 ((a / 2 ^ j : Nat) : Int) 1 = ((a / 2 ^ j &&& 1 : Nat) : Int) := i64_and (a / 2 ^ j) 1 (by omega) (by decide)
  rw [e, h2, Nat.and_one_is_mod, Nat.testBit_eq_decide_div_mod_eq]
  rw [Bool.eq_iff_iff]; simp; omega
set_option maxRecDepth 100000 in
set_option maxHeartbeats 4000000 in
theorem biArray_any (v1 v2 : Value) (l : List Bool) (st : List Step) (w : World) (hv : Rd w w.heap.size v1 (bv l)) (hst : RdS w w.heap.size v2 st) (hok : OkL l.length st) (hl : l.length ≤ 200) (hm : st.length ≤ 30) :
    Calls Try.prog 8 #[v1, v2] w fun e w' => ∃ r1 r2, e = .returned (.tuple #[r1, r2]) ∧ Rd w' w'.heap.size r1 (bv (bitsK l st st.length)) ∧ Rd w' w'.heap.size r2 (bv (tookK l st st.length)) ∧ Below w.heap.size w w' := by
  obtain ⟨i0, hi0, hz0, hz1, hz2⟩ := info_parts info_bool
  have hmkAny : Hid (∀ (n : Nat) (a : World), n ≤ 16384 → (Instr.makeSlice 22 (.int .i64 (n : Int)) (.int .i64 (n : Int))).run Try.prog a = .ok (.slice (some ⟨a.heap.size, 0, none⟩) n n) (a.alloc (.cells (rep n (.bool false)) 4))) :=
    Lib.hid fun n a hn => run_mk (P := Try.prog) 22 4 (.bool false) 1 Try.underlying22 info_bool rfl n (by omega) (by omega) a
  obtain ⟨A, cap, rfl, h1, h2, h3⟩ := hst
  unfold maxLen at h2
  have HA := Lib.hid h3
  have HOK := Lib.hid hok
  have HV := Lib.hid hv
  have hm2 : (st.length : Int) ≤ 30 := by omega
  clear h3 hok hv
  go_enter Try.func8, Try.ntmps8
  go_wp2_with (with_reducible refine stop_at (o := ⟨some 19, _, _, _, _, _⟩) ?_)
  refine Lib.hid ?_
  refine list_app2 rfl _ _ _ rfl w.heap.size 4 i0 _ 1 Try.underlying22 hi0 hz0 hz1 hz2 rfl _ 0 [] rfl (own_empty (Blk.fresh _ _ _) (Nat.le_refl _)) _ _ (bv l) rfl (HV.out.up (bal (brf w) _)) (bv_one _) (by rw [bv_len]; unfold maxLen; omega) (by rw [bv_len]; omega) (by simp) ?_
  intro ov w1 ho1 hg1 hl1
  have HT : Hid (Two w w1 ov (bitsK l st 0) (.slice none 0 0) (tookK l st 0) 0) := Lib.hid ⟨by
      rw [bv_len, Nat.zero_add, List.nil_append] at ho1; exact ho1, own_nil _ _ _, fun b _ => by simp [Value.ownBlock], below_grown (bal (brf w) _) hg1 (own_empty (Blk.fresh _ _ _) (Nat.le_refl _)) (by simp)⟩
  clear ho1 hg1 hl1 HV
  go_wp2_with fail
  go_loopw [6, 7, 8] (fun ov tv iv wr => ∃ i : Nat, i ≤ st.length ∧ iv = .int .i64 i ∧ Hid (Two w wr ov (bitsK l st i) tv (tookK l st i) i)) (fun _ _ iv _ => st.length - (intOf iv).toNat)
  case atStart => exact ⟨0, Nat.zero_le _, rfl, HT⟩
  case round =>
    clear HT
    obtain ⟨i, hi, rfl, HT⟩ := hrel
    by_cases hlt : i < st.length
    · obtain ⟨ga, oa, rfl, hga, hc⟩ := HA.out (by omega)
      obtain ⟨s, hs⟩ : ∃ s, st[i]? = some s := ⟨_, List.getElem?_eq_getElem hlt⟩
      obtain ⟨u, hu⟩ := hc i s hs
      have HU := hu.below HT.out.below hga
      have d0 := HU.c0
      have d1 := HU.c1
      have d2 := HU.c2
      have d3 := HU.c3
      have hOk := HOK.out i s hs
      have hbk := bitsK_succ l st i s hs
      have htk := tookK_succ l st i s hs
      have hsl := sizeK_le l.length st HOK.out i
      rw [← bitsK_len] at hOk hsl
      obtain ⟨A', c', rfl, k1, k2⟩ := hu.rd.form
      obtain ⟨op, sa, sb, bl⟩ := s
      rw [bv_len] at d3 k1
      have HURd := Lib.hid (hu.rd.below HT.out.below)
      have HUR0 := Lib.hid hu.rd
      rw [bv_len] at HURd HUR0
      unfold maxLen at k2
      dsimp only at d0 d1 d2 d3 HURd HUR0 k1
      have HK0 := Lib.hid hOk
      have HBK := Lib.hid hbk
      have HTK := Lib.hid htk
      have hL : (bitsK l st i).length ≤ 2300 := by omega
      clear HU hu hc hs hOk hbk htk hsl
      generalize bitsK l st i = L at *
      generalize tookK l st i = T at *
      obtain ⟨A1, cap1, rfl, q1, q2⟩ := HT.out.form
      have hop := HK0.out.op
      dsimp only at hop
      have hops : op = 1 ∨ op = 2 ∨ op = 3 ∨ op = 4 ∨ op = 5 ∨ op = 6 ∨ op = 7 ∨ op = 8 ∨ op = 9 := by omega
      clear hop
      rcases hops with rfl | rfl | rfl | rfl | rfl | rfl | rfl | rfl | rfl
      · as_aux_lemma =>
        have hpl := HK0.out.place (.inl rfl)
        dsimp only at hpl
        obtain ⟨a, rfl⟩ := Int.eq_ofNat_of_zero_le hpl.1
        have ha : a < L.length := by omega
        have HZ := Lib.hid (bal (brf wr) (.cells #[.int .i64 1, .int .i64 (a : Int), .int .i64 sb, .slice A' bl.length c'] 32))
        obtain ⟨r, cp, hov, p1, p2, p3, p4, p5⟩ := (HT.out.up HZ.out).at_ (by omega)
        injection hov with hov1 _ hov2
        subst hov1 hov2
        have c5 := (p4 a ha).1
        have f5 := (p4 a ha).2
        have HT3 := Lib.hid (p5 a true ha)
        have HE : Hid (resS L ⟨1, (a : Int), sb, bl⟩ = (L.set a true, true)) := Lib.hid (by unfold resS; simp)
        clear p4 p5 HT
        go_wp2_with (with_reducible refine stop_at (o := ⟨some 198, _, _, _, _, _⟩) ?_)
        refine Lib.hid ?_
        refine list_app2 rfl _ _ _ rfl w.heap.size 4 i0 _ 1 Try.underlying22 hi0 hz0 hz1 hz2 rfl _ i (bv T) rfl (HT3.out.up (bal (brf _) _)).tk _ _ [.bool true] rfl (Rd.one (by simp) _ _) (fun u hu => by simp at hu; subst hu; rfl) (by simp only [List.length_singleton]; unfold maxLen; omega) (by simp only [List.length_singleton]; omega) (by have := HT3.out.below.size; (try simp at this); simp; omega) ?_
        intro v1 w4 ho1 hg1 hl1
        have HT4 : Hid (Two w w4 (.slice (some ⟨r, 0, none⟩) L.length cap1) (bitsK l st (i + 1)) v1 (tookK l st (i + 1)) (i + 1)) := Lib.hid (by
          rw [HBK.out, HTK.out, HE.out]
          exact (HT3.out.up (bal (brf _) _)).appT ho1 hg1 hl1)
        clear ho1 hg1 hl1 HT3 HBK HTK HE
        go_wp2
        go_roundw
        case rel => exact ⟨i + 1, by omega, by go_num, HT4⟩
        case measure => simp [intOf]; omega
      · as_aux_lemma =>
        have hpl := HK0.out.place (.inr rfl)
        dsimp only at hpl
        obtain ⟨a, rfl⟩ := Int.eq_ofNat_of_zero_le hpl.1
        have ha : a < L.length := by omega
        have HZ := Lib.hid (bal (brf wr) (.cells #[.int .i64 2, .int .i64 (a : Int), .int .i64 sb, .slice A' bl.length c'] 32))
        obtain ⟨r, cp, hov, p1, p2, p3, p4, p5⟩ := (HT.out.up HZ.out).at_ (by omega)
        injection hov with hov1 _ hov2
        subst hov1 hov2
        have c5 := (p4 a ha).1
        have f5 := (p4 a ha).2
        have HT3 := Lib.hid ((p5 a (!L.getD a false) ha).up (bdr (brf _)))
        have HE : Hid (resS L ⟨2, (a : Int), sb, bl⟩ = (L.set a (!L.getD a false), true)) := Lib.hid (by unfold resS; simp)
        clear p4 p5 HT hpl
        generalize hz : L.getD a false = z at *
        clear hz
        have b1 : (wr.alloc (.cells #[.int .i64 2, .int .i64 (a : Int), .int .i64 sb, .slice A' bl.length c'] 32)).cell? ⟨wr.heap.size, 1, none⟩ = some (.int .i64 (a : Int)) := by rw [(Blk.fresh wr _ _).cell]; rfl
        go_wp2_with fail
        refine Can.wp_region_can (fun w' => w'.cell? ⟨wr.heap.size, 1, none⟩ = some (.int .i64 (a : Int)) ∧ w'.cell? ⟨r, a, none⟩ = some (.bool z) ∧ w'.frozen? ⟨r, a, none⟩ = false) 10 [0, 1, 2, 3, 4, 5, 6, 7, 8, 9, 10] (by kernel_rfl) (by kernel_rfl) (fun _ _ d _ _ h => by cases d <;> exact h) ⟨b1, c5, f5⟩ (fun hHeld => ?_)
        repeat (refine Can.can_pure (v := ?_) rfl rfl (Or.inl ⟨by rfl, ?_⟩) ?_; rotate_left; (focus ((intro w hSw); (try dsimp only at hSw); go_simp; (try with_reducible rfl))); (try simp only [Act.put, List.getElem_toArray, List.getElem_cons_succ, List.getElem_cons_zero, List.setIfInBounds_toArray, List.set_cons_zero, List.set_cons_succ]))
        have g0 := hHeld.2.2
        have g1' := hHeld.2.1
        refine Can.can_tail rfl rfl (by rfl) (fun K hK => ?_)
        go_simp
        refine hK.out _ _ ?_
        clear hK K
        clear hHeld g0 g1' b1 c5 f5
        go_wp2_with (with_reducible refine stop_at (o := ⟨some 198, _, _, _, _, _⟩) ?_)
        refine Lib.hid ?_
        refine list_app2 rfl _ _ _ rfl w.heap.size 4 i0 _ 1 Try.underlying22 hi0 hz0 hz1 hz2 rfl _ i (bv T) rfl (HT3.out.up (bal (brf _) _)).tk _ _ [.bool true] rfl (Rd.one (by simp) _ _) (fun u hu => by simp at hu; subst hu; rfl) (by simp only [List.length_singleton]; unfold maxLen; omega) (by simp only [List.length_singleton]; omega) (by have := HT3.out.below.size; (try simp at this); simp; omega) ?_
        intro v1 w4 ho1 hg1 hl1
        have HT4 : Hid (Two w w4 (.slice (some ⟨r, 0, none⟩) L.length cap1) (bitsK l st (i + 1)) v1 (tookK l st (i + 1)) (i + 1)) := Lib.hid (by
          rw [HBK.out, HTK.out, HE.out]
          exact (HT3.out.up (bal (brf _) _)).appT ho1 hg1 hl1)
        clear ho1 hg1 hl1 HT3 HBK HTK HE
        go_wp2
        go_roundw
        case rel => exact ⟨i + 1, by omega, by go_num, HT4⟩
        case measure => simp [intOf]; omega
      · as_aux_lemma =>
        have HZ := Lib.hid (bal (brf wr) (.cells #[.int .i64 3, .int .i64 sa, .int .i64 sb, .slice A' bl.length c'] 32))
        have HT2 := Lib.hid (HT.out.up HZ.out)
        by_cases hc : 0 ≤ sa ∧ sa ≤ sb ∧ sb ≤ (L.length : Int)
        · obtain ⟨a, rfl⟩ := Int.eq_ofNat_of_zero_le hc.1
          obtain ⟨b, rfl⟩ := Int.eq_ofNat_of_zero_le (Int.le_trans hc.1 hc.2.1)
          have hab : a ≤ b := by omega
          have hbl : b ≤ L.length := by omega
          have HE : Hid (resS L ⟨3, (a : Int), (b : Int), bl⟩ = (rangeL L a b, true)) := Lib.hid (by
            unfold resS; dsimp only; rw [if_neg (by decide), if_neg (by decide), if_pos rfl, if_pos hc]; simp)
          have HX0 : Hid (Two w (wr.alloc (.cells #[.int .i64 3, .int .i64 (a : Int), .int .i64 (b : Int), .slice A' bl.length c'] 32)) (.slice A1 L.length cap1) (rangeL L a a) u7 T i) := Lib.hid (by rw [rangeL_none]; exact HT2.out)
          by_cases hab2 : a < b
          · have hab3 : (a : Int) < (b : Int) := by omega
            obtain ⟨r, cp, hov, p1, p2, p3, p4, p5⟩ := HT2.out.at_ (by omega)
            injection hov with hov1 _ hov2
            subst hov1 hov2
            have hrX := own_lt HT.out.out rfl
            have b2 : (wr.alloc (.cells #[.int .i64 3, .int .i64 (a : Int), .int .i64 (b : Int), .slice A' bl.length c'] 32)).cell? ⟨wr.heap.size, 2, none⟩ = some (.int .i64 (b : Int)) := by rw [(Blk.fresh wr _ _).cell]; rfl
            clear hc HT p4 p5 HT2
            go_wp2_with fail
            go_loopw [11] (fun kv wj => ∃ k : Nat, a ≤ k ∧ k ≤ b ∧ kv = .int .i64 k ∧ Hid (Two w wj (.slice (some ⟨r, 0, none⟩) L.length cap1) (rangeL L a k) u7 T i) ∧ wj.cell? ⟨wr.heap.size, 2, none⟩ = some (.int .i64 (b : Int))) (fun kv _ => b - (intOf kv).toNat)
            case atStart => exact ⟨a, Nat.le_refl _, hab, rfl, HX0, b2⟩
            case round =>
              rename World => wj
              clear HX0 b2
              obtain ⟨k, hak, hkb, rfl, HX, b2⟩ := hrel
              by_cases hk : k < b
              · obtain ⟨r', cp, hov, p1, p2, p3, p4, p5⟩ := HX.out.at_ (by rw [rangeL_len]; omega)
                injection hov with hov1 _ hov2
                injection hov1 with hov1
                injection hov1 with hov1 _ _
                subst hov1 hov2
                have hkl : k < (rangeL L a k).length := by rw [rangeL_len]; omega
                have c5 := (p4 k hkl).1
                have f5 := (p4 k hkl).2
                have HX2 := Lib.hid (p5 k true hkl)
                rw [range_set L a k hak] at HX2
                have HB2 : Hid ((wj.setCell ⟨r, k, none⟩ (.bool true)).cell? ⟨wr.heap.size, 2, none⟩ = some (.int .i64 (b : Int))) := Lib.hid ((World.cell?_of_block (Below.heap_setCell wj ⟨r, k, none⟩ (.bool true) wr.heap.size (by simp; omega))).trans b2)
                clear p4 p5 HX hkl
                generalize (rangeL L a k).getD k false = z at *
                go_wp2_with fail
                go_roundw
                case rel => exact ⟨k + 1, by omega, by omega, by go_num, HX2, HB2.out⟩
                case measure => simp [intOf]; omega
              · obtain rfl : k = b := by omega
                have HT3 := HX
                clear HX
                go_wp2_with (with_reducible refine stop_at (o := ⟨some 198, _, _, _, _, _⟩) ?_)
                refine Lib.hid ?_
                refine list_app2 rfl _ _ _ rfl w.heap.size 4 i0 _ 1 Try.underlying22 hi0 hz0 hz1 hz2 rfl _ i (bv T) rfl (HT3.out.up (bal (brf _) _)).tk _ _ [.bool true] rfl (Rd.one (by simp) _ _) (fun u hu => by simp at hu; subst hu; rfl) (by simp only [List.length_singleton]; unfold maxLen; omega) (by simp only [List.length_singleton]; omega) (by have := HT3.out.below.size; (try simp at this); simp; omega) ?_
                intro v1 w4 ho1 hg1 hl1
                have HT4 : Hid (Two w w4 (.slice (some ⟨r, 0, none⟩) L.length cap1) (bitsK l st (i + 1)) v1 (tookK l st (i + 1)) (i + 1)) := Lib.hid (by
                  rw [HBK.out, HTK.out, HE.out]
                  exact (HT3.out.up (bal (brf _) _)).appT ho1 hg1 hl1)
                clear ho1 hg1 hl1 HT3 HBK HTK HE
                go_wp2
                go_roundw
                case rel => exact ⟨i + 1, by omega, by go_num, HT4⟩
                case measure => simp [intOf]; omega
          · obtain rfl : a = b := by omega
            have HT3 : Hid (Two w (wr.alloc (.cells #[.int .i64 3, .int .i64 (a : Int), .int .i64 (a : Int), .slice A' bl.length c'] 32)) (.slice A1 L.length cap1) L u7 T i) := HT2
            rw [rangeL_none] at HE
            have b2 : (wr.alloc (.cells #[.int .i64 3, .int .i64 (a : Int), .int .i64 (a : Int), .slice A' bl.length c'] 32)).cell? ⟨wr.heap.size, 2, none⟩ = some (.int .i64 (a : Int)) := by rw [(Blk.fresh wr _ _).cell]; rfl
            have hnl : ¬ (a : Int) < (a : Int) := by omega
            clear HX0 hc HT HT2
            go_wp2_with fail
            go_loopw [11] (fun kv wj => kv = .int .i64 (a : Int) ∧ Hid (Two w wj (.slice A1 L.length cap1) L u7 T i) ∧ wj.cell? ⟨wr.heap.size, 2, none⟩ = some (.int .i64 (a : Int))) (fun _ _ => 0)
            case atStart => exact ⟨rfl, HT3, b2⟩
            case round =>
              rename World => wj
              clear HT3 b2
              obtain ⟨rfl, HT3, b2⟩ := hrel
              go_wp2_with (with_reducible refine stop_at (o := ⟨some 198, _, _, _, _, _⟩) ?_)
              refine Lib.hid ?_
              refine list_app2 rfl _ _ _ rfl w.heap.size 4 i0 _ 1 Try.underlying22 hi0 hz0 hz1 hz2 rfl _ i (bv T) rfl (HT3.out.up (bal (brf _) _)).tk _ _ [.bool true] rfl (Rd.one (by simp) _ _) (fun u hu => by simp at hu; subst hu; rfl) (by simp only [List.length_singleton]; unfold maxLen; omega) (by simp only [List.length_singleton]; omega) (by have := HT3.out.below.size; (try simp at this); simp; omega) ?_
              intro v1 w4 ho1 hg1 hl1
              have HT4 : Hid (Two w w4 (.slice A1 L.length cap1) (bitsK l st (i + 1)) v1 (tookK l st (i + 1)) (i + 1)) := Lib.hid (by
                rw [HBK.out, HTK.out, HE.out]
                exact (HT3.out.up (bal (brf _) _)).appT ho1 hg1 hl1)
              clear ho1 hg1 hl1 HT3 HBK HTK HE
              go_wp2
              go_roundw
              case rel => exact ⟨i + 1, by omega, by go_num, HT4⟩
              case measure => simp [intOf]; omega
        · have HE : Hid (resS L ⟨3, sa, sb, bl⟩ = (L, false)) := Lib.hid (by
            unfold resS; dsimp only; rw [if_neg (by decide), if_neg (by decide), if_pos rfl, if_neg hc])
          have HT3 := HT2
          have b2 : (wr.alloc (.cells #[.int .i64 3, .int .i64 sa, .int .i64 sb, .slice A' bl.length c'] 32)).cell? ⟨wr.heap.size, 2, none⟩ = some (.int .i64 sb) := by rw [(Blk.fresh wr _ _).cell]; rfl
          clear HT HT2
          by_cases hs0 : 0 ≤ sa
          · by_cases hs1 : sa ≤ sb
            · have hsl : ¬ sb ≤ (L.length : Int) := by omega
              clear hc
              by_cases hss : sa < sb
              · go_wp2_with fail
                go_loopw [11] (fun kv wj => kv = .int .i64 sa ∧ Hid (Two w wj (.slice A1 L.length cap1) L u7 T i) ∧ wj.cell? ⟨wr.heap.size, 2, none⟩ = some (.int .i64 sb)) (fun _ _ => 0)
                case atStart => exact ⟨rfl, HT3, b2⟩
                case round =>
                  rename World => wj
                  clear HT3 b2
                  obtain ⟨rfl, HT3, b2⟩ := hrel
                  go_wp2_with (with_reducible refine stop_at (o := ⟨some 198, _, _, _, _, _⟩) ?_)
                  refine Lib.hid ?_
                  refine list_app2 rfl _ _ _ rfl w.heap.size 4 i0 _ 1 Try.underlying22 hi0 hz0 hz1 hz2 rfl _ i (bv T) rfl (HT3.out.up (bal (brf _) _)).tk _ _ [.bool false] rfl (Rd.one (by simp) _ _) (fun u hu => by simp at hu; subst hu; rfl) (by simp only [List.length_singleton]; unfold maxLen; omega) (by simp only [List.length_singleton]; omega) (by have := HT3.out.below.size; (try simp at this); simp; omega) ?_
                  intro v1 w4 ho1 hg1 hl1
                  have HT4 : Hid (Two w w4 (.slice A1 L.length cap1) (bitsK l st (i + 1)) v1 (tookK l st (i + 1)) (i + 1)) := Lib.hid (by
                    rw [HBK.out, HTK.out, HE.out]
                    exact (HT3.out.up (bal (brf _) _)).appT ho1 hg1 hl1)
                  clear ho1 hg1 hl1 HT3 HBK HTK HE
                  go_wp2
                  go_roundw
                  case rel => exact ⟨i + 1, by omega, by go_num, HT4⟩
                  case measure => simp [intOf]; omega
              · go_wp2_with fail
                go_loopw [11] (fun kv wj => kv = .int .i64 sa ∧ Hid (Two w wj (.slice A1 L.length cap1) L u7 T i) ∧ wj.cell? ⟨wr.heap.size, 2, none⟩ = some (.int .i64 sb)) (fun _ _ => 0)
                case atStart => exact ⟨rfl, HT3, b2⟩
                case round =>
                  rename World => wj
                  clear HT3 b2
                  obtain ⟨rfl, HT3, b2⟩ := hrel
                  go_wp2_with (with_reducible refine stop_at (o := ⟨some 198, _, _, _, _, _⟩) ?_)
                  refine Lib.hid ?_
                  refine list_app2 rfl _ _ _ rfl w.heap.size 4 i0 _ 1 Try.underlying22 hi0 hz0 hz1 hz2 rfl _ i (bv T) rfl (HT3.out.up (bal (brf _) _)).tk _ _ [.bool false] rfl (Rd.one (by simp) _ _) (fun u hu => by simp at hu; subst hu; rfl) (by simp only [List.length_singleton]; unfold maxLen; omega) (by simp only [List.length_singleton]; omega) (by have := HT3.out.below.size; (try simp at this); simp; omega) ?_
                  intro v1 w4 ho1 hg1 hl1
                  have HT4 : Hid (Two w w4 (.slice A1 L.length cap1) (bitsK l st (i + 1)) v1 (tookK l st (i + 1)) (i + 1)) := Lib.hid (by
                    rw [HBK.out, HTK.out, HE.out]
                    exact (HT3.out.up (bal (brf _) _)).appT ho1 hg1 hl1)
                  clear ho1 hg1 hl1 HT3 HBK HTK HE
                  go_wp2
                  go_roundw
                  case rel => exact ⟨i + 1, by omega, by go_num, HT4⟩
                  case measure => simp [intOf]; omega
            · clear hc
              have hss : ¬ sa < sb := by omega
              go_wp2_with fail
              go_loopw [11] (fun kv wj => kv = .int .i64 sa ∧ Hid (Two w wj (.slice A1 L.length cap1) L u7 T i) ∧ wj.cell? ⟨wr.heap.size, 2, none⟩ = some (.int .i64 sb)) (fun _ _ => 0)
              case atStart => exact ⟨rfl, HT3, b2⟩
              case round =>
                rename World => wj
                clear HT3 b2
                obtain ⟨rfl, HT3, b2⟩ := hrel
                go_wp2_with (with_reducible refine stop_at (o := ⟨some 198, _, _, _, _, _⟩) ?_)
                refine Lib.hid ?_
                refine list_app2 rfl _ _ _ rfl w.heap.size 4 i0 _ 1 Try.underlying22 hi0 hz0 hz1 hz2 rfl _ i (bv T) rfl (HT3.out.up (bal (brf _) _)).tk _ _ [.bool false] rfl (Rd.one (by simp) _ _) (fun u hu => by simp at hu; subst hu; rfl) (by simp only [List.length_singleton]; unfold maxLen; omega) (by simp only [List.length_singleton]; omega) (by have := HT3.out.below.size; (try simp at this); simp; omega) ?_
                intro v1 w4 ho1 hg1 hl1
                have HT4 : Hid (Two w w4 (.slice A1 L.length cap1) (bitsK l st (i + 1)) v1 (tookK l st (i + 1)) (i + 1)) := Lib.hid (by
                  rw [HBK.out, HTK.out, HE.out]
                  exact (HT3.out.up (bal (brf _) _)).appT ho1 hg1 hl1)
                clear ho1 hg1 hl1 HT3 HBK HTK HE
                go_wp2
                go_roundw
                case rel => exact ⟨i + 1, by omega, by go_num, HT4⟩
                case measure => simp [intOf]; omega
          · clear hc
            by_cases hss : sa < sb
            · go_wp2_with fail
              go_loopw [11] (fun kv wj => kv = .int .i64 sa ∧ Hid (Two w wj (.slice A1 L.length cap1) L u7 T i) ∧ wj.cell? ⟨wr.heap.size, 2, none⟩ = some (.int .i64 sb)) (fun _ _ => 0)
              case atStart => exact ⟨rfl, HT3, b2⟩
              case round =>
                rename World => wj
                clear HT3 b2
                obtain ⟨rfl, HT3, b2⟩ := hrel
                go_wp2_with (with_reducible refine stop_at (o := ⟨some 198, _, _, _, _, _⟩) ?_)
                refine Lib.hid ?_
                refine list_app2 rfl _ _ _ rfl w.heap.size 4 i0 _ 1 Try.underlying22 hi0 hz0 hz1 hz2 rfl _ i (bv T) rfl (HT3.out.up (bal (brf _) _)).tk _ _ [.bool false] rfl (Rd.one (by simp) _ _) (fun u hu => by simp at hu; subst hu; rfl) (by simp only [List.length_singleton]; unfold maxLen; omega) (by simp only [List.length_singleton]; omega) (by have := HT3.out.below.size; (try simp at this); simp; omega) ?_
                intro v1 w4 ho1 hg1 hl1
                have HT4 : Hid (Two w w4 (.slice A1 L.length cap1) (bitsK l st (i + 1)) v1 (tookK l st (i + 1)) (i + 1)) := Lib.hid (by
                  rw [HBK.out, HTK.out, HE.out]
                  exact (HT3.out.up (bal (brf _) _)).appT ho1 hg1 hl1)
                clear ho1 hg1 hl1 HT3 HBK HTK HE
                go_wp2
                go_roundw
                case rel => exact ⟨i + 1, by omega, by go_num, HT4⟩
                case measure => simp [intOf]; omega
            · go_wp2_with fail
              go_loopw [11] (fun kv wj => kv = .int .i64 sa ∧ Hid (Two w wj (.slice A1 L.length cap1) L u7 T i) ∧ wj.cell? ⟨wr.heap.size, 2, none⟩ = some (.int .i64 sb)) (fun _ _ => 0)
              case atStart => exact ⟨rfl, HT3, b2⟩
              case round =>
                rename World => wj
                clear HT3 b2
                obtain ⟨rfl, HT3, b2⟩ := hrel
                go_wp2_with (with_reducible refine stop_at (o := ⟨some 198, _, _, _, _, _⟩) ?_)
                refine Lib.hid ?_
                refine list_app2 rfl _ _ _ rfl w.heap.size 4 i0 _ 1 Try.underlying22 hi0 hz0 hz1 hz2 rfl _ i (bv T) rfl (HT3.out.up (bal (brf _) _)).tk _ _ [.bool false] rfl (Rd.one (by simp) _ _) (fun u hu => by simp at hu; subst hu; rfl) (by simp only [List.length_singleton]; unfold maxLen; omega) (by simp only [List.length_singleton]; omega) (by have := HT3.out.below.size; (try simp at this); simp; omega) ?_
                intro v1 w4 ho1 hg1 hl1
                have HT4 : Hid (Two w w4 (.slice A1 L.length cap1) (bitsK l st (i + 1)) v1 (tookK l st (i + 1)) (i + 1)) := Lib.hid (by
                  rw [HBK.out, HTK.out, HE.out]
                  exact (HT3.out.up (bal (brf _) _)).appT ho1 hg1 hl1)
                clear ho1 hg1 hl1 HT3 HBK HTK HE
                go_wp2
                go_roundw
                case rel => exact ⟨i + 1, by omega, by go_num, HT4⟩
                case measure => simp [intOf]; omega
      · as_aux_lemma =>
        have HZ := Lib.hid (bal (brf wr) (.cells #[.int .i64 4, .int .i64 sa, .int .i64 sb, .slice A' bl.length c'] 32))
        have HE : Hid (resS L ⟨4, sa, sb, bl⟩ = (List.replicate L.length false, true)) := Lib.hid (by unfold resS; simp)
        have hmk := hmkAny.out L.length (wr.alloc (.cells #[.int .i64 4, .int .i64 sa, .int .i64 sb, .slice A' bl.length c'] 32)) (by omega)
        have hMade := (HT.out.up HZ.out).made (bal (brf _) (.cells (rep L.length (.bool false)) 4)) (L2 := List.replicate L.length false) (by rw [rep_bv]; exact Blk.fresh _ _ _) (by rw [List.length_replicate]; unfold maxLen; omega)
        rw [List.length_replicate] at hMade
        have HT3 := Lib.hid hMade
        have hsz : (wr.alloc (.cells #[.int .i64 4, .int .i64 sa, .int .i64 sb, .slice A' bl.length c'] 32)).heap.size = wr.heap.size + 1 := by simp
        rw [hsz] at HT3 hmk
        clear hMade hsz HT
        generalize rep L.length (.bool false) = zz at *
        go_wp2_with (with_reducible refine stop_at (o := ⟨some 198, _, _, _, _, _⟩) ?_)
        refine Lib.hid ?_
        refine list_app2 rfl _ _ _ rfl w.heap.size 4 i0 _ 1 Try.underlying22 hi0 hz0 hz1 hz2 rfl _ i (bv T) rfl (HT3.out.up (bal (brf _) _)).tk _ _ [.bool true] rfl (Rd.one (by simp) _ _) (fun u hu => by simp at hu; subst hu; rfl) (by simp only [List.length_singleton]; unfold maxLen; omega) (by simp only [List.length_singleton]; omega) (by have := HT3.out.below.size; (try simp at this); simp; omega) ?_
        intro v1 w4 ho1 hg1 hl1
        have HT4 : Hid (Two w w4 (.slice (some ⟨wr.heap.size + 1, 0, none⟩) L.length L.length) (bitsK l st (i + 1)) v1 (tookK l st (i + 1)) (i + 1)) := Lib.hid (by
          rw [HBK.out, HTK.out, HE.out]
          exact (HT3.out.up (bal (brf _) _)).appT ho1 hg1 hl1)
        clear ho1 hg1 hl1 HT3 HBK HTK HE
        go_wp2
        go_roundw
        case rel => exact ⟨i + 1, by omega, by go_num, HT4⟩
        case measure => simp [intOf]; omega
      · as_aux_lemma =>
        have HZ := Lib.hid (bal (brf wr) (.cells #[.int .i64 5, .int .i64 sa, .int .i64 sb, .slice A' bl.length c'] 32))
        have HE : Hid (resS L ⟨5, sa, sb, bl⟩ = (L ++ [sa != 0], true)) := Lib.hid (by unfold resS; simp [bne])
        have HT2 := Lib.hid (HT.out.up HZ.out)
        clear HT
        go_wp2_with (with_reducible refine stop_at (o := ⟨some 95, _, _, _, _, _⟩) ?_)
        refine Lib.hid ?_
        refine list_app2 rfl _ _ _ rfl w.heap.size 4 i0 _ 1 Try.underlying22 hi0 hz0 hz1 hz2 rfl _ L.length (bv L) rfl (HT2.out.up (bal (brf _) _)).out _ _ (bv [sa != 0]) rfl (Rd.one (by simp) _ _) (bv_one _) (by rw [bv_len]; simp only [List.length_singleton]; unfold maxLen; omega) (by rw [bv_len]; simp only [List.length_singleton]; omega) (by have := HT2.out.below.size; (try simp at this); simp; omega) ?_
        intro ov2 w5 ho5 hg5 hl5
        have HT3 := Lib.hid ((HT2.out.up (bal (brf _) _)).appO ho5 hg5 hl5)
        clear ho5 hg5 hl5 HT2
        go_wp2_with (with_reducible refine stop_at (o := ⟨some 198, _, _, _, _, _⟩) ?_)
        refine Lib.hid ?_
        refine list_app2 rfl _ _ _ rfl w.heap.size 4 i0 _ 1 Try.underlying22 hi0 hz0 hz1 hz2 rfl _ i (bv T) rfl (HT3.out.up (bal (brf _) _)).tk _ _ [.bool true] rfl (Rd.one (by simp) _ _) (fun u hu => by simp at hu; subst hu; rfl) (by simp only [List.length_singleton]; unfold maxLen; omega) (by simp only [List.length_singleton]; omega) (by have := HT3.out.below.size; (try simp at this); simp; omega) ?_
        intro v1 w4 ho1 hg1 hl1
        have HT4 : Hid (Two w w4 ov2 (bitsK l st (i + 1)) v1 (tookK l st (i + 1)) (i + 1)) := Lib.hid (by
          rw [HBK.out, HTK.out, HE.out]
          exact (HT3.out.up (bal (brf _) _)).appT ho1 hg1 hl1)
        clear ho1 hg1 hl1 HT3 HBK HTK HE
        go_wp2
        go_roundw
        case rel => exact ⟨i + 1, by omega, by go_num, HT4⟩
        case measure => simp [intOf]; omega
      · as_aux_lemma =>
        have hnum := HK0.out.num rfl
        dsimp only at hnum
        obtain ⟨a, rfl⟩ := Int.eq_ofNat_of_zero_le hnum.1
        have ha : a < 2147483648 := by omega
        have HZ := Lib.hid (bal (brf wr) (.cells #[.int .i64 6, .int .i64 (a : Int), .int .i64 sb, .slice A' bl.length c'] 32))
        have HT2 := Lib.hid (HT.out.up HZ.out)
        have b1 : (wr.alloc (.cells #[.int .i64 6, .int .i64 (a : Int), .int .i64 sb, .slice A' bl.length c'] 32)).cell? ⟨wr.heap.size, 1, none⟩ = some (.int .i64 (a : Int)) := by rw [(Blk.fresh wr _ _).cell]; rfl
        clear HT hnum
        by_cases hc : 0 ≤ sb ∧ sb ≤ 32
        · obtain ⟨b, rfl⟩ := Int.eq_ofNat_of_zero_le hc.1
          have hb : b ≤ 32 := by omega
          have hb32 : (b : Int) ≤ 32 := by omega
          have HE : Hid (resS L ⟨6, (a : Int), (b : Int), bl⟩ = (L ++ topB a b b, true)) := Lib.hid (by
            unfold resS; dsimp only; rw [if_neg (by decide), if_neg (by decide), if_neg (by decide), if_neg (by decide), if_neg (by decide), if_pos rfl, if_pos hc]; simp)
          have HX0 : Hid (Two w (wr.alloc (.cells #[.int .i64 6, .int .i64 (a : Int), .int .i64 (b : Int), .slice A' bl.length c'] 32)) (.slice A1 L.length cap1) (L ++ topB a b 0) u7 T i) := Lib.hid (by have := HT2.out; unfold topB; simpa using this)
          clear hc HT2
          have HXB : Hid (Blk (wr.alloc (.cells #[.int .i64 6, .int .i64 (a : Int), .int .i64 (b : Int), .slice A' bl.length c'] 32)) wr.heap.size 32 #[.int .i64 6, .int .i64 (a : Int), .int .i64 (b : Int), .slice A' bl.length c']) := Lib.hid (Blk.fresh wr _ _)
          go_wp2_with fail
          go_loopw [6, 12] (fun ov kv wj => ∃ k : Nat, k ≤ b ∧ kv = .int .i64 ((b : Int) - 1 - (k : Int)) ∧ Hid (Two w wj ov (L ++ topB a b k) u7 T i) ∧ Hid (Blk wj wr.heap.size 32 #[.int .i64 6, .int .i64 (a : Int), .int .i64 (b : Int), .slice A' bl.length c'])) (fun _ kv _ => (intOf kv + 1).toNat)
          case atStart => exact ⟨0, Nat.zero_le _, by simp, HX0, HXB⟩
          case round =>
            rename World => wj
            clear HX0 HXB b1
            obtain ⟨k, hkb, rfl, HX, HXB⟩ := hrel
            by_cases hk : k < b
            · obtain ⟨j, hj1, hj2⟩ : ∃ j : Nat, (b : Int) - 1 - (k : Int) = (j : Int) ∧ j = b - 1 - k := ⟨b - 1 - k, by omega, rfl⟩
              have hTs : L ++ topB a b (k + 1) = (L ++ topB a b k) ++ [a.testBit j] := by rw [topB_succ, ← List.append_assoc, hj2]
              have HTS := Lib.hid hTs
              have HJ := Lib.hid hj1
              have hj32 : j < 32 := by omega
              have hXL : (L ++ topB a b k).length ≤ 2400 := by rw [List.length_append, topB_len]; omega
              have c1 : wj.cell? ⟨wr.heap.size, 1, none⟩ = some (.int .i64 (a : Int)) := by rw [HXB.out.cell]; rfl
              rw [hj1]
              clear hTs hj1 hj2
              generalize L ++ topB a b k = LK at *
              have hsb := shr_bit64 a j (by omega)
              go_wp2_with (with_reducible refine stop_at (o := ⟨some 125, _, _, _, _, _⟩) ?_)
              refine Lib.hid ?_
              refine list_app2 rfl _ _ _ rfl w.heap.size 4 i0 _ 1 Try.underlying22 hi0 hz0 hz1 hz2 rfl _ LK.length (bv LK) rfl (HX.out.up (bal (brf _) _)).out _ _ (bv [a.testBit j]) rfl (Rd.one (by simp) _ _) (bv_one _) (by rw [bv_len]; simp only [List.length_singleton]; unfold maxLen; omega) (by rw [bv_len]; simp only [List.length_singleton]; omega) (by have := HX.out.below.size; (try simp at this); simp; omega) ?_
              intro ov2 w5 ho5 hg5 hl5
              have HX2 : Hid (Two w w5 ov2 (L ++ topB a b (k + 1)) u7 T i) := Lib.hid (by rw [HTS.out]; exact (HX.out.up (bal (brf _) _)).appO ho5 hg5 hl5)
              have hne := own_ne (HX.out.up (bal (brf wj) (.cells #[.bool (a.testBit j)] 4))).out (HXB.out.alloc (.cells #[.bool (a.testBit j)] 4)) (by decide)
              have HXB2 := Lib.hid ((HXB.out.alloc (.cells #[.bool (a.testBit j)] 4)).grown hg5 hne)
              clear ho5 hg5 hl5 HX HXB hne hsb c1
              go_wp2_with fail
              go_roundw
              case rel => exact ⟨k + 1, by omega, (by have := HJ.out; congr 1; omega), HX2, HXB2⟩
              case measure => simp [intOf]
            · obtain rfl : k = b := by omega
              have HT3 := HX
              have hneg : ¬ (0 : Int) ≤ (k : Int) - 1 - (k : Int) := by omega
              clear HX HXB
              go_wp2_with (with_reducible refine stop_at (o := ⟨some 198, _, _, _, _, _⟩) ?_)
              refine Lib.hid ?_
              refine list_app2 rfl _ _ _ rfl w.heap.size 4 i0 _ 1 Try.underlying22 hi0 hz0 hz1 hz2 rfl _ i (bv T) rfl (HT3.out.up (bal (brf _) _)).tk _ _ [.bool true] rfl (Rd.one (by simp) _ _) (fun u hu => by simp at hu; subst hu; rfl) (by simp only [List.length_singleton]; unfold maxLen; omega) (by simp only [List.length_singleton]; omega) (by have := HT3.out.below.size; (try simp at this); simp; omega) ?_
              intro v1 w4 ho1 hg1 hl1
              have HT4 : Hid (Two w w4 u6 (bitsK l st (i + 1)) v1 (tookK l st (i + 1)) (i + 1)) := Lib.hid (by
                rw [HBK.out, HTK.out, HE.out]
                exact (HT3.out.up (bal (brf _) _)).appT ho1 hg1 hl1)
              clear ho1 hg1 hl1 HT3 HBK HTK HE
              go_wp2
              go_roundw
              case rel => exact ⟨i + 1, by omega, by go_num, HT4⟩
              case measure => simp [intOf]; omega
        · have HE : Hid (resS L ⟨6, (a : Int), sb, bl⟩ = (L, false)) := Lib.hid (by
            unfold resS; dsimp only; rw [if_neg (by decide), if_neg (by decide), if_neg (by decide), if_neg (by decide), if_neg (by decide), if_pos rfl, if_neg hc])
          have HT3 := HT2
          clear HT2 b1
          by_cases h0 : 0 ≤ sb
          · have h1 : ¬ sb ≤ 32 := by omega
            clear hc
            by_cases hw : 0 ≤ wrap64 (sb - 1)
            · go_wp2_with fail
              go_loopw [6, 12] (fun ov kv wj => kv = .int .i64 (wrap64 (sb - 1)) ∧ Hid (Two w wj ov L u7 T i)) (fun _ _ _ => 0)
              case atStart => exact ⟨rfl, HT3⟩
              case round =>
                rename World => wj
                clear HT3
                obtain ⟨rfl, HT3⟩ := hrel
                go_wp2_with (with_reducible refine stop_at (o := ⟨some 198, _, _, _, _, _⟩) ?_)
                refine Lib.hid ?_
                refine list_app2 rfl _ _ _ rfl w.heap.size 4 i0 _ 1 Try.underlying22 hi0 hz0 hz1 hz2 rfl _ i (bv T) rfl (HT3.out.up (bal (brf _) _)).tk _ _ [.bool false] rfl (Rd.one (by simp) _ _) (fun u hu => by simp at hu; subst hu; rfl) (by simp only [List.length_singleton]; unfold maxLen; omega) (by simp only [List.length_singleton]; omega) (by have := HT3.out.below.size; (try simp at this); simp; omega) ?_
                intro v1 w4 ho1 hg1 hl1
                have HT4 : Hid (Two w w4 u6 (bitsK l st (i + 1)) v1 (tookK l st (i + 1)) (i + 1)) := Lib.hid (by
                  rw [HBK.out, HTK.out, HE.out]
                  exact (HT3.out.up (bal (brf _) _)).appT ho1 hg1 hl1)
                clear ho1 hg1 hl1 HT3 HBK HTK HE
                go_wp2
                go_roundw
                case rel => exact ⟨i + 1, by omega, by go_num, HT4⟩
                case measure => simp [intOf]; omega
            · go_wp2_with fail
              go_loopw [6, 12] (fun ov kv wj => kv = .int .i64 (wrap64 (sb - 1)) ∧ Hid (Two w wj ov L u7 T i)) (fun _ _ _ => 0)
              case atStart => exact ⟨rfl, HT3⟩
              case round =>
                rename World => wj
                clear HT3
                obtain ⟨rfl, HT3⟩ := hrel
                go_wp2_with (with_reducible refine stop_at (o := ⟨some 198, _, _, _, _, _⟩) ?_)
                refine Lib.hid ?_
                refine list_app2 rfl _ _ _ rfl w.heap.size 4 i0 _ 1 Try.underlying22 hi0 hz0 hz1 hz2 rfl _ i (bv T) rfl (HT3.out.up (bal (brf _) _)).tk _ _ [.bool false] rfl (Rd.one (by simp) _ _) (fun u hu => by simp at hu; subst hu; rfl) (by simp only [List.length_singleton]; unfold maxLen; omega) (by simp only [List.length_singleton]; omega) (by have := HT3.out.below.size; (try simp at this); simp; omega) ?_
                intro v1 w4 ho1 hg1 hl1
                have HT4 : Hid (Two w w4 u6 (bitsK l st (i + 1)) v1 (tookK l st (i + 1)) (i + 1)) := Lib.hid (by
                  rw [HBK.out, HTK.out, HE.out]
                  exact (HT3.out.up (bal (brf _) _)).appT ho1 hg1 hl1)
                clear ho1 hg1 hl1 HT3 HBK HTK HE
                go_wp2
                go_roundw
                case rel => exact ⟨i + 1, by omega, by go_num, HT4⟩
                case measure => simp [intOf]; omega
          · clear hc
            by_cases hw : 0 ≤ wrap64 (sb - 1)
            · go_wp2_with fail
              go_loopw [6, 12] (fun ov kv wj => kv = .int .i64 (wrap64 (sb - 1)) ∧ Hid (Two w wj ov L u7 T i)) (fun _ _ _ => 0)
              case atStart => exact ⟨rfl, HT3⟩
              case round =>
                rename World => wj
                clear HT3
                obtain ⟨rfl, HT3⟩ := hrel
                go_wp2_with (with_reducible refine stop_at (o := ⟨some 198, _, _, _, _, _⟩) ?_)
                refine Lib.hid ?_
                refine list_app2 rfl _ _ _ rfl w.heap.size 4 i0 _ 1 Try.underlying22 hi0 hz0 hz1 hz2 rfl _ i (bv T) rfl (HT3.out.up (bal (brf _) _)).tk _ _ [.bool false] rfl (Rd.one (by simp) _ _) (fun u hu => by simp at hu; subst hu; rfl) (by simp only [List.length_singleton]; unfold maxLen; omega) (by simp only [List.length_singleton]; omega) (by have := HT3.out.below.size; (try simp at this); simp; omega) ?_
                intro v1 w4 ho1 hg1 hl1
                have HT4 : Hid (Two w w4 u6 (bitsK l st (i + 1)) v1 (tookK l st (i + 1)) (i + 1)) := Lib.hid (by
                  rw [HBK.out, HTK.out, HE.out]
                  exact (HT3.out.up (bal (brf _) _)).appT ho1 hg1 hl1)
                clear ho1 hg1 hl1 HT3 HBK HTK HE
                go_wp2
                go_roundw
                case rel => exact ⟨i + 1, by omega, by go_num, HT4⟩
                case measure => simp [intOf]; omega
            · go_wp2_with fail
              go_loopw [6, 12] (fun ov kv wj => kv = .int .i64 (wrap64 (sb - 1)) ∧ Hid (Two w wj ov L u7 T i)) (fun _ _ _ => 0)
              case atStart => exact ⟨rfl, HT3⟩
              case round =>
                rename World => wj
                clear HT3
                obtain ⟨rfl, HT3⟩ := hrel
                go_wp2_with (with_reducible refine stop_at (o := ⟨some 198, _, _, _, _, _⟩) ?_)
                refine Lib.hid ?_
                refine list_app2 rfl _ _ _ rfl w.heap.size 4 i0 _ 1 Try.underlying22 hi0 hz0 hz1 hz2 rfl _ i (bv T) rfl (HT3.out.up (bal (brf _) _)).tk _ _ [.bool false] rfl (Rd.one (by simp) _ _) (fun u hu => by simp at hu; subst hu; rfl) (by simp only [List.length_singleton]; unfold maxLen; omega) (by simp only [List.length_singleton]; omega) (by have := HT3.out.below.size; (try simp at this); simp; omega) ?_
                intro v1 w4 ho1 hg1 hl1
                have HT4 : Hid (Two w w4 u6 (bitsK l st (i + 1)) v1 (tookK l st (i + 1)) (i + 1)) := Lib.hid (by
                  rw [HBK.out, HTK.out, HE.out]
                  exact (HT3.out.up (bal (brf _) _)).appT ho1 hg1 hl1)
                clear ho1 hg1 hl1 HT3 HBK HTK HE
                go_wp2
                go_roundw
                case rel => exact ⟨i + 1, by omega, by go_num, HT4⟩
                case measure => simp [intOf]; omega
      · as_aux_lemma =>
        have HZ := Lib.hid (bal (brf wr) (.cells #[.int .i64 7, .int .i64 sa, .int .i64 sb, .slice A' bl.length c'] 32))
        have hshort := HK0.out.short rfl
        dsimp only at hshort
        have HE : Hid (resS L ⟨7, sa, sb, bl⟩ = (L ++ bl, true)) := Lib.hid (by unfold resS; simp)
        have HT2 := Lib.hid (HT.out.up HZ.out)
        have HUr : Hid (Rd (wr.alloc (.cells #[.int .i64 7, .int .i64 sa, .int .i64 sb, .slice A' bl.length c'] 32)) w.heap.size (.slice A' bl.length c') (bv bl)) := Lib.hid (HURd.out.below (HZ.out.mono HT.out.below.size))
        clear HT
        go_wp2_with (with_reducible refine stop_at (o := ⟨some 131, _, _, _, _, _⟩) ?_)
        refine Lib.hid ?_
        refine list_app2 rfl _ _ _ rfl w.heap.size 4 i0 _ 1 Try.underlying22 hi0 hz0 hz1 hz2 rfl _ L.length (bv L) rfl HT2.out.out _ _ (bv bl) rfl HUr.out (bv_one _) (by rw [bv_len]; unfold maxLen; omega) (by rw [bv_len]; omega) HT2.out.below.size ?_
        intro ov2 w5 ho5 hg5 hl5
        have HT3 := Lib.hid (HT2.out.appO ho5 hg5 hl5)
        clear ho5 hg5 hl5 HT2 HUr
        go_wp2_with (with_reducible refine stop_at (o := ⟨some 198, _, _, _, _, _⟩) ?_)
        refine Lib.hid ?_
        refine list_app2 rfl _ _ _ rfl w.heap.size 4 i0 _ 1 Try.underlying22 hi0 hz0 hz1 hz2 rfl _ i (bv T) rfl (HT3.out.up (bal (brf _) _)).tk _ _ [.bool true] rfl (Rd.one (by simp) _ _) (fun u hu => by simp at hu; subst hu; rfl) (by simp only [List.length_singleton]; unfold maxLen; omega) (by simp only [List.length_singleton]; omega) (by have := HT3.out.below.size; (try simp at this); simp; omega) ?_
        intro v1 w4 ho1 hg1 hl1
        have HT4 : Hid (Two w w4 ov2 (bitsK l st (i + 1)) v1 (tookK l st (i + 1)) (i + 1)) := Lib.hid (by
          rw [HBK.out, HTK.out, HE.out]
          exact (HT3.out.up (bal (brf _) _)).appT ho1 hg1 hl1)
        clear ho1 hg1 hl1 HT3 HBK HTK HE
        go_wp2
        go_roundw
        case rel => exact ⟨i + 1, by omega, by go_num, HT4⟩
        case measure => simp [intOf]; omega
      · as_aux_lemma =>
        have HZ := Lib.hid (bal (brf wr) (.cells #[.int .i64 8, .int .i64 sa, .int .i64 sb, .slice A' bl.length c'] 32))
        have HT2 := Lib.hid (HT.out.up HZ.out)
        have HRX : Hid (∀ r, A1 = some ⟨r, 0, none⟩ → r < wr.heap.size) := Lib.hid (fun r hr => own_lt HT.out.out (by rw [hr]; rfl))
        clear HT
        by_cases hc : bl.length = L.length
        · have HE : Hid (resS L ⟨8, sa, sb, bl⟩ = (xorL L bl, true)) := Lib.hid (by
            unfold resS; dsimp only; rw [if_neg (by decide), if_neg (by decide), if_neg (by decide), if_neg (by decide), if_neg (by decide), if_neg (by decide), if_neg (by decide), if_pos rfl, if_pos hc])
          have HX0 : Hid (Two w (wr.alloc (.cells #[.int .i64 8, .int .i64 sa, .int .i64 sb, .slice A' bl.length c'] 32)) (.slice A1 L.length cap1) (xorP L bl 0) u7 T i) := Lib.hid (by rw [xorP_zero]; exact HT2.out)
          have HXB : Hid (Blk (wr.alloc (.cells #[.int .i64 8, .int .i64 sa, .int .i64 sb, .slice A' bl.length c'] 32)) wr.heap.size 32 #[.int .i64 8, .int .i64 sa, .int .i64 sb, .slice A' bl.length c']) := Lib.hid (Blk.fresh wr _ _)
          have heq : ((bl.length : Int) == (L.length : Int)) = true := by simp; omega
          have HC := Lib.hid hc
          clear HT2 hc
          go_wp2_with fail
          clear heq
          go_loopw [13] (fun kv wj => ∃ k : Nat, k ≤ L.length ∧ kv = .int .i64 k ∧ Hid (Two w wj (.slice A1 L.length cap1) (xorP L bl k) u7 T i) ∧ Hid (Blk wj wr.heap.size 32 #[.int .i64 8, .int .i64 sa, .int .i64 sb, .slice A' bl.length c'])) (fun kv _ => L.length - (intOf kv).toNat)
          case atStart => exact ⟨0, Nat.zero_le _, rfl, HX0, HXB⟩
          case round =>
            rename World => wj
            clear HX0 HXB
            obtain ⟨k, hk, rfl, HX, HXB⟩ := hrel
            by_cases hkl : k < L.length
            · have hkx : k < (xorP L bl k).length := by rw [xorP_len]; exact hkl
              obtain ⟨r, cp, hov, p1, p2, p3, p4, p5⟩ := HX.out.at_ (by omega)
              injection hov with hov1 hov3 hov2
              subst hov1 hov2
              have hrX := HRX.out r rfl
              have hkb : k < bl.length := by rw [HC.out]; exact hkl
              obtain ⟨bb, ob, ub, rfl, hbb, hxs, hcb0⟩ := HUR0.out.at_ hkb
              have hcb := (below_cells HX.out.below bb (ob + k) hbb).trans hcb0
              rw [bv_at bl k hkb] at hxs
              injection hxs with hxs
              have hgd : bl.getD k false = bl[k] := by rw [List.getD, List.getElem?_eq_getElem hkb]; rfl
              rw [← hxs, ← hgd] at hcb
              have c5 := (p4 k hkx).1
              have f5 := (p4 k hkx).2
              have hxk : (xorP L bl k).getD k false = L.getD k false := by rw [xorP, tabB_getD _ _ _ hkl, if_neg (Nat.lt_irrefl _)]
              rw [hxk] at c5
              have HX2 : Hid (Two w (wj.setCell ⟨r, k, none⟩ (.bool (L.getD k false != bl.getD k false))).drew (.slice (some ⟨r, 0, none⟩) L.length cap1) (xorP L bl (k + 1)) u7 T i) := Lib.hid (by
                rw [← xorP_set L bl k hkl]; exact (p5 k _ hkx).up (bdr (brf _)))
              have HXB2 : Hid (Blk (wj.setCell ⟨r, k, none⟩ (.bool (L.getD k false != bl.getD k false))).drew wr.heap.size 32 #[.int .i64 8, .int .i64 sa, .int .i64 sb, .slice (some ⟨bb, ob, none⟩) bl.length c']) := Lib.hid (HXB.out.far (p := ⟨r, k, none⟩) (by simp; omega) _).drew
              have c3 : wj.cell? ⟨wr.heap.size, 3, none⟩ = some (.slice (some ⟨bb, ob, none⟩) bl.length c') := by rw [HXB.out.cell]; rfl
              clear p4 p5 HX HXB hkx hxk hgd hxs hcb0 hov3
              generalize L.getD k false = x at *
              generalize bl.getD k false = y at *
              go_wp2_with fail
              refine Can.wp_region_can (fun w' => w'.cell? ⟨r, k, none⟩ = some (.bool x) ∧ w'.cell? ⟨wr.heap.size, 3, none⟩ = some (.slice (some ⟨bb, ob, none⟩) bl.length c') ∧ w'.cell? ⟨bb, ob + k, none⟩ = some (.bool y) ∧ w'.frozen? ⟨r, k, none⟩ = false) 13 [0, 1, 2, 3, 4, 5, 6, 7, 8, 9, 10, 11, 12, 13] (by kernel_rfl) (by kernel_rfl) (fun _ _ d _ _ h => by cases d <;> exact h) ⟨c5, c3, hcb, f5⟩ (fun hHeld => ?_)
              repeat (refine Can.can_pure (v := ?_) rfl rfl (Or.inl ⟨by rfl, ?_⟩) ?_; rotate_left; (focus ((intro w hSw); (try dsimp only at hSw); go_simp; (try with_reducible rfl))); (try simp only [Act.put, List.getElem_toArray, List.getElem_cons_succ, List.getElem_cons_zero, List.setIfInBounds_toArray, List.set_cons_zero, List.set_cons_succ]))
              have g0 := hHeld.2.2.2
              have g1' := hHeld.1
              refine Can.can_tail rfl rfl (by rfl) (fun K hK => ?_)
              go_simp
              refine hK.out _ _ ?_
              clear hK K
              clear hHeld g0 g1' c5 c3 hcb f5
              go_wp2_with fail
              go_roundw
              case rel => exact ⟨k + 1, by omega, by go_num, HX2, HXB2⟩
              case measure => simp [intOf]; omega
            · obtain rfl : k = L.length := by omega
              have HT3 : Hid (Two w wj (.slice A1 L.length cap1) (xorL L bl) u7 T i) := Lib.hid (by rw [← xorP_end]; exact HX.out)
              clear HX HXB
              go_wp2_with (with_reducible refine stop_at (o := ⟨some 198, _, _, _, _, _⟩) ?_)
              refine Lib.hid ?_
              refine list_app2 rfl _ _ _ rfl w.heap.size 4 i0 _ 1 Try.underlying22 hi0 hz0 hz1 hz2 rfl _ i (bv T) rfl (HT3.out.up (bal (brf _) _)).tk _ _ [.bool true] rfl (Rd.one (by simp) _ _) (fun u hu => by simp at hu; subst hu; rfl) (by simp only [List.length_singleton]; unfold maxLen; omega) (by simp only [List.length_singleton]; omega) (by have := HT3.out.below.size; (try simp at this); simp; omega) ?_
              intro v1 w4 ho1 hg1 hl1
              have HT4 : Hid (Two w w4 (.slice A1 L.length cap1) (bitsK l st (i + 1)) v1 (tookK l st (i + 1)) (i + 1)) := Lib.hid (by
                rw [HBK.out, HTK.out, HE.out]
                exact (HT3.out.up (bal (brf _) _)).appT ho1 hg1 hl1)
              clear ho1 hg1 hl1 HT3 HBK HTK HE
              go_wp2
              go_roundw
              case rel => exact ⟨i + 1, by omega, by go_num, HT4⟩
              case measure => simp [intOf]; omega
        · have HE : Hid (resS L ⟨8, sa, sb, bl⟩ = (L, false)) := Lib.hid (by
            unfold resS; dsimp only; rw [if_neg (by decide), if_neg (by decide), if_neg (by decide), if_neg (by decide), if_neg (by decide), if_neg (by decide), if_neg (by decide), if_pos rfl, if_neg hc])
          have heq : ((bl.length : Int) == (L.length : Int)) = false := by simp; omega
          have HT3 := HT2
          clear HT2 hc
          by_cases h0 : 0 < L.length
          · go_wp2_with fail
            go_loopw [13] (fun kv wj => kv = .int .i64 0 ∧ Hid (Two w wj (.slice A1 L.length cap1) L u7 T i)) (fun _ _ => 0)
            case atStart => exact ⟨rfl, HT3⟩
            case round =>
              rename World => wj
              clear HT3
              obtain ⟨rfl, HT3⟩ := hrel
              go_wp2_with (with_reducible refine stop_at (o := ⟨some 198, _, _, _, _, _⟩) ?_)
              refine Lib.hid ?_
              refine list_app2 rfl _ _ _ rfl w.heap.size 4 i0 _ 1 Try.underlying22 hi0 hz0 hz1 hz2 rfl _ i (bv T) rfl (HT3.out.up (bal (brf _) _)).tk _ _ [.bool false] rfl (Rd.one (by simp) _ _) (fun u hu => by simp at hu; subst hu; rfl) (by simp only [List.length_singleton]; unfold maxLen; omega) (by simp only [List.length_singleton]; omega) (by have := HT3.out.below.size; (try simp at this); simp; omega) ?_
              intro v1 w4 ho1 hg1 hl1
              have HT4 : Hid (Two w w4 (.slice A1 L.length cap1) (bitsK l st (i + 1)) v1 (tookK l st (i + 1)) (i + 1)) := Lib.hid (by
                rw [HBK.out, HTK.out, HE.out]
                exact (HT3.out.up (bal (brf _) _)).appT ho1 hg1 hl1)
              clear ho1 hg1 hl1 HT3 HBK HTK HE
              go_wp2
              go_roundw
              case rel => exact ⟨i + 1, by omega, by go_num, HT4⟩
              case measure => simp [intOf]; omega
          · go_wp2_with fail
            go_loopw [13] (fun kv wj => kv = .int .i64 0 ∧ Hid (Two w wj (.slice A1 L.length cap1) L u7 T i)) (fun _ _ => 0)
            case atStart => exact ⟨rfl, HT3⟩
            case round =>
              rename World => wj
              clear HT3
              obtain ⟨rfl, HT3⟩ := hrel
              go_wp2_with (with_reducible refine stop_at (o := ⟨some 198, _, _, _, _, _⟩) ?_)
              refine Lib.hid ?_
              refine list_app2 rfl _ _ _ rfl w.heap.size 4 i0 _ 1 Try.underlying22 hi0 hz0 hz1 hz2 rfl _ i (bv T) rfl (HT3.out.up (bal (brf _) _)).tk _ _ [.bool false] rfl (Rd.one (by simp) _ _) (fun u hu => by simp at hu; subst hu; rfl) (by simp only [List.length_singleton]; unfold maxLen; omega) (by simp only [List.length_singleton]; omega) (by have := HT3.out.below.size; (try simp at this); simp; omega) ?_
              intro v1 w4 ho1 hg1 hl1
              have HT4 : Hid (Two w w4 (.slice A1 L.length cap1) (bitsK l st (i + 1)) v1 (tookK l st (i + 1)) (i + 1)) := Lib.hid (by
                rw [HBK.out, HTK.out, HE.out]
                exact (HT3.out.up (bal (brf _) _)).appT ho1 hg1 hl1)
              clear ho1 hg1 hl1 HT3 HBK HTK HE
              go_wp2
              go_roundw
              case rel => exact ⟨i + 1, by omega, by go_num, HT4⟩
              case measure => simp [intOf]; omega
      · as_aux_lemma =>
        have HZ := Lib.hid (bal (brf wr) (.cells #[.int .i64 9, .int .i64 sa, .int .i64 sb, .slice A' bl.length c'] 32))
        have hL1 := HK0.out.some_ rfl
        have HE : Hid (resS L ⟨9, sa, sb, bl⟩ = (L.reverse, true)) := Lib.hid (by unfold resS; simp)
        have HX0 : Hid (Two w (wr.alloc (.cells #[.int .i64 9, .int .i64 sa, .int .i64 sb, .slice A' bl.length c'] 32)) (.slice A1 L.length cap1) (revP L 0) u7 T i) := Lib.hid (by rw [revP_zero]; exact HT.out.up HZ.out)
        clear HT
        go_wp2_with fail
        go_loopw [14] (fun kv wj => ∃ k : Nat, k ≤ L.length / 2 ∧ kv = .int .i64 k ∧ Hid (Two w wj (.slice A1 L.length cap1) (revP L k) u7 T i)) (fun kv _ => L.length / 2 - (intOf kv).toNat)
        case atStart => exact ⟨0, Nat.zero_le _, rfl, HX0⟩
        case round =>
          rename World => wj
          clear HX0
          obtain ⟨k, hk, rfl, HX⟩ := hrel
          by_cases hkl : k < L.length / 2
          · obtain ⟨r, cp, hov, p1, p2, p3, p4, p5⟩ := (HX.out.up (bdr (brf wj))).at_ (by rw [revP_len]; omega)
            injection hov with hov1 hov3 hov2
            subst hov1 hov2
            rw [revP_len] at p4 p5
            obtain ⟨j, hj⟩ : ∃ j, j = L.length - 1 - k := ⟨_, rfl⟩
            have hjl : j < L.length := by omega
            have hkL : k < L.length := by omega
            have hjk : j ≠ k := by omega
            have hcv := revP_at L k k hkL (by omega)
            have hcj := revP_at L k j hjl (by omega)
            have c5 := (p4 k hkL).1
            have c6 := (p4 j hjl).1
            have f5 := (p4 k hkL).2
            have f6 := (p4 j hjl).2
            rw [hcv] at c5
            rw [hcj] at c6
            have h2 := p5 k (L.getD j false) hkL
            obtain ⟨r', cp', hov', p1', p2', p3', p4', p5'⟩ := h2.at_ (by rw [List.length_set, revP_len]; omega)
            injection hov' with hov1' hov3' hov2'
            injection hov1' with hov1'
            injection hov1' with hov1' _ _
            subst hov1' hov2'
            have h3 := p5' j (L.getD k false) (by rw [List.length_set, revP_len]; exact hjl)
            have hrs := revP_set L k hkl
            rw [← hj] at hrs
            rw [hrs] at h3
            have HX2 := Lib.hid h3
            have f5w : wj.frozen? ⟨r, k, none⟩ = false := f5
            have f6w : wj.frozen? ⟨r, j, none⟩ = false := f6
            have c5w : wj.cell? ⟨r, k, none⟩ = some (.bool (L.getD k false)) := c5
            have c6w : wj.cell? ⟨r, j, none⟩ = some (.bool (L.getD j false)) := c6
            have f7 : (World.setCell wj.drew ⟨r, k, none⟩ (.bool (L.getD j false))).frozen? ⟨r, j, none⟩ = false := (p4' j (by rw [List.length_set, revP_len]; exact hjl)).2
            obtain ⟨n1, hn1⟩ : ∃ n1 : Nat, (L.length : Int) - 1 = (n1 : Int) := ⟨L.length - 1, by omega⟩
            have hn2 : (n1 : Int) - (k : Int) = (j : Int) := by omega
            have hdv : ((k : Int)) < (L.length : Int) / 2 := by omega
            have w1 : IntKind.i64.wrap (n1 : Int) = (n1 : Int) := by rw [IntKind.wrap_i64]; omega
            have w2 : IntKind.i64.wrap (j : Int) = (j : Int) := by rw [IntKind.wrap_i64]; omega
            clear p4 p5 p4' p5' HX hov3 hov3' hrs h2 h3 hcv hcj hj c5 c6 f5 f6 f7
            generalize L.getD k false = x at *
            generalize L.getD j false = y at *
            go_wp2_with fail
            refine Can.wp_region_can (fun w' => w'.cell? ⟨r, k, none⟩ = some (.bool x) ∧ w'.cell? ⟨r, j, none⟩ = some (.bool y)) 999 [0, 1, 2, 3, 4, 5, 6, 7, 8, 9, 10, 11, 12, 13] (by kernel_rfl) (by kernel_rfl) (fun _ _ d _ _ h => by cases d <;> exact h) ⟨c5w, c6w⟩ (fun hHeld => ?_)
            repeat (refine Can.can_pure (v := ?_) rfl rfl (Or.inl ⟨by rfl, ?_⟩) ?_; rotate_left; (focus ((intro w hSw); (try dsimp only at hSw); go_simp; (try with_reducible rfl))); (try simp only [Act.put, List.getElem_toArray, List.getElem_cons_succ, List.getElem_cons_zero, List.setIfInBounds_toArray, List.set_cons_zero, List.set_cons_succ]))
            refine Can.can_done ?_
            clear hHeld w1 w2
            go_wp2_with fail
            go_roundw
            case rel => exact ⟨k + 1, by omega, by go_num, HX2⟩
            case measure => simp [intOf]; omega
          · obtain rfl : k = L.length / 2 := by omega
            have HT3 : Hid (Two w wj (.slice A1 L.length cap1) L.reverse u7 T i) := Lib.hid (by rw [← revP_end]; exact HX.out)
            have hdv : ¬ ((L.length / 2 : Nat) : Int) < (L.length : Int) / 2 := by omega
            clear HX
            go_wp2_with (with_reducible refine stop_at (o := ⟨some 198, _, _, _, _, _⟩) ?_)
            refine Lib.hid ?_
            refine list_app2 rfl _ _ _ rfl w.heap.size 4 i0 _ 1 Try.underlying22 hi0 hz0 hz1 hz2 rfl _ i (bv T) rfl (HT3.out.up (bal (brf _) _)).tk _ _ [.bool true] rfl (Rd.one (by simp) _ _) (fun u hu => by simp at hu; subst hu; rfl) (by simp only [List.length_singleton]; unfold maxLen; omega) (by simp only [List.length_singleton]; omega) (by have := HT3.out.below.size; (try simp at this); simp; omega) ?_
            intro v1 w4 ho1 hg1 hl1
            have HT4 : Hid (Two w w4 (.slice A1 L.length cap1) (bitsK l st (i + 1)) v1 (tookK l st (i + 1)) (i + 1)) := Lib.hid (by
              rw [HBK.out, HTK.out, HE.out]
              exact (HT3.out.up (bal (brf _) _)).appT ho1 hg1 hl1)
            clear ho1 hg1 hl1 HT3 HBK HTK HE
            go_wp2
            go_roundw
            case rel => exact ⟨i + 1, by omega, by go_num, HT4⟩
            case measure => simp [intOf]; omega
    · obtain rfl : i = st.length := by omega
      obtain ⟨L, hL0⟩ : ∃ L, L = bitsK l st st.length := ⟨_, rfl⟩
      obtain ⟨T, hT0⟩ : ∃ T, T = tookK l st st.length := ⟨_, rfl⟩
      rw [← hL0, ← hT0] at HT
      have HL0 := Lib.hid hL0
      have HT0 := Lib.hid hT0
      clear hL0 hT0
      go_wp2_with fail
      go_returns
      exact ⟨_, _, rfl, by rw [← HL0.out]; exact Rd.of_own HT.out.out, by rw [← HT0.out]; exact Rd.of_own HT.out.tk, HT.out.below⟩
end Go.Proofs.Ytjhfebhefclenaa
