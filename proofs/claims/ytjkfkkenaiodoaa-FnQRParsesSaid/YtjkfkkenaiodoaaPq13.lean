/-
  WALKS: impl.decoded, impl.QRParse.
-/
import Derived.Test.YtjkfkkenaiodoaaPq12
import Derived.Test.YtjkfkkenaiodoaaVv
import Derived.Great.BuildSlice
namespace Go.Proofs.Ytjkfkkenaiodoaa
open Go.RowKit

/-- Values that are slices of bytes. -/
def TsL (w : World) (us : List Value) (ts : List (List UInt8)) : Prop := us.length = ts.length ∧ ∀ (i : Nat) (u : Value) (t : List UInt8), us[i]? = some u → ts[i]? = some t → RdT w 5 u (bl t)
theorem TsL.nil_ (w : World) : TsL w [] [] := ⟨rfl, fun i u t h => by simp at h⟩
theorem TsL.of_bg {w : World} {us : List Value} {ts : List (List UInt8)} {v : Value} (h : BgL w us ts v) : TsL w us ts :=
  ⟨h.1, fun i u t hu ht => by
    obtain ⟨g, rfl, hm, hb, _⟩ := h.2 i u t hu ht
    exact RdT.of_blk hb (by rw [bl_len]) (by rw [bl_len]; exact Nat.le_refl _) hm⟩
theorem TsL.up {w w' : World} {us : List Value} {ts : List (List UInt8)} (h : TsL w us ts) (hb : Below w.heap.size w w') : TsL w' us ts := ⟨h.1, fun i u t hu ht => (h.2 i u t hu ht).up hb⟩
theorem TsL.snoc {w : World} {us : List Value} {ts : List (List UInt8)} (h : TsL w us ts) {u : Value} {t : List UInt8} (hu : RdT w 5 u (bl t)) : TsL w (us ++ [u]) (ts ++ [t]) := by
  refine ⟨by simp [h.1], fun i u' t' hu' ht' => ?_⟩
  by_cases hlt : i < us.length
  · rw [List.getElem?_append_left hlt] at hu'
    rw [List.getElem?_append_left (by rw [← h.1]; exact hlt)] at ht'
    exact h.2 i u' t' hu' ht'
  · have hi2 : i < (us ++ [u]).length := (List.getElem?_eq_some_iff.1 hu').1
    have hie : i = us.length := by simp at hi2; omega
    subst hie
    rw [List.getElem?_append_right (Nat.le_refl _), Nat.sub_self] at hu'
    rw [h.1, List.getElem?_append_right (Nat.le_refl _), Nat.sub_self] at ht'
    simp at hu' ht'
    subst hu' ht'
    exact hu
theorem TsL.grown {w w' : World} {us xs : List Value} {ts : List (List UInt8)} {base size n : Nat} {e : TypeId} {v : Value} (h : TsL w us ts) (ho : w.ownsRow base e size v n xs) (he : 5 ≠ e) (hg : w.grownBy w' v.ownBlock) : TsL w' us ts :=
  ⟨h.1, fun i u t hu ht => (h.2 i u t hu ht).grown hg (own_typeS ho he)⟩
/-- A slice of slices of bytes: what it reads as. -/
def RdBB (w : World) (v : Value) (ts : List (List UInt8)) : Prop := ∃ us, RdT w 22 v us ∧ TsL w us ts
theorem RdBB.up {w w' : World} {v : Value} {ts : List (List UInt8)} (h : RdBB w v ts) (hb : Below w.heap.size w w') : RdBB w' v ts := by
  obtain ⟨us, h1, h2⟩ := h
  exact ⟨us, h1.up hb, h2.up hb⟩
theorem RdBB.onl {w w' : World} {v : Value} {ts : List (List UInt8)} {p : Nat} {t : TypeId} {cs : Array Value} (h : RdBB w v ts) (k : Onl p w w') (hp : Blk w p t cs) (h1 : t ≠ 5) (h2 : t ≠ 22) : RdBB w' v ts := by
  obtain ⟨us, k1, k2⟩ := h
  exact ⟨us, k1.onl k hp h2, k2.1, fun i u t hu ht => (k2.2 i u t hu ht).onl k hp h1⟩
theorem RdBB.of_own {w : World} {base m : Nat} {v : Value} {us : List Value} {ts : List (List UInt8)} (h : w.ownsRow base 22 1 v m us) (ht : TsL w us ts) : RdBB w v ts := ⟨us, RdT.of_own h, ht⟩
theorem RdBB.cells {w : World} {v : Value} {ts : List (List UInt8)} (h : RdBB w v ts) : ∃ A cap, v = .slice A ts.length cap ∧ ts.length ≤ cap ∧ cap ≤ maxLen ∧ (0 < ts.length → ∃ b o, A = some ⟨b, o, none⟩ ∧ b < w.heap.size ∧ ∀ i t, ts[i]? = some t → ∃ u, w.cell? ⟨b, o + i, none⟩ = some u ∧ RdT w 5 u (bl t)) := by
  obtain ⟨us, hr, ht⟩ := h
  obtain ⟨A, cap, hv, h1, h2, h3⟩ := hr.rd
  refine ⟨A, cap, by rw [hv, ht.1], by rw [← ht.1]; exact h1, h2, fun hp => ?_⟩
  obtain ⟨b, o, hA, hlt, hc⟩ := h3 (by rw [ht.1]; exact hp)
  refine ⟨b, o, hA, hlt, fun i t hi => ?_⟩
  have hil : i < us.length := by rw [ht.1]; exact (List.getElem?_eq_some_iff.1 hi).1
  exact ⟨us[i], hc i _ (List.getElem?_eq_getElem hil), ht.2 i _ t (List.getElem?_eq_getElem hil) hi⟩
/-- A row is written anew. -/
theorem Onl.row (w : World) (g : Nat) (cs : Array Value) : Onl g w (w.setRow g cs) := ⟨fun b _ hb => setRow_other w g b cs hb, by simp, fun B w0 hb hB _ => below_setRow hb hB _⟩
theorem getText_any (g : Nat) (v : Value) (w : World) (h : w.cell? ⟨g, 2, none⟩ = some v) : Calls Try.prog 24 #[.pointer (some ⟨g, 0, none⟩)] w fun e w' => e = .returned v ∧ w' = w := by
  go_enter Try.func24, Try.ntmps24
  go_wp2
  go_ret
  exact ⟨rfl, rfl⟩
theorem getRawBytes_any (g : Nat) (v : Value) (w : World) (h : w.cell? ⟨g, 0, none⟩ = some v) : Calls Try.prog 25 #[.pointer (some ⟨g, 0, none⟩)] w fun e w' => e = .returned v ∧ w' = w := by
  go_enter Try.func25, Try.ntmps25
  go_wp2
  go_ret
  exact ⟨rfl, rfl⟩
theorem getByteSegments_any (g : Nat) (v : Value) (w : World) (h : w.cell? ⟨g, 3, none⟩ = some v) : Calls Try.prog 23 #[.pointer (some ⟨g, 0, none⟩)] w fun e w' => e = .returned v ∧ w' = w := by
  go_enter Try.func23, Try.ntmps23
  go_wp2
  go_ret
  exact ⟨rfl, rfl⟩
theorem getECLevel_any (g : Nat) (v : Value) (w : World) (h : w.cell? ⟨g, 4, none⟩ = some v) : Calls Try.prog 26 #[.pointer (some ⟨g, 0, none⟩)] w fun e w' => e = .returned v ∧ w' = w := by
  go_enter Try.func26, Try.ntmps26
  go_wp2
  go_ret
  exact ⟨rfl, rfl⟩
theorem getErrorsCorrected_any (g : Nat) (v : Value) (w : World) (h : w.cell? ⟨g, 5, none⟩ = some v) : Calls Try.prog 27 #[.pointer (some ⟨g, 0, none⟩)] w fun e w' => e = .returned v ∧ w' = w := by
  go_enter Try.func27, Try.ntmps27
  go_wp2
  go_ret
  exact ⟨rfl, rfl⟩
theorem getStructuredAppendSequenceNumber_any (g : Nat) (v : Value) (w : World) (h : w.cell? ⟨g, 9, none⟩ = some v) : Calls Try.prog 28 #[.pointer (some ⟨g, 0, none⟩)] w fun e w' => e = .returned v ∧ w' = w := by
  go_enter Try.func28, Try.ntmps28
  go_wp2
  go_ret
  exact ⟨rfl, rfl⟩
theorem getStructuredAppendParity_any (g : Nat) (v : Value) (w : World) (h : w.cell? ⟨g, 8, none⟩ = some v) : Calls Try.prog 29 #[.pointer (some ⟨g, 0, none⟩)] w fun e w' => e = .returned v ∧ w' = w := by
  go_enter Try.func29, Try.ntmps29
  go_wp2
  go_ret
  exact ⟨rfl, rfl⟩
theorem getSymbologyModifier_any (g : Nat) (v : Value) (w : World) (h : w.cell? ⟨g, 10, none⟩ = some v) : Calls Try.prog 30 #[.pointer (some ⟨g, 0, none⟩)] w fun e w' => e = .returned v ∧ w' = w := by
  go_enter Try.func30, Try.ntmps30
  go_wp2
  go_ret
  exact ⟨rfl, rfl⟩
theorem cell_back1 {fn : Func} {t1 u : Tmp} {ty : TypeId} (h : fn.results = #[.cell t1 ty, .tmp u]) (tmps : Array Value) (P : Program) (w : World) (g1 : Nat) (h1 : tmps.getD t1 undef = .pointer (some ⟨g1, 0, none⟩)) (c1 : Array Value) (x : Value) (h2 : tmps.getD u undef = x)
    (l1 : (loadVar ty ⟨g1, 0, none⟩).run P w = .ok (.agg c1) w) : (results fn tmps).run P w = .ok (.tuple #[.agg c1, x]) w := by
  rw [Array.getD_eq_getD_getElem?] at h1 h2
  simp [results, h, h1, h2, asAddr, l1]
theorem TsL.take_snoc {w : World} {us : List Value} {ts : List (List UInt8)} {i : Nat} {t : List UInt8} {u : Value} (h : TsL w us (ts.take i)) (ht : ts[i]? = some t) (hu : RdT w 5 u (bl t)) : TsL w (us ++ [u]) (ts.take (i + 1)) := by
  have e : ts.take (i + 1) = ts.take i ++ [t] := by
    have hi : i < ts.length := (List.getElem?_eq_some_iff.1 ht).1
    rw [List.take_succ_eq_append_getElem hi]
    congr 2
    rw [List.getElem?_eq_getElem hi] at ht
    exact Option.some.inj ht
  rw [e]
  exact h.snoc hu
/-- The struct of impl. -/
def impC (s : ByteArray) (raw segs : Value) (l : ByteArray) : Value := .agg #[.string s, raw, segs, .string l, .int .i64 0, .int .i64 (-1), .int .i64 (-1), .int .i64 1]
set_option maxRecDepth 100000 in
theorem decoded_yes (A A2 : Option Addr) (n c m c2 g : Nat) (s l : ByteArray) (bs : List Nat) (ts : List (List UInt8)) (w : World) (hg : Blk w g 104 (drC A n c s A2 m c2 l (-1) (-1) 1)) (hd : RdT w 5 (.slice A n c) (wv8 bs)) (hl : bs.length ≤ 2147483647)
    (hs : RdBB w (.slice A2 m c2) ts) (hm : m ≤ 100000000000) (hT : ∀ t ∈ ts, t.length ≤ 100000000000) :
    Calls Try.prog 16 #[.pointer (some ⟨g, 0, none⟩), .nilIface] w fun e w' => Below w.heap.size w w' ∧ ∃ raw segs, e = .returned (.tuple #[impC s raw segs l, .bool true]) ∧ RdT w' 5 raw (wv8 bs) ∧ RdBB w' segs ts := by
  obtain ⟨i0, hi0, hz0, hz1, hz2⟩ := info_parts info_u8P
  obtain ⟨i1, hi1, hy0, hy1, hy2⟩ := info_parts info_bb
  have HGB := Lib.hid hg
  have HD := Lib.hid hd
  have HS := Lib.hid hs
  have c0 : w.cell? ⟨g, 3, none⟩ = some (.slice A2 m c2) := by rw [hg.cell]; rfl
  clear hg hd hs
  go_enter Try.func16, Try.ntmps16
  go_wp2_with fail
  refine (getByteSegments_any g (.slice A2 m c2) _ (by rw [Blk.cell (HGB.out.alloc _)]; rfl)).mono ?_
  rintro e wa ⟨rfl, hwa⟩
  have HBa : Hid (Below w.heap.size w wa) := Lib.hid (by rw [hwa]; exact bal (brf w) _)
  have HZ : Hid (Blk wa w.heap.size 31 #[.string ⟨#[]⟩, .slice none 0 0, .slice none 0 0, .string ⟨#[]⟩, .int .i64 0, .int .i64 0, .int .i64 0, .int .i64 0]) := Lib.hid (by rw [hwa]; exact Blk.fresh w _ _)
  have HSa := Lib.hid (HS.out.up HBa.out)
  have hml : m = ts.length := by
    obtain ⟨A', c', h, -⟩ := HS.out.cells
    injection h
  clear hwa c0 HS
  have HML := Lib.hid hml
  clear hml
  go_wp2_with fail
  go_loopw [6, 15] (fun sv iv wr => ∃ (i : Nat) (us' : List Value), i ≤ m ∧ iv = .int .i64 i ∧ Hid (wr.ownsRow wa.heap.size 22 1 sv i us') ∧ Hid (TsL wr us' (ts.take i)) ∧ Hid (Below wa.heap.size wa wr)) (fun _ iv _ => m - (intOf iv).toNat)
  case atStart => exact ⟨0, [], Nat.zero_le _, rfl, Lib.hid (own_nil _ _ _), Lib.hid (TsL.nil_ _), Lib.hid (brf _)⟩
  case round =>
    obtain ⟨i, us', him, rfl, HO, HT, HB⟩ := hrel
    rename World => wr
    by_cases hlt : i < m
    · obtain ⟨A', c', hv, k1, k2, k3⟩ := (HSa.out.up HB.out).cells
      injection hv with hv1 hv2 hv3
      subst hv1
      obtain ⟨b, o, rfl, hbl, hc⟩ := k3 (by omega)
      have hil : i < ts.length := by omega
      obtain ⟨u, c1, hu⟩ := hc i ts[i] (List.getElem?_eq_getElem hil)
      have hlen := hT _ (List.getElem_mem hil)
      obtain ⟨t, ht⟩ : ∃ t, t = ts[i] := ⟨_, rfl⟩
      rw [← ht] at hu hlen
      have HTI : Hid (ts[i]? = some t) := Lib.hid (by rw [List.getElem?_eq_getElem hil, ht])
      have HU := Lib.hid hu
      clear hc k1 k2 k3 hbl hu ht hil hv2 hv3
      go_wp2_with (with_reducible refine stop_at (o := ⟨some 21, _, _, _, _, _⟩) ?_)
      refine Lib.hid ?_
      refine list_app_rd _ rfl _ _ _ rfl wr.heap.size 5 i0 _ 1 Try.underlying22 hi0 hz0 hz1 hz2 rfl _ 0 [] rfl (own_nil _ _ _) _ _ (bl t) rfl HU.out.rd (bl_one t) (by rw [bl_len]; unfold maxLen; omega) (by rw [bl_len]; omega) (Nat.le_refl _) ?_
      intro v1 w1 ho1 hg1
      rw [List.nil_append, Nat.zero_add] at ho1
      obtain ⟨A1, cp1, hv1, -, -⟩ := (RdT.of_own ho1).rd.form
      obtain ⟨l1, hl1⟩ : ∃ x, x = (bl t).length := ⟨_, rfl⟩
      rw [← hl1] at hv1
      subst hv1
      have HT1 := Lib.hid (TsL.take_snoc (HT.out.grown (own_nil wr 0 22) (by decide) hg1) HTI.out (RdT.of_own ho1))
      have HO1 := Lib.hid (own_grown HO.out hg1 (fun b hb he => absurd (show (none : Option Nat) = some b from he) (by simp)))
      have HB1 : Hid (Below wa.heap.size wa w1) := Lib.hid (below_grown HB.out hg1 (own_nil _ _ 5) HB.out.size)
      clear ho1 hg1 hl1 HU HT HO HB
      go_wp2_with (with_reducible refine stop_at (o := ⟨some 23, _, _, _, _, _⟩) ?_)
      refine Lib.hid ?_
      have hob := own_up HO1.out (bal (brf w1) (.cells #[.slice A1 l1 cp1] 22))
      refine list_app_rd _ rfl _ _ _ rfl wa.heap.size 22 i1 _ 24 Try.underlying29 hi1 hy0 hy1 hy2 rfl _ i _ rfl hob _ _ [.slice A1 l1 cp1] rfl (Rd.one rfl _ _) (fun u hu => by simp at hu; subst hu; rfl) (by simp only [List.length_singleton]; unfold maxLen; omega) (by simp only [List.length_singleton]; omega) (by have := HB1.out.size; simp; omega) ?_
      intro v2 w2 ho2 hg2
      have HT2 := Lib.hid ((HT1.out.up (bal (brf w1) (.cells #[.slice A1 l1 cp1] 22))).grown hob (by decide) hg2)
      have HB2 : Hid (Below wa.heap.size wa w2) := Lib.hid (below_grown (HB1.out.alloc HB1.out.size _) hg2 hob (by have := HB1.out.size; simp; omega))
      have HO2 := Lib.hid ho2
      clear ho2 hg2 hob HT1 HO1 HB1
      go_wp2_with fail
      go_roundw
      case rel => exact ⟨i + 1, _, hlt, rfl, HO2, HT2, HB2⟩
      case measure => simp [intOf]; omega
    · obtain rfl : i = m := by omega
      have HSG : Hid (RdBB wr u6 ts) := Lib.hid (RdBB.of_own HO.out (by have h := HT.out; rwa [HML.out, List.take_length] at h))
      have HBr := Lib.hid (bup HBa.out HB.out)
      have HGw := Lib.hid (HGB.out.up HBr.out)
      have HDr := Lib.hid (HD.out.up HBr.out)
      have HZr := Lib.hid (HZ.out.up HB.out)
      obtain ⟨A6, c6, hv6, -⟩ := HSG.out.cells
      obtain ⟨l6, hl6⟩ : ∃ x, x = ts.length := ⟨_, rfl⟩
      rw [← hl6] at hv6
      subst hv6
      clear HO HT HB HSa hl6
      have h51 := getText_any g (.string s) wr (by rw [HGw.out.cell]; rfl)
      have h52 := getRawBytes_any g (.slice A n c) wr (by rw [HGw.out.cell]; rfl)
      go_wp2_with fail
      refine h51.mono ?_
      rintro e wr ⟨rfl, rfl⟩
      clear h51
      go_wp2_with fail
      refine h52.mono ?_
      rintro e wr ⟨rfl, rfl⟩
      clear h52
      go_wp2_with (with_reducible refine stop_at (o := ⟨some 29, _, _, _, _, _⟩) ?_)
      refine Lib.hid ?_
      refine list_app_rd _ rfl _ _ _ rfl wr.heap.size 5 i0 _ 1 Try.underlying22 hi0 hz0 hz1 hz2 rfl _ 0 [] rfl (own_nil _ _ _) _ _ (wv8 bs) rfl HDr.out.rd (fun u hu => by simp [wv8] at hu; obtain ⟨x, _, rfl⟩ := hu; rfl) (by rw [wv8_len]; unfold maxLen; omega) (by rw [wv8_len]; omega) (Nat.le_refl _) ?_
      intro v1 w1 ho1 hg1
      rw [List.nil_append, Nat.zero_add] at ho1
      obtain ⟨A1, cp1, hv1, -, -⟩ := (RdT.of_own ho1).rd.form
      obtain ⟨l1, hl1⟩ : ∃ x, x = (wv8 bs).length := ⟨_, rfl⟩
      rw [← hl1] at hv1
      subst hv1
      have hbw : Below wr.heap.size wr w1 := below_grown (brf wr) hg1 (own_nil _ _ 5) (Nat.le_refl _)
      have HRW := Lib.hid (RdT.of_own ho1)
      have HSG1 := Lib.hid (HSG.out.up hbw)
      have HB1 := Lib.hid (bup HBr.out hbw)
      have HG1 := Lib.hid (HGw.out.up hbw)
      have HZ1 := Lib.hid (HZr.out.up hbw)
      clear ho1 hg1 hl1 hbw HDr HSG HBr HGw HZr
      have h53 := getECLevel_any g (.string l) w1 (by rw [HG1.out.cell]; rfl)
      have h54 := getErrorsCorrected_any g (.int .i64 0) w1 (by rw [HG1.out.cell]; rfl)
      have h55 := getStructuredAppendSequenceNumber_any g (.int .i64 (-1)) w1 (by rw [HG1.out.cell]; rfl)
      have h56 := getStructuredAppendParity_any g (.int .i64 (-1)) w1 (by rw [HG1.out.cell]; rfl)
      have h57 := getSymbologyModifier_any g (.int .i64 1) w1 (by rw [HG1.out.cell]; rfl)
      go_wp2_with fail
      refine h53.mono ?_
      rintro e w1 ⟨rfl, rfl⟩
      clear h53
      go_wp2_with fail
      refine h54.mono ?_
      rintro e w1 ⟨rfl, rfl⟩
      clear h54
      go_wp2_with fail
      refine h55.mono ?_
      rintro e w1 ⟨rfl, rfl⟩
      clear h55
      go_wp2_with fail
      refine h56.mono ?_
      rintro e w1 ⟨rfl, rfl⟩
      clear h56
      go_wp2_with fail
      refine h57.mono ?_
      rintro e w1 ⟨rfl, rfl⟩
      clear h57
      go_wp2_with (with_reducible refine stop_at (o := ⟨none, _, _, _, _, _⟩) ?_)
      refine Lib.hid ?_
      obtain ⟨cS, hcS⟩ : ∃ x : Array Value, x = #[.string s, .slice A1 l1 cp1, .slice A6 l6 c6, .string l, .int .i64 0, .int .i64 (-1), .int .i64 (-1), .int .i64 1] := ⟨_, rfl⟩
      refine wpList_store_rowTo rfl 31 _ _ rfl rfl w.heap.size cS rfl (by rw [hcS]; rfl) 31 _ HZ1.out (by rw [hcS]; kernel_rfl) (by rw [hcS]; rfl) (by rw [hcS]; simp [Value.oneCell']) ?_
      have HO9 := Lib.hid (Onl.row w1 w.heap.size cS)
      have k0 := setRow_heap w1 w.heap.size _ cS 31 (0, 0) HZ1.out
      have HB9 : Hid (Below w.heap.size w (w1.setRow w.heap.size cS)) := Lib.hid (HO9.out.below _ _ HB1.out (Nat.le_refl _) HB1.out.size)
      have HR9 := Lib.hid (HRW.out.onl HO9.out HZ1.out (by decide))
      have HS9 := Lib.hid (HSG1.out.onl HO9.out HZ1.out (by decide) (by decide))
      have K0 := Lib.hid k0
      clear k0
      go_wp2
      refine bodyPost_ret (cell_back1 rfl _ _ _ w.heap.size rfl cS (.bool true) rfl (run_loadVar_row _ _ _ _ _ _ _ K0.out Try.underlying31 rfl (by rw [hcS]; kernel_rfl))) rfl ?_
      exact ⟨HB9.out, _, _, by rw [hcS]; rfl, HR9.out, HS9.out⟩
/-- An error: the struct's zero, and false. -/
def zImp : Array Value := #[.string ⟨#[]⟩, .slice none 0 0, .slice none 0 0, .string ⟨#[]⟩, .int .i64 0, .int .i64 0, .int .i64 0, .int .i64 0]
set_option maxRecDepth 100000 in
theorem decoded_no (v : Value) (t : TypeId) (x : Value) (w : World) : Calls Try.prog 16 #[v, .iface t x] w fun e w' => e = .returned (.tuple #[.agg zImp, .bool false]) ∧ Below w.heap.size w w' := by
  go_enter Try.func16, Try.ntmps16
  go_wp2_with (with_reducible refine stop_at (o := ⟨none, _, _, _, _, _⟩) ?_)
  refine Lib.hid ?_
  refine wpList_store_rowTo rfl 31 _ _ rfl rfl w.heap.size zImp rfl rfl 31 zImp (Blk.fresh w _ _) (by kernel_rfl) rfl (by simp [zImp, Value.oneCell']) ?_
  have hB : Below w.heap.size w ((w.alloc (.cells zImp 31)).setRow w.heap.size zImp) := below_setRow (bal (brf w) _) (Nat.le_refl _) _
  have k0 := setRow_heap (w.alloc (.cells zImp 31)) w.heap.size _ zImp 31 (0, 0) (Blk.fresh w _ _)
  have HB := Lib.hid hB
  have K0 := Lib.hid k0
  clear hB k0
  go_wp2
  refine bodyPost_ret (cell_back1 rfl _ _ _ w.heap.size rfl zImp (.bool false) rfl (run_loadVar_row _ _ _ _ _ _ _ K0.out Try.underlying31 rfl (by kernel_rfl))) rfl ?_
  exact ⟨rfl, HB.out⟩
end Go.Proofs.Ytjkfkkenaiodoaa
