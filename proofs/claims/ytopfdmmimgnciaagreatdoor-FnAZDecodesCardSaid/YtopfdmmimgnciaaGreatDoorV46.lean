/-
  WALKS: getEncodedData of any bits: the text that they say, or an error.
-/
import Derived.Test.YtopfdmmimgnciaaGreatDoorV41
import Derived.Test.YtopfdmmimgnciaaGreatDoorV31
import Derived.Test.YtopfdmmimgnciaaGreatDoorV14
namespace Go.Proofs.YtopfdmmimgnciaaGreatDoor
open Go.RowKit

/-- Where the reading stands: what is still to be said, and the two rows of bytes so far. -/
structure DecT (l : List Bool) (o : Option (List UInt8)) (w0 : World) (B Nr : Nat) (rv : Value) (wr : World) (idx lt sh N : Nat) (dv : Value) : Prop where
  dec : ∃ o' ro out, GoOn (l.drop idx) lt sh o' ∧ o = o'.map ((ro ++ out) ++ ·) ∧ wr.ownsRow B 5 1 rv Nr (bl ro) ∧ wr.ownsRow B 5 1 dv N (bl out)
  apart : ∀ b, rv.ownBlock = some b → dv.ownBlock ≠ some b
  below : Below B w0 wr
  size : B ≤ wr.heap.size
/-- Where the reading of bytes stands: j of m have been read. -/
structure DecU (l : List Bool) (o : Option (List UInt8)) (w0 : World) (B Nr : Nat) (rv : Value) (wr : World) (idx lt m j N : Nat) (dv : Value) : Prop where
  dec : ∃ o' ro out, GoOn (takeB (m - j) (l.drop idx)).2 lt lt o' ∧ o = o'.map ((ro ++ (out ++ (takeB (m - j) (l.drop idx)).1)) ++ ·) ∧ wr.ownsRow B 5 1 rv Nr (bl ro) ∧ wr.ownsRow B 5 1 dv N (bl out)
  apart : ∀ b, rv.ownBlock = some b → dv.ownBlock ≠ some b
  below : Below B w0 wr
  size : B ≤ wr.heap.size
section
variable {l : List Bool} {o : Option (List UInt8)} {w0 wr w' : World} {B Nr idx lt sh m j N : Nat} {rv dv : Value}
theorem DecT.up (h : DecT l o w0 B Nr rv wr idx lt sh N dv) (hb : Below wr.heap.size wr w') : DecT l o w0 B Nr rv w' idx lt sh N dv := by
  obtain ⟨⟨o', ro, out, h1, h2, h3, h4⟩, h5, h6, h7⟩ := h
  exact ⟨⟨o', ro, out, h1, h2, own_up h3 hb, own_up h4 hb⟩, h5, h6.trans (hb.mono h7), Nat.le_trans h7 hb.size⟩
theorem DecU.full (h : DecU l o w0 B Nr rv wr idx lt m j N dv) (hj : m ≤ j) : DecT l o w0 B Nr rv wr idx lt lt N dv := by
  obtain ⟨⟨o', ro, out, h1, h2, h3, h4⟩, h5, h6, h7⟩ := h
  rw [show m - j = 0 by omega] at h1 h2
  exact ⟨⟨o', ro, out, h1, by simpa [takeB] using h2, h3, h4⟩, h5, h6, h7⟩
theorem DecU.short (h : DecU l o w0 B Nr rv wr idx lt m j N dv) (hj : j < m) (hs : l.length - idx < 8) : DecT l o w0 B Nr rv wr l.length lt lt N dv := by
  obtain ⟨⟨o', ro, out, h1, h2, h3, h4⟩, h5, h6, h7⟩ := h
  rw [show m - j = (m - j - 1) + 1 by omega, takeB_short _ _ (by rw [List.length_drop]; exact hs)] at h1 h2
  exact ⟨⟨o', ro, out, by rw [List.drop_length]; exact h1, by simpa using h2, h3, h4⟩, h5, h6, h7⟩
theorem DecU.step (h : DecU l o w0 B Nr rv wr idx lt m j N dv) (hj : j < m) (hs : 8 ≤ l.length - idx) :
    ∃ o' ro out, GoOn (takeB (m - (j + 1)) (l.drop (idx + 8))).2 lt lt o' ∧ o = o'.map ((ro ++ ((out ++ [UInt8.ofNat (valL ((l.drop idx).take 8))]) ++ (takeB (m - (j + 1)) (l.drop (idx + 8))).1)) ++ ·) ∧ wr.ownsRow B 5 1 rv Nr (bl ro) ∧ wr.ownsRow B 5 1 dv N (bl out) := by
  obtain ⟨⟨o', ro, out, h1, h2, h3, h4⟩, h5, h6, h7⟩ := h
  rw [show m - j = (m - (j + 1)) + 1 by omega, takeB_succ _ _ (by rw [List.length_drop]; exact hs), List.drop_drop] at h1 h2
  exact ⟨o', ro, out, h1, by simpa using h2, h3, h4⟩
theorem map_app {o o' o2 : Option (List UInt8)} {ro out s : List UInt8} (h1 : o = o'.map ((ro ++ out) ++ ·)) (h2 : o' = o2.map (s ++ ·)) : o = o2.map ((ro ++ (out ++ s)) ++ ·) := by
  rw [h1, h2, Option.map_map]
  congr 1
  funext z
  simp
/-- One row grows; the other one, in another block, stays. -/
theorem two_app {dv' : Value} {xs : List Value} (hr : wr.ownsRow B 5 1 rv Nr xs) (hap : ∀ b, rv.ownBlock = some b → dv.ownBlock ≠ some b) (hg : wr.grownBy w' dv.ownBlock) (hl : dv'.ownBlock = dv.ownBlock ∨ dv'.ownBlock = some wr.heap.size) :
    w'.ownsRow B 5 1 rv Nr xs ∧ ∀ b, rv.ownBlock = some b → dv'.ownBlock ≠ some b := by
  refine ⟨own_grown hr hg hap, fun b hb => ?_⟩
  rcases hl with h | h
  · rw [h]; exact hap b hb
  · rw [h]; intro he; injection he with he
    have := own_lt hr hb
    omega
theorem own_cut {w : World} {B dn N dc : Nat} {dA : Option Addr} {xs : List Value} {e : TypeId} (h : w.ownsRow B e 1 (.slice dA dn dc) N xs) : w.ownsRow B e 1 (.slice dA 0 dc) 0 [] := by
  obtain ⟨h1, ⟨hv, _⟩ | ⟨g, cap, cur, hv, hb, hg, hn, hc, hs, ht⟩⟩ := h
  · injection hv with q1 q2 q3
    subst q1; subst q3
    exact own_nil _ _ _
  · injection hv with q1 q2 q3
    subst q1; subst q3
    exact ⟨rfl, .inr ⟨g, _, cur, rfl, hb, hg, Nat.zero_le _, hc, hs, rfl⟩⟩
theorem own_form {w : World} {B dn N dc : Nat} {dA : Option Addr} {xs : List Value} {e : TypeId} (h : w.ownsRow B e 1 (.slice dA dn dc) N xs) : (dA = none ∧ dn = 0 ∧ dc = 0) ∨ ∃ g, dA = some ⟨g, 0, none⟩ := by
  obtain ⟨h1, ⟨hv, _⟩ | ⟨g, cap, cur, hv, hb, hg, hn, hc, hs, ht⟩⟩ := h
  · injection hv with q1 q2 q3
    exact .inl ⟨q1, q2, q3⟩
  · injection hv with q1 q2 q3
    exact .inr ⟨g, q1⟩
end
set_option maxRecDepth 100000 in
set_option maxHeartbeats 8000000 in
theorem encodedG_any (p : Nat) (v : Value) (l : List Bool) (n : Nat) (o : Option (List UInt8)) (w : World) (hv : Rd w w.heap.size v (bv l)) (hn : l.length = n) (h2 : 2 ≤ n) (hmax : n ≤ 1000000) (hd : decG l.length l 0 0 = o) :
    Calls Tryz.prog 51 #[.pointer (some ⟨p, 0, none⟩), v] w fun e w' => ((∃ t, o = some t ∧ e = .returned (.tuple #[.string (ofL t), .nilIface])) ∨ (o = none ∧ ∃ s t u, e = .returned (.tuple #[.string s, .iface t u]))) ∧ Below w.heap.size w w' := by
  obtain ⟨i0, hi0, hz0, hz1, hz2⟩ := info_parts info_u8
  obtain ⟨A, cap, hvf, hc1, hc2⟩ := hv.form
  rw [bv_len, hn] at hvf hc1
  subst hvf
  have HV := Lib.hid hv
  have HN := Lib.hid hn
  clear hv
  unfold maxLen at hc2
  have HDD := Lib.hid hd; clear hn hd
  obtain ⟨K, hK, hK2⟩ : ∃ K : Nat, ((n : Int) - 5).tdiv 4 = (K : Int) ∧ K ≤ 1000000 := by
    by_cases h5 : 5 ≤ n
    · exact ⟨(n - 5) / 4, by rw [Int.tdiv_eq_ediv_of_nonneg (by omega)]; omega, by omega⟩
    · have : n = 2 ∨ n = 3 ∨ n = 4 := by omega
      rcases this with rfl | rfl | rfl <;> exact ⟨0, rfl, by decide⟩
  have hmk := fun x => run_mk0 (P := Tryz.prog) 22 5 i0 (.int .u8 0) 1 Tryz.underlying22 hi0 hz0 hz1 hz2 rfl K (by omega) (by omega) x
  have hmk0 : ∀ x : World, (Instr.makeSlice 22 (.int .i64 0) (.int .i64 0)).run Tryz.prog x = .ok (.slice (some ⟨x.heap.size, 0, none⟩) 0 0) (x.alloc (.cells (rep 0 (.int .u8 0)) 5)) := fun x => run_mk0 (P := Tryz.prog) 22 5 i0 (.int .u8 0) 1 Tryz.underlying22 hi0 hz0 hz1 hz2 rfl 0 (by omega) (by omega) x
  have hw1 : IntKind.i64.wrap ((n : Int) - 5) = (n : Int) - 5 := by rw [IntKind.wrap_i64]; omega
  go_enter Tryz.func51, Tryz.ntmps51
  go_wp2_with fail
  clear hmk hmk0 hw1 hK
  go_loopw [7, 8, 9, 10, 11] (fun lv sv rv dv iv wr => ∃ (idx lt sh Nr N rn rc dn dc : Nat) (rA dA : Option Addr), rv = .slice rA rn rc ∧ dv = .slice dA dn dc ∧ idx ≤ n ∧ iv = .int .i64 idx ∧ lv = .int .i64 lt ∧ sv = .int .i64 sh ∧ lt < 5 ∧ sh < 6 ∧ Nr + N ≤ idx ∧ Hid (DecT l o w w.heap.size Nr (.slice rA rn rc) wr idx lt sh N (.slice dA dn dc))) (fun _ _ _ _ iv _ => n - (intOf iv).toNat)
  case atStart =>
    refine ⟨0, 0, 0, 0, 0, 0, K, 0, 0, _, _, rfl, rfl, Nat.zero_le _, rfl, rfl, rfl, by decide, by decide, by decide, Lib.hid ⟨?_, ?_, ?_, ?_⟩⟩
    · exact ⟨o, [], [], ⟨l.length, by simp, by rw [List.drop_zero]; exact HDD.out⟩, by cases o <;> simp, own_made (n := K) ((Blk.fresh w _ _).alloc _) (Nat.le_refl _) (by unfold maxLen; omega), own_made (Blk.fresh' (by simp)) (by simp) (by decide)⟩
    · intro b hb
      simp [Value.ownBlock] at hb ⊢
      omega
    · exact bal (bal (brf w) _) _
    · simp; omega
  case round =>
    obtain ⟨idx, lt, sh, Nr, N, rn, rc, dn, dc, rA, dA, rfl, rfl, hidx, rfl, rfl, rfl, hlt5, hsh6, hNi, HD⟩ := hrel
    by_cases hlt : idx < n
    · by_cases h5 : sh = 5
      · subst h5
        by_cases hr5 : n - idx < 5
        · have HX : Hid (∃ ro out, wr.ownsRow w.heap.size 5 1 (.slice rA rn rc) Nr (bl ro) ∧ wr.ownsRow w.heap.size 5 1 (.slice dA dn dc) N (bl out) ∧ o = some (ro ++ out)) := Lib.hid (by
            obtain ⟨o', ro, out, h1, h2, h3, h4⟩ := HD.out.dec
            exact ⟨ro, out, h3, h4, by rw [h2, GoOn.short5 h1 (by rw [List.length_drop, HN.out]; exact hr5)]; simp⟩)
          obtain ⟨ro, out, hr, ho, he⟩ := HX.out
          have HO := Lib.hid ho
          have HRES := Lib.hid hr
          have HOE := Lib.hid he
          have HBB := Lib.hid (And.intro HD.out.below HD.out.size)
          clear ho hr he HX HD
          go_wp2_with (with_reducible refine stop_at (o := ⟨some 195, _, _, _, _, _⟩) ?_)
          refine Lib.hid ?_
          refine list_app_rd _ rfl _ _ 22 rfl w.heap.size 5 i0 _ 1 Tryz.underlying22 hi0 hz0 hz1 hz2 rfl _ Nr (bl ro) rfl HRES.out _ _ (bl out) rfl (Rd.of_own HO.out) (bl_one _) (by rw [bl_len]; have := HO.out.1; rw [bl_len] at this; unfold maxLen; omega) (by rw [bl_len]; have := HO.out.1; rw [bl_len] at this; omega) HBB.out.2 ?_
          intro v1 w3 ho1 hg1
          rw [← bl_app] at ho1
          have hcs := conv_str (P := Tryz.prog) w3 w3.heap.size 22 5 9 Tryz.underlying22 Tryz.underlying5 Tryz.underlying9 _ (ofL (ro ++ out)) (by rw [bytesOf_ofL]; exact Rd.of_own ho1)
          have HB3 : Hid (Below w.heap.size w w3) := Lib.hid (below_grown HBB.out.1 hg1 HRES.out HBB.out.2)
          clear ho1 hg1 HO HRES HBB
          go_wp2
          go_ret2
          exact ⟨.inl ⟨_, HOE.out, rfl⟩, HB3.out⟩
        · go_wp2_with fail
          refine (readCode_any _ l idx 5 w.heap.size _ (HV.out.below HD.out.below) (by rw [HN.out]; omega) (by decide) (by rw [HN.out]; omega)).mono ?_
          rintro e wr ⟨rfl, rfl⟩
          have hm0 := valL_lt ((l.drop idx).take 5)
          rw [List.length_take, List.length_drop, HN.out, Nat.min_eq_left (by omega)] at hm0
          obtain ⟨m0, hmm⟩ : ∃ m, m = valL ((l.drop idx).take 5) := ⟨_, rfl⟩
          rw [← hmm] at hm0 ⊢
          have HM0 := Lib.hid hmm; clear hmm
          by_cases hmz : m0 = 0
          · subst hmz
            by_cases hr11 : n - idx < 16
            · have HX : Hid (∃ ro out, wr.ownsRow w.heap.size 5 1 (.slice rA rn rc) Nr (bl ro) ∧ wr.ownsRow w.heap.size 5 1 (.slice dA dn dc) N (bl out) ∧ o = some (ro ++ out)) := Lib.hid (by
                obtain ⟨o', ro, out, h1, h2, h3, h4⟩ := HD.out.dec
                exact ⟨ro, out, h3, h4, by rw [h2, GoOn.short11 h1 (by rw [List.length_drop, HN.out]; omega) HM0.out.symm (by rw [List.length_drop, HN.out]; omega)]; simp⟩)
              obtain ⟨ro, out, hr, ho, he⟩ := HX.out
              have HO := Lib.hid ho
              have HRES := Lib.hid hr
              have HOE := Lib.hid he
              have HBB := Lib.hid (And.intro HD.out.below HD.out.size)
              clear ho hr he HX HD
              go_wp2_with (with_reducible refine stop_at (o := ⟨some 195, _, _, _, _, _⟩) ?_)
              refine Lib.hid ?_
              refine list_app_rd _ rfl _ _ 22 rfl w.heap.size 5 i0 _ 1 Tryz.underlying22 hi0 hz0 hz1 hz2 rfl _ Nr (bl ro) rfl HRES.out _ _ (bl out) rfl (Rd.of_own HO.out) (bl_one _) (by rw [bl_len]; have := HO.out.1; rw [bl_len] at this; unfold maxLen; omega) (by rw [bl_len]; have := HO.out.1; rw [bl_len] at this; omega) HBB.out.2 ?_
              intro v1 w3 ho1 hg1
              rw [← bl_app] at ho1
              have hcs := conv_str (P := Tryz.prog) w3 w3.heap.size 22 5 9 Tryz.underlying22 Tryz.underlying5 Tryz.underlying9 _ (ofL (ro ++ out)) (by rw [bytesOf_ofL]; exact Rd.of_own ho1)
              have HB3 : Hid (Below w.heap.size w w3) := Lib.hid (below_grown HBB.out.1 hg1 HRES.out HBB.out.2)
              clear ho1 hg1 HO HRES HBB
              go_wp2
              go_ret2
              exact ⟨.inl ⟨_, HOE.out, rfl⟩, HB3.out⟩
            · go_wp2_with fail
              refine (readCode_any _ l (idx + 5) 11 w.heap.size _ (HV.out.below HD.out.below) (by rw [HN.out]; omega) (by decide) (by rw [HN.out]; omega)).mono ?_
              rintro e wr ⟨rfl, rfl⟩
              have hm1 := valL_lt ((l.drop (idx + 5)).take 11)
              rw [List.length_take, List.length_drop, HN.out, Nat.min_eq_left (by omega)] at hm1
              obtain ⟨m1, hmm⟩ : ∃ m, m = valL ((l.drop (idx + 5)).take 11) := ⟨_, rfl⟩
              rw [← hmm] at hm1 ⊢
              have HM1 := Lib.hid hmm; clear hmm
              have HDB : Hid (DecU l o w w.heap.size Nr (.slice rA rn rc) wr (idx + 16) lt (m1 + 31) 0 N (.slice dA dn dc)) := Lib.hid (by
                obtain ⟨⟨o', ro, out, h1, h2, h3, h4⟩, h5, h6, h7⟩ := HD.out
                obtain ⟨o2, h8, h9⟩ := GoOn.binL h1 (by rw [List.length_drop, HN.out]; omega) HM0.out.symm
                rw [List.drop_drop, ← HM1.out, List.drop_drop] at h8 h9
                exact ⟨⟨o2, ro, out, by rw [Nat.sub_zero]; exact h9, by rw [Nat.sub_zero]; exact map_app h2 h8, h3, h4⟩, h5, h6, h7⟩)
              obtain ⟨i1, hi1⟩ : ∃ i1, i1 = idx + 16 := ⟨_, rfl⟩
              have ei1 : (idx : Int) + 5 + 11 = (i1 : Int) := by omega
              rw [← hi1] at HDB
              have hi1n : i1 ≤ n := by omega
              have hNi1 : Nr + N ≤ i1 := by omega
              have hii : idx < i1 := by omega
              clear HD hi1
              obtain ⟨m0, hmq⟩ : ∃ m0, m0 = m1 + 31 := ⟨_, rfl⟩
              have em : (m1 : Int) + 31 = (m0 : Int) := by omega
              rw [← hmq] at HDB
              have hm0' : m0 < 3000 := by omega
              clear hmq
              go_wp2_with fail
              go_loopw [10, 11, 13] (fun dv iv cv wb => ∃ (i j Nb dn dc : Nat) (dA : Option Addr), dv = .slice dA dn dc ∧ i1 ≤ i ∧ i ≤ n ∧ j ≤ m0 ∧ iv = .int .i64 i ∧ cv = .int .i64 j ∧ Nr + Nb ≤ i ∧ Hid (DecU l o w w.heap.size Nr (.slice rA rn rc) wb i lt m0 j Nb (.slice dA dn dc))) (fun _ _ cv _ => m0 - (intOf cv).toNat)
              case atStart => exact ⟨i1, 0, N, dn, dc, dA, rfl, Nat.le_refl _, hi1n, Nat.zero_le _, rfl, rfl, hNi1, HDB⟩
              case round =>
                rename World => wb
                clear HDB
                obtain ⟨i, j, Nb, dn, dc, dA, rfl, hi1i, hin, hjm, rfl, rfl, hNb, HDB⟩ := hrel
                by_cases hjl : j < m0
                · by_cases hs8 : n - i < 8
                  · have HD2 : Hid (DecT l o w w.heap.size Nr (.slice rA rn rc) wb n lt lt Nb (.slice dA dn dc)) := Lib.hid (by
                      have := HDB.out.short hjl (by rw [HN.out]; exact hs8)
                      rw [HN.out] at this; exact this)
                    clear HDB
                    go_wp2
                    go_roundw
                    case rel => exact ⟨n, lt, lt, Nr, Nb, rn, rc, dn, dc, rA, dA, rfl, rfl, Nat.le_refl _, rfl, rfl, rfl, hlt5, by omega, by omega, HD2⟩
                    case measure => simp [intOf]; omega
                  · go_wp2_with fail
                    refine (readCode_any _ l i 8 w.heap.size _ (HV.out.below HDB.out.below) (by rw [HN.out]; omega) (by decide) (by rw [HN.out]; omega)).mono ?_
                    rintro e wb ⟨rfl, rfl⟩
                    have hy := valL_lt ((l.drop i).take 8)
                    rw [List.length_take, List.length_drop, HN.out, Nat.min_eq_left (by omega)] at hy
                    have hst := HDB.out.step hjl (by rw [HN.out]; omega)
                    obtain ⟨y, hmm⟩ : ∃ m, m = valL ((l.drop i).take 8) := ⟨_, rfl⟩
                    rw [← hmm] at hy hst ⊢
                    clear hmm
                    obtain ⟨o', ro, out, h1, h2, h3, h4⟩ := hst
                    have HST := Lib.hid (And.intro h1 h2)
                    have HO := Lib.hid h4
                    have HRES := Lib.hid (And.intro h3 HDB.out.apart)
                    have HBB := Lib.hid (And.intro HDB.out.below HDB.out.size)
                    clear h1 h2 h3 h4 HDB
                    go_wp2_with (with_reducible refine stop_at (o := ⟨some 76, _, _, _, _, _⟩) ?_)
                    refine Lib.hid ?_
                    refine list_app2 rfl _ _ 22 rfl w.heap.size 5 i0 _ 1 Tryz.underlying22 hi0 hz0 hz1 hz2 rfl _ Nb (bl out) rfl (HO.out.alloc _) _ _ [.int .u8 (y : Int)] rfl (Rd.one rfl _ _) (fun u hu => by simp at hu; subst hu; rfl) (by simp only [List.length_singleton]; unfold maxLen; omega) (by simp only [List.length_singleton]; omega) (by have := HBB.out.2; simp; omega) ?_
                    intro v1 w3 ho1 hg1 hl1
                    have ho2 : w3.ownsRow w.heap.size 5 1 v1 (Nb + 1) (bl (out ++ [UInt8.ofNat y])) := by
                      rw [bl_app, show bl [UInt8.ofNat y] = [.int .u8 (y : Int)] by simp [bl]; omega]; exact ho1
                    obtain ⟨hq1, hq2⟩ := two_app (HRES.out.1.alloc _) HRES.out.2 hg1 hl1
                    obtain ⟨dA2, dn2, dc2, rfl⟩ : ∃ A n c, v1 = .slice A n c := by obtain ⟨A, c, h, _⟩ := RdT.of_own ho2; exact ⟨_, _, _, h⟩
                    have HDB2 : Hid (DecU l o w w.heap.size Nr (.slice rA rn rc) w3 (i + 8) lt m0 (j + 1) (Nb + 1) (.slice dA2 dn2 dc2)) := Lib.hid ⟨⟨o', ro, _, HST.out.1, HST.out.2, hq1, ho2⟩, hq2, below_grown (HBB.out.1.alloc HBB.out.2 _) hg1 (HO.out.alloc _) (by have := HBB.out.2; simp; omega), Nat.le_trans HBB.out.2 (Nat.le_trans (by simp) hg1.size)⟩
                    clear ho1 ho2 hg1 hl1 hq1 hq2 HST HO HRES HBB
                    go_wp2
                    go_roundw
                    case rel => exact ⟨i + 8, j + 1, Nb + 1, dn2, dc2, dA2, rfl, by omega, by omega, by omega, by go_num, by go_num, by omega, HDB2⟩
                    case measure => simp [intOf]; omega
                · have HD2 : Hid (DecT l o w w.heap.size Nr (.slice rA rn rc) wb i lt lt Nb (.slice dA dn dc)) := Lib.hid (HDB.out.full (by omega))
                  clear HDB
                  go_wp2
                  go_roundw
                  case rel => exact ⟨i, lt, lt, Nr, Nb, rn, rc, dn, dc, rA, dA, rfl, rfl, by omega, rfl, rfl, rfl, hlt5, by omega, by omega, HD2⟩
                  case measure => simp [intOf]; omega
          · have hmz2 : ((m0 : Int) == 0) = false := by simp; omega
            have HDB : Hid (DecU l o w w.heap.size Nr (.slice rA rn rc) wr (idx + 5) lt m0 0 N (.slice dA dn dc)) := Lib.hid (by
              obtain ⟨⟨o', ro, out, h1, h2, h3, h4⟩, h5, h6, h7⟩ := HD.out
              obtain ⟨o2, h8, h9⟩ := GoOn.bin h1 (by rw [List.length_drop, HN.out]; omega) (by rw [← HM0.out]; exact hmz)
              rw [← HM0.out, List.drop_drop] at h8 h9
              exact ⟨⟨o2, ro, out, by rw [Nat.sub_zero]; exact h9, by rw [Nat.sub_zero]; exact map_app h2 h8, h3, h4⟩, h5, h6, h7⟩)
            obtain ⟨i1, hi1⟩ : ∃ i1, i1 = idx + 5 := ⟨_, rfl⟩
            have ei1 : (idx : Int) + 5 = (i1 : Int) := by omega
            rw [← hi1] at HDB
            have hi1n : i1 ≤ n := by omega
            have hNi1 : Nr + N ≤ i1 := by omega
            have hii : idx < i1 := by omega
            clear HD hi1
            have hm0' : m0 < 3000 := by omega
            go_wp2_with fail
            go_loopw [10, 11, 13] (fun dv iv cv wb => ∃ (i j Nb dn dc : Nat) (dA : Option Addr), dv = .slice dA dn dc ∧ i1 ≤ i ∧ i ≤ n ∧ j ≤ m0 ∧ iv = .int .i64 i ∧ cv = .int .i64 j ∧ Nr + Nb ≤ i ∧ Hid (DecU l o w w.heap.size Nr (.slice rA rn rc) wb i lt m0 j Nb (.slice dA dn dc))) (fun _ _ cv _ => m0 - (intOf cv).toNat)
            case atStart => exact ⟨i1, 0, N, dn, dc, dA, rfl, Nat.le_refl _, hi1n, Nat.zero_le _, rfl, rfl, hNi1, HDB⟩
            case round =>
              rename World => wb
              clear HDB
              obtain ⟨i, j, Nb, dn, dc, dA, rfl, hi1i, hin, hjm, rfl, rfl, hNb, HDB⟩ := hrel
              by_cases hjl : j < m0
              · by_cases hs8 : n - i < 8
                · have HD2 : Hid (DecT l o w w.heap.size Nr (.slice rA rn rc) wb n lt lt Nb (.slice dA dn dc)) := Lib.hid (by
                    have := HDB.out.short hjl (by rw [HN.out]; exact hs8)
                    rw [HN.out] at this; exact this)
                  clear HDB
                  go_wp2
                  go_roundw
                  case rel => exact ⟨n, lt, lt, Nr, Nb, rn, rc, dn, dc, rA, dA, rfl, rfl, Nat.le_refl _, rfl, rfl, rfl, hlt5, by omega, by omega, HD2⟩
                  case measure => simp [intOf]; omega
                · go_wp2_with fail
                  refine (readCode_any _ l i 8 w.heap.size _ (HV.out.below HDB.out.below) (by rw [HN.out]; omega) (by decide) (by rw [HN.out]; omega)).mono ?_
                  rintro e wb ⟨rfl, rfl⟩
                  have hy := valL_lt ((l.drop i).take 8)
                  rw [List.length_take, List.length_drop, HN.out, Nat.min_eq_left (by omega)] at hy
                  have hst := HDB.out.step hjl (by rw [HN.out]; omega)
                  obtain ⟨y, hmm⟩ : ∃ m, m = valL ((l.drop i).take 8) := ⟨_, rfl⟩
                  rw [← hmm] at hy hst ⊢
                  clear hmm
                  obtain ⟨o', ro, out, h1, h2, h3, h4⟩ := hst
                  have HST := Lib.hid (And.intro h1 h2)
                  have HO := Lib.hid h4
                  have HRES := Lib.hid (And.intro h3 HDB.out.apart)
                  have HBB := Lib.hid (And.intro HDB.out.below HDB.out.size)
                  clear h1 h2 h3 h4 HDB
                  go_wp2_with (with_reducible refine stop_at (o := ⟨some 76, _, _, _, _, _⟩) ?_)
                  refine Lib.hid ?_
                  refine list_app2 rfl _ _ 22 rfl w.heap.size 5 i0 _ 1 Tryz.underlying22 hi0 hz0 hz1 hz2 rfl _ Nb (bl out) rfl (HO.out.alloc _) _ _ [.int .u8 (y : Int)] rfl (Rd.one rfl _ _) (fun u hu => by simp at hu; subst hu; rfl) (by simp only [List.length_singleton]; unfold maxLen; omega) (by simp only [List.length_singleton]; omega) (by have := HBB.out.2; simp; omega) ?_
                  intro v1 w3 ho1 hg1 hl1
                  have ho2 : w3.ownsRow w.heap.size 5 1 v1 (Nb + 1) (bl (out ++ [UInt8.ofNat y])) := by
                    rw [bl_app, show bl [UInt8.ofNat y] = [.int .u8 (y : Int)] by simp [bl]; omega]; exact ho1
                  obtain ⟨hq1, hq2⟩ := two_app (HRES.out.1.alloc _) HRES.out.2 hg1 hl1
                  obtain ⟨dA2, dn2, dc2, rfl⟩ : ∃ A n c, v1 = .slice A n c := by obtain ⟨A, c, h, _⟩ := RdT.of_own ho2; exact ⟨_, _, _, h⟩
                  have HDB2 : Hid (DecU l o w w.heap.size Nr (.slice rA rn rc) w3 (i + 8) lt m0 (j + 1) (Nb + 1) (.slice dA2 dn2 dc2)) := Lib.hid ⟨⟨o', ro, _, HST.out.1, HST.out.2, hq1, ho2⟩, hq2, below_grown (HBB.out.1.alloc HBB.out.2 _) hg1 (HO.out.alloc _) (by have := HBB.out.2; simp; omega), Nat.le_trans HBB.out.2 (Nat.le_trans (by simp) hg1.size)⟩
                  clear ho1 ho2 hg1 hl1 hq1 hq2 HST HO HRES HBB
                  go_wp2
                  go_roundw
                  case rel => exact ⟨i + 8, j + 1, Nb + 1, dn2, dc2, dA2, rfl, by omega, by omega, by omega, by go_num, by go_num, by omega, HDB2⟩
                  case measure => simp [intOf]; omega
              · have HD2 : Hid (DecT l o w w.heap.size Nr (.slice rA rn rc) wb i lt lt Nb (.slice dA dn dc)) := Lib.hid (HDB.out.full (by omega))
                clear HDB
                go_wp2
                go_roundw
                case rel => exact ⟨i, lt, lt, Nr, Nb, rn, rc, dn, dc, rA, dA, rfl, rfl, by omega, rfl, rfl, rfl, hlt5, by omega, by omega, HD2⟩
                case measure => simp [intOf]; omega
      · have h5b : ((sh : Int) == 5) = false := by simp; omega
        by_cases h3 : sh = 3
        · have HZ : Hid (sizeT sh = 4) := Lib.hid (by rw [h3]; rfl)
          have h3b : ((sh : Int) == 3) = true := by simp; omega
          have hsh5 : sh < 5 := by omega
          clear h3 h5
          by_cases hrs : n - idx < 4
          · have HX : Hid (∃ ro out, wr.ownsRow w.heap.size 5 1 (.slice rA rn rc) Nr (bl ro) ∧ wr.ownsRow w.heap.size 5 1 (.slice dA dn dc) N (bl out) ∧ o = some (ro ++ out)) := Lib.hid (by
              obtain ⟨o', ro, out, h1, h2, h3, h4⟩ := HD.out.dec
              exact ⟨ro, out, h3, h4, by rw [h2, GoOn.short h1 (by omega) (by rw [List.length_drop, HN.out, HZ.out]; exact hrs)]; simp⟩)
            obtain ⟨ro, out, hr, ho, he⟩ := HX.out
            have HO := Lib.hid ho
            have HRES := Lib.hid hr
            have HOE := Lib.hid he
            have HBB := Lib.hid (And.intro HD.out.below HD.out.size)
            clear ho hr he HX HD
            go_wp2_with (with_reducible refine stop_at (o := ⟨some 195, _, _, _, _, _⟩) ?_)
            refine Lib.hid ?_
            refine list_app_rd _ rfl _ _ 22 rfl w.heap.size 5 i0 _ 1 Tryz.underlying22 hi0 hz0 hz1 hz2 rfl _ Nr (bl ro) rfl HRES.out _ _ (bl out) rfl (Rd.of_own HO.out) (bl_one _) (by rw [bl_len]; have := HO.out.1; rw [bl_len] at this; unfold maxLen; omega) (by rw [bl_len]; have := HO.out.1; rw [bl_len] at this; omega) HBB.out.2 ?_
            intro v1 w3 ho1 hg1
            rw [← bl_app] at ho1
            have hcs := conv_str (P := Tryz.prog) w3 w3.heap.size 22 5 9 Tryz.underlying22 Tryz.underlying5 Tryz.underlying9 _ (ofL (ro ++ out)) (by rw [bytesOf_ofL]; exact Rd.of_own ho1)
            have HB3 : Hid (Below w.heap.size w w3) := Lib.hid (below_grown HBB.out.1 hg1 HRES.out HBB.out.2)
            clear ho1 hg1 HO HRES HBB
            go_wp2
            go_ret2
            exact ⟨.inl ⟨_, HOE.out, rfl⟩, HB3.out⟩
          · go_wp2_with fail
            refine (readCode_any _ l idx 4 w.heap.size _ (HV.out.below HD.out.below) (by rw [HN.out]; omega) (by decide) (by rw [HN.out]; omega)).mono ?_
            rintro e wr ⟨rfl, rfl⟩
            have hc0 := valL_lt ((l.drop idx).take 4)
            rw [List.length_take, List.length_drop, HN.out, Nat.min_eq_left (by omega)] at hc0
            obtain ⟨c, hcc⟩ : ∃ c, c = valL ((l.drop idx).take 4) := ⟨_, rfl⟩
            rw [← hcc] at hc0 ⊢
            have HC := Lib.hid hcc; clear hcc
            clear h5b h3b
            go_wp2_with fail
            refine (getChar_any sh c _ hsh5 (by rw [HZ.out]; exact hc0)).mono ?_
            rintro e w2 ⟨rfl, hb2⟩
            have HD2 := Lib.hid (HD.out.up hb2)
            have hent := tab_ent sh c hsh5 (by rw [HZ.out]; exact hc0)
            clear HD hb2
            obtain ⟨s, hs⟩ : ∃ s, s = tabS sh c := ⟨_, rfl⟩
            rw [← hs] at hent ⊢
            have HS : Hid (s = tabS sh (valL ((l.drop idx).take (sizeT sh)))) := Lib.hid (by rw [hs, HC.out, HZ.out])
            clear hs
            rcases hent with ⟨hnf, hnc, hne, hle⟩ | ⟨ca, cb, hcs, hca, hcb9⟩ | hfl
            · as_aux_lemma =>
              have hef : ((ofL s).toList == [70, 76, 71, 40, 110, 41]) = false := by
                rw [ByteArray.toList_eq, ofL_data, beq_eq_false_iff_ne]; exact hnf
              have HE := Lib.hid (And.intro hnf hnc)
              have hsz2 : (ofL s).size ≤ 100 := by rw [ofL_size]; omega
              obtain ⟨v1, w3, hcv, hrd, hb3⟩ := conv_any (P := Tryz.prog) w2 9 22 5 (ofL s) Tryz.underlying9 Tryz.underlying22 Tryz.underlying5 (by unfold maxLen; omega)
              rw [bytesOf_ofL] at hrd
              obtain ⟨o', ro, out, h1, h2, h3, h4⟩ := HD2.out.dec
              obtain ⟨o2, h7, h8⟩ := GoOn.text h1 (by omega) (by rw [List.length_drop, HN.out, HZ.out]; omega) (by rw [← HS.out]; exact hnf) (by rw [← HS.out]; exact hnc)
              rw [← HS.out] at h7
              rw [List.drop_drop, HZ.out] at h8
              have HST := Lib.hid (And.intro h8 (map_app h2 h7))
              have HO := Lib.hid (own_up h4 hb3)
              have hlen := h4.1
              rw [bl_len] at hlen
              have HRES := Lib.hid (And.intro (own_up h3 hb3) HD2.out.apart)
              have HBB := Lib.hid (And.intro (HD2.out.below.trans (hb3.mono HD2.out.size)) (Nat.le_trans HD2.out.size hb3.size))
              have HRD := Lib.hid hrd
              clear h1 h2 h3 h4 h7 h8 HD2 hnf hnc hrd hb3 hlen
              go_wp2_with fail
              refine (ctrlPre_no s _ (by omega) HE.out.2).mono ?_
              rintro e w2 ⟨rfl, rfl⟩
              go_wp2_with (with_reducible refine stop_at (o := ⟨some 191, _, _, _, _, _⟩) ?_)
              refine Lib.hid ?_
              refine list_app2 rfl _ _ 22 rfl w.heap.size 5 i0 _ 1 Tryz.underlying22 hi0 hz0 hz1 hz2 rfl _ N (bl out) rfl HO.out _ _ (bl s) rfl HRD.out (bl_one _) (by rw [bl_len]; unfold maxLen; omega) (by rw [bl_len]; omega) HBB.out.2 ?_
              intro v2 w4 ho1 hg1 hl1
              rw [← bl_app, bl_len] at ho1
              obtain ⟨hq1, hq2⟩ := two_app HRES.out.1 HRES.out.2 hg1 hl1
              obtain ⟨dA2, dn2, dc2, rfl⟩ : ∃ A n c, v2 = .slice A n c := by obtain ⟨A, c, h, _⟩ := RdT.of_own ho1; exact ⟨_, _, _, h⟩
              have HD3 : Hid (DecT l o w w.heap.size Nr (.slice rA rn rc) w4 (idx + 4) lt lt (N + s.length) (.slice dA2 dn2 dc2)) := Lib.hid ⟨⟨o2, ro, _, HST.out.1, HST.out.2, hq1, ho1⟩, hq2, below_grown HBB.out.1 hg1 HO.out HBB.out.2, Nat.le_trans HBB.out.2 hg1.size⟩
              clear ho1 hg1 hl1 hq1 hq2 HST HO HRES HBB hcv hef
              go_wp2
              go_roundw
              case rel => exact ⟨idx + 4, lt, lt, Nr, N + s.length, rn, rc, dn2, dc2, rA, dA2, rfl, rfl, by omega, by go_num, rfl, rfl, hlt5, by omega, by omega, HD3⟩
              case measure => simp [intOf]; omega
            · as_aux_lemma =>
              subst hcs
              have hef : ((ofL (ctrlS ca cb)).toList == [70, 76, 71, 40, 110, 41]) = false := by
                rw [ByteArray.toList_eq, ofL_data, beq_eq_false_iff_ne]; unfold ctrlS; simp
              have hi5 : ∀ x : World, (Instr.index 9 (.string (ofL (ctrlS ca cb))) (.int .i64 5)).run Tryz.prog x = .ok (.int .u8 (ca.toNat : Int)) x := fun _ => rfl
              have hi6 : ∀ x : World, (Instr.index 9 (.string (ofL (ctrlS ca cb))) (.int .i64 6)).run Tryz.prog x = .ok (.int .u8 (cb.toNat : Int)) x := fun _ => rfl
              have HCA := Lib.hid hca
              have HLB : Hid (cb = 76 → modeT ca < 5) := Lib.hid (fun h => by
                have := hcb9 h
                rcases hca with rfl | rfl | rfl | rfl | rfl | rfl <;> first | decide | exact absurd rfl this)
              clear hca hcb9
              have hmt : modeT ca < 6 := by rcases HCA.out with rfl | rfl | rfl | rfl | rfl | rfl <;> decide
              have HD3 : Hid (DecT l o w w.heap.size Nr (.slice rA rn rc) w2 (idx + 4) (if cb = 76 then modeT ca else sh) (modeT ca) N (.slice dA dn dc)) := Lib.hid (by
                obtain ⟨⟨o', ro, out, h1, h2, h3, h4⟩, h5, h6, h7⟩ := HD2.out
                have h8 := GoOn.ctrl h1 (by omega) (by rw [List.length_drop, HN.out, HZ.out]; omega) ca cb HS.out.symm
                rw [List.drop_drop, HZ.out] at h8
                exact ⟨⟨o', ro, out, h8, h2, h3, h4⟩, h5, h6, h7⟩)
              clear HD2
              obtain ⟨y, hy⟩ : ∃ y, y = cb.toNat := ⟨_, rfl⟩
              rw [← hy] at hi6
              obtain ⟨md, hmd⟩ : ∃ md, md = modeT ca := ⟨_, rfl⟩
              rw [← hmd] at HD3 hmt
              have hgt := fun x => getTable_any ca x HCA.out
              rw [← hmd] at hgt
              have HLB2 : Hid (cb = 76 → md < 5) := Lib.hid (by rw [hmd]; exact HLB.out)
              have HGT := Lib.hid hgt
              have hpre := fun x => ctrlPre_yes ca cb x
              have HPRE := Lib.hid hpre
              clear hmd hgt hpre HS HCA
              by_cases hcb : cb = 76
              · have hcb2 : ((y : Int) == 76) = true := by rw [hy, hcb]; rfl
                rw [if_pos hcb] at HD3
                have hmt5 : md < 5 := HLB2.out hcb
                clear hcb hy
                generalize ofL (ctrlS ca cb) = S at *
                go_wp2_with fail
                refine (HPRE.out _).mono ?_
                rintro e w2 ⟨rfl, rfl⟩
                go_wp2_with fail
                refine (HGT.out _).mono ?_
                rintro e w2 ⟨rfl, rfl⟩
                clear hi5
                go_wp2
                go_roundw
                case rel => exact ⟨_, md, md, Nr, N, rn, rc, dn, dc, rA, dA, rfl, rfl, by omega, by go_num, rfl, rfl, by omega, hmt, by omega, HD3⟩
                case measure => simp [intOf]; omega
              · have hcb2 : ((y : Int) == 76) = false := by
                  rw [beq_eq_false_iff_ne]; intro h; exact hcb (UInt8.toNat_inj.1 (by rw [← hy, show (76 : UInt8).toNat = 76 from rfl]; omega))
                rw [if_neg hcb] at HD3
                clear hcb hy
                generalize ofL (ctrlS ca cb) = S at *
                go_wp2_with fail
                refine (HPRE.out _).mono ?_
                rintro e w2 ⟨rfl, rfl⟩
                go_wp2_with fail
                refine (HGT.out _).mono ?_
                rintro e w2 ⟨rfl, rfl⟩
                clear hi5
                go_wp2
                go_roundw
                case rel => exact ⟨_, sh, md, Nr, N, rn, rc, dn, dc, rA, dA, rfl, rfl, by omega, by go_num, rfl, rfl, by omega, hmt, by omega, HD3⟩
                case measure => simp [intOf]; omega
            · as_aux_lemma =>
              subst hfl
              have hef : ((ofL flgS).toList == [70, 76, 71, 40, 110, 41]) = true := by
                rw [ByteArray.toList_eq, ofL_data]; rfl
              obtain ⟨i1, hi1⟩ : ∃ i1, i1 = idx + 4 := ⟨_, rfl⟩
              have ei1 : (idx : Int) + 4 = (i1 : Int) := by omega
              have hi1n : i1 ≤ n := by omega
              have hNi1 : Nr + N ≤ idx := hNi
              obtain ⟨wr, rfl⟩ : ∃ wo : World, wo = w2 := ⟨_, rfl⟩
              obtain ⟨⟨o', ro, out, h1, h2, h3, h4⟩, hap, hbel, hsz⟩ := HD2.out
              have hfg := GoOn.flg h1 (by omega) (by rw [List.length_drop, HN.out, HZ.out]; omega) HS.out.symm
              rw [List.drop_drop, HZ.out, ← hi1] at hfg
              have HR := Lib.hid h3
              have HO := Lib.hid h4
              have HAP := Lib.hid hap
              have HBB := Lib.hid (And.intro hbel hsz)
              have HOO := Lib.hid h2
              have hlr := h3.1
              have hlo := h4.1
              rw [bl_len] at hlr hlo
              have hi1i : idx < i1 := by omega
              have hrl : (l.drop i1).length = n - i1 := by rw [List.length_drop, HN.out]
              rcases hfg with ⟨f1, f2⟩ | ⟨f1, f2, o2, f3, f4⟩ | ⟨f1, f2, f3⟩ | ⟨f1, f2, f3, f4⟩
              · rw [hrl] at f1
                have HD : Hid (DecT l o w w.heap.size Nr (.slice rA rn rc) wr l.length lt lt N (.slice dA dn dc)) := Lib.hid ⟨⟨some [], ro, out, ⟨0, by simp, rfl⟩, by rw [h2, f2], h3, h4⟩, hap, hbel, hsz⟩
                clear h1 h2 h3 h4 hap hbel hsz f2 HD2 hi1
                have HX : Hid (∃ ro out, wr.ownsRow w.heap.size 5 1 (.slice rA rn rc) Nr (bl ro) ∧ wr.ownsRow w.heap.size 5 1 (.slice dA dn dc) N (bl out) ∧ o = some (ro ++ out)) := Lib.hid (by
                  obtain ⟨o', ro, out, h1, h2, h3, h4⟩ := HD.out.dec
                  exact ⟨ro, out, h3, h4, by rw [h2, GoOn.end_ h1 (by simp)]; simp⟩)
                obtain ⟨ro, out, hr, ho, he⟩ := HX.out
                have HO := Lib.hid ho
                have HRES := Lib.hid hr
                have HOE := Lib.hid he
                have HBB := Lib.hid (And.intro HD.out.below HD.out.size)
                clear ho hr he HX HD
                go_wp2_with (with_reducible refine stop_at (o := ⟨some 195, _, _, _, _, _⟩) ?_)
                refine Lib.hid ?_
                refine list_app_rd _ rfl _ _ 22 rfl w.heap.size 5 i0 _ 1 Tryz.underlying22 hi0 hz0 hz1 hz2 rfl _ Nr (bl ro) rfl HRES.out _ _ (bl out) rfl (Rd.of_own HO.out) (bl_one _) (by rw [bl_len]; have := HO.out.1; rw [bl_len] at this; unfold maxLen; omega) (by rw [bl_len]; have := HO.out.1; rw [bl_len] at this; omega) HBB.out.2 ?_
                intro v1 w3 ho1 hg1
                rw [← bl_app] at ho1
                have hcs := conv_str (P := Tryz.prog) w3 w3.heap.size 22 5 9 Tryz.underlying22 Tryz.underlying5 Tryz.underlying9 _ (ofL (ro ++ out)) (by rw [bytesOf_ofL]; exact Rd.of_own ho1)
                have HB3 : Hid (Below w.heap.size w w3) := Lib.hid (below_grown HBB.out.1 hg1 HRES.out HBB.out.2)
                clear ho1 hg1 HO HRES HBB
                go_wp2
                go_ret2
                exact ⟨.inl ⟨_, HOE.out, rfl⟩, HB3.out⟩
              · rw [hrl] at f1
                have e3 : ¬ ((n : Int) - (i1 : Int) < 3) := by omega
                clear h1 h2 h3 h4 hap hbel hsz HD2 hi1 hrl
                obtain ⟨q, hq⟩ : ∃ q, q = valL ((l.drop i1).take 3) := ⟨_, rfl⟩
                go_wp2_with fail
                refine (readCode_any _ l i1 3 w.heap.size _ (HV.out.below HBB.out.1) (by rw [HN.out]; omega) (by decide) (by rw [HN.out]; omega)).mono ?_
                rintro e wr ⟨rfl, rfl⟩
                rw [← hq]
                have HQ := Lib.hid hq
                clear hq
                have HFO := Lib.hid (own_form HO.out)
                go_wp2_with (with_reducible refine stop_at (o := ⟨some 118, _, _, _, _, _⟩) ?_)
                refine Lib.hid ?_
                refine list_app2 rfl _ _ 22 rfl w.heap.size 5 i0 _ 1 Tryz.underlying22 hi0 hz0 hz1 hz2 rfl _ Nr (bl ro) rfl HR.out _ _ (bl out) rfl (Rd.of_own HO.out) (bl_one _) (by rw [bl_len]; unfold maxLen; omega) (by rw [bl_len]; omega) HBB.out.2 ?_
                intro v3 w4 ho1 hg1 hl1
                rw [← bl_app, bl_len] at ho1
                obtain ⟨hq1, hq2⟩ := two_app HO.out (fun b h1 h2 => HAP.out b h2 h1) hg1 hl1
                have hq3 := own_cut hq1
                obtain ⟨rA2, rn2, rc2, rfl⟩ : ∃ A n c, v3 = .slice A n c := by obtain ⟨A, c, h, _⟩ := RdT.of_own ho1; exact ⟨_, _, _, h⟩
                have HR2 := Lib.hid ho1
                have HO2 := Lib.hid hq3
                have HAP2 : Hid (∀ b, (Value.slice rA2 rn2 rc2).ownBlock = some b → (Value.slice dA 0 dc).ownBlock ≠ some b) := Lib.hid (fun b h1 h2 => hq2 b (by
                  rcases dA with _ | ad
                  · simp [Value.ownBlock] at h2
                  · simpa [Value.ownBlock] using h2) h1)
                have HBB2 := Lib.hid (And.intro (below_grown HBB.out.1 hg1 HR.out HBB.out.2) (Nat.le_trans HBB.out.2 hg1.size))
                have hN2 : Nr + out.length = Nr + N := by omega
                rw [hN2] at HR2
                clear ho1 hq1 hq2 hq3 hg1 hl1 HR HO HAP HBB hN2 e3
                have HG := Lib.hid (And.intro f4 f3)
                clear f3 f4
                have hq := HQ.out
                rw [f2] at hq
                clear HQ
                subst hq
                go_wp2_with (with_reducible refine stop_at (o := ⟨some 168, _, _, _, _, _⟩) ?_)
                refine Lib.hid ?_
                refine list_app2 rfl _ _ 22 rfl w.heap.size 5 i0 _ 1 Tryz.underlying22 hi0 hz0 hz1 hz2 rfl _ (Nr + N) (bl (ro ++ out)) rfl (HR2.out.alloc _) _ _ [.int .u8 29] rfl (Rd.one rfl _ _) (fun u hu => by simp at hu; subst hu; rfl) (by simp only [List.length_singleton]; unfold maxLen; omega) (by simp only [List.length_singleton]; omega) (by have := HBB2.out.2; simp; omega) ?_
                intro v5 w5 ho5 hg5 hl5
                have ho6 : w5.ownsRow w.heap.size 5 1 v5 (Nr + N + 1) (bl (ro ++ out ++ [29])) := by rw [bl_app]; exact ho5
                obtain ⟨hq1, hq2⟩ := two_app (HO2.out.alloc _) (fun b h1 h2 => HAP2.out b h2 h1) hg5 hl5
                obtain ⟨rA3, rn3, rc3, rfl⟩ : ∃ A n c, v5 = .slice A n c := by obtain ⟨A, c, h, _⟩ := RdT.of_own ho6; exact ⟨_, _, _, h⟩
                have HD3 : Hid (DecT l o w w.heap.size (Nr + N + 1) (.slice rA3 rn3 rc3) w5 (i1 + 3) lt lt 0 (.slice dA 0 dc)) := Lib.hid ⟨⟨o2, ro ++ out ++ [29], [], by rw [← List.drop_drop]; exact HG.out.1, by
                    rw [HOO.out, HG.out.2, Option.map_map]
                    congr 1
                    funext z
                    simp, ho6, hq1⟩, fun b h1 h2 => hq2 b h2 h1, below_grown (HBB2.out.1.alloc HBB2.out.2 _) hg5 (HR2.out.alloc _) (by have := HBB2.out.2; simp; omega), Nat.le_trans HBB2.out.2 (Nat.le_trans (by simp) hg5.size)⟩
                clear ho5 ho6 hg5 hl5 hq1 hq2 HR2 HO2 HAP2 HBB2 HG HOO HFO hef
                go_wp2_with fail
                go_roundw
                case rel => exact ⟨i1 + 3, lt, lt, Nr + N + 1, 0, rn3, rc3, 0, dc, rA3, dA, rfl, rfl, by omega, by go_num, rfl, rfl, hlt5, by omega, by omega, HD3⟩
                case measure => simp [intOf]; omega
              · rw [hrl] at f1
                have e3 : ¬ ((n : Int) - (i1 : Int) < 3) := by omega
                clear h1 h2 h3 h4 hap hbel hsz HD2 hi1 hrl
                obtain ⟨q, hq⟩ : ∃ q, q = valL ((l.drop i1).take 3) := ⟨_, rfl⟩
                go_wp2_with fail
                refine (readCode_any _ l i1 3 w.heap.size _ (HV.out.below HBB.out.1) (by rw [HN.out]; omega) (by decide) (by rw [HN.out]; omega)).mono ?_
                rintro e wr ⟨rfl, rfl⟩
                rw [← hq]
                have HQ := Lib.hid hq
                clear hq
                have HFO := Lib.hid (own_form HO.out)
                go_wp2_with (with_reducible refine stop_at (o := ⟨some 118, _, _, _, _, _⟩) ?_)
                refine Lib.hid ?_
                refine list_app2 rfl _ _ 22 rfl w.heap.size 5 i0 _ 1 Tryz.underlying22 hi0 hz0 hz1 hz2 rfl _ Nr (bl ro) rfl HR.out _ _ (bl out) rfl (Rd.of_own HO.out) (bl_one _) (by rw [bl_len]; unfold maxLen; omega) (by rw [bl_len]; omega) HBB.out.2 ?_
                intro v3 w4 ho1 hg1 hl1
                rw [← bl_app, bl_len] at ho1
                obtain ⟨hq1, hq2⟩ := two_app HO.out (fun b h1 h2 => HAP.out b h2 h1) hg1 hl1
                have hq3 := own_cut hq1
                obtain ⟨rA2, rn2, rc2, rfl⟩ : ∃ A n c, v3 = .slice A n c := by obtain ⟨A, c, h, _⟩ := RdT.of_own ho1; exact ⟨_, _, _, h⟩
                have HR2 := Lib.hid ho1
                have HO2 := Lib.hid hq3
                have HAP2 : Hid (∀ b, (Value.slice rA2 rn2 rc2).ownBlock = some b → (Value.slice dA 0 dc).ownBlock ≠ some b) := Lib.hid (fun b h1 h2 => hq2 b (by
                  rcases dA with _ | ad
                  · simp [Value.ownBlock] at h2
                  · simpa [Value.ownBlock] using h2) h1)
                have HBB2 := Lib.hid (And.intro (below_grown HBB.out.1 hg1 HR.out HBB.out.2) (Nat.le_trans HBB.out.2 hg1.size))
                have hN2 : Nr + out.length = Nr + N := by omega
                rw [hN2] at HR2
                clear ho1 hq1 hq2 hq3 hg1 hl1 HR HO HAP HBB hN2 e3
                have hq := HQ.out
                rw [f2] at hq
                clear HQ
                subst hq
                have hnone : o = none := by rw [HOO.out, f3]; rfl
                have HNO := Lib.hid hnone
                have hcv : ∀ wq, Below w4.heap.size w4 wq → (convert 22 9 (.slice rA2 rn2 rc2)).run Tryz.prog wq = .ok (.string (ofL (ro ++ out))) wq := fun wq hb => conv_str (P := Tryz.prog) wq wq.heap.size 22 5 9 Tryz.underlying22 Tryz.underlying5 Tryz.underlying9 _ (ofL (ro ++ out)) (by rw [bytesOf_ofL]; exact Rd.of_own (own_up HR2.out hb))
                clear hnone f3 HOO
                go_wp2_with fail
                refine Can.wp_region_can (fun w' => Below w4.heap.size w4 w') 999 [0, 1, 2, 3, 4, 5, 6] (by kernel_rfl) (by kernel_rfl) (fun _ _ d _ _ h => by cases d <;> exact h) (bdr (brf w4)) (fun hHeld => ?_)
                repeat (refine Can.can_pure (v := ?_) rfl rfl (Or.inl ⟨by rfl, ?_⟩) ?_; rotate_left; (focus ((intro w hSw); (try dsimp only at hSw); go_simp; (try with_reducible rfl))); (try simp only [Act.put, List.getElem_toArray, List.getElem_cons_succ, List.getElem_cons_zero, List.setIfInBounds_toArray, List.set_cons_zero, List.set_cons_succ]))
                refine Can.can_eff rfl rfl (by rfl) (fun K hK => ?_)
                go_simp
                refine hK.out _ _ (bal hHeld _) (fun hHeld1 => ?_)
                clear hK K
                (try simp only [Act.put, List.getElem_toArray, List.getElem_cons_succ, List.getElem_cons_zero, List.setIfInBounds_toArray, List.set_cons_zero, List.set_cons_succ])
                repeat (refine Can.can_pure (v := ?_) rfl rfl (Or.inl ⟨by rfl, ?_⟩) ?_; rotate_left; (focus ((intro w hSw); (try dsimp only at hSw); go_simp; (try with_reducible rfl))); (try simp only [Act.put, List.getElem_toArray, List.getElem_cons_succ, List.getElem_cons_zero, List.setIfInBounds_toArray, List.set_cons_zero, List.set_cons_succ]))
                refine Can.can_eff rfl rfl (by rfl) (fun K hK => ?_)
                go_simp
                refine ((newF_any _ _)).mono ?_
                rintro e w6 ⟨⟨t6, u6, rfl⟩, hb6⟩
                refine hK.out _ _ (bup hHeld1 hb6) (fun hHeld2 => ?_)
                clear hK K
                (try simp only [Act.put, List.getElem_toArray, List.getElem_cons_succ, List.getElem_cons_zero, List.setIfInBounds_toArray, List.set_cons_zero, List.set_cons_succ])
                repeat (refine Can.can_pure (v := ?_) rfl rfl (Or.inl ⟨by rfl, ?_⟩) ?_; rotate_left; (focus ((intro w hSw); (try dsimp only at hSw); go_simp; (try with_reducible rfl))); (try simp only [Act.put, List.getElem_toArray, List.getElem_cons_succ, List.getElem_cons_zero, List.setIfInBounds_toArray, List.set_cons_zero, List.set_cons_succ]))
                refine Can.can_done ?_
                have HBF := Lib.hid (HBB2.out.1.trans (hHeld2.mono HBB2.out.2))
                clear hHeld hHeld1 hHeld2 hb6 hcv
                go_wp2_with fail
                go_ret2
                exact ⟨.inr ⟨HNO.out, _, _, _, rfl⟩, HBF.out⟩
              · rw [hrl] at f1
                have e3 : ¬ ((n : Int) - (i1 : Int) < 3) := by omega
                clear h1 h2 h3 h4 hap hbel hsz HD2 hi1 hrl
                obtain ⟨q, hq⟩ : ∃ q, q = valL ((l.drop i1).take 3) := ⟨_, rfl⟩
                go_wp2_with fail
                refine (readCode_any _ l i1 3 w.heap.size _ (HV.out.below HBB.out.1) (by rw [HN.out]; omega) (by decide) (by rw [HN.out]; omega)).mono ?_
                rintro e wr ⟨rfl, rfl⟩
                rw [← hq]
                have HQ := Lib.hid hq
                clear hq
                have HFO := Lib.hid (own_form HO.out)
                go_wp2_with (with_reducible refine stop_at (o := ⟨some 118, _, _, _, _, _⟩) ?_)
                refine Lib.hid ?_
                refine list_app2 rfl _ _ 22 rfl w.heap.size 5 i0 _ 1 Tryz.underlying22 hi0 hz0 hz1 hz2 rfl _ Nr (bl ro) rfl HR.out _ _ (bl out) rfl (Rd.of_own HO.out) (bl_one _) (by rw [bl_len]; unfold maxLen; omega) (by rw [bl_len]; omega) HBB.out.2 ?_
                intro v3 w4 ho1 hg1 hl1
                rw [← bl_app, bl_len] at ho1
                obtain ⟨hq1, hq2⟩ := two_app HO.out (fun b h1 h2 => HAP.out b h2 h1) hg1 hl1
                have hq3 := own_cut hq1
                obtain ⟨rA2, rn2, rc2, rfl⟩ : ∃ A n c, v3 = .slice A n c := by obtain ⟨A, c, h, _⟩ := RdT.of_own ho1; exact ⟨_, _, _, h⟩
                have HR2 := Lib.hid ho1
                have HO2 := Lib.hid hq3
                have HAP2 : Hid (∀ b, (Value.slice rA2 rn2 rc2).ownBlock = some b → (Value.slice dA 0 dc).ownBlock ≠ some b) := Lib.hid (fun b h1 h2 => hq2 b (by
                  rcases dA with _ | ad
                  · simp [Value.ownBlock] at h2
                  · simpa [Value.ownBlock] using h2) h1)
                have HBB2 := Lib.hid (And.intro (below_grown HBB.out.1 hg1 HR.out HBB.out.2) (Nat.le_trans HBB.out.2 hg1.size))
                have hN2 : Nr + out.length = Nr + N := by omega
                rw [hN2] at HR2
                clear ho1 hq1 hq2 hq3 hg1 hl1 HR HO HAP HBB hN2 e3
                have hq := HQ.out
                have hq8 := valL_lt ((l.drop i1).take 3)
                rw [List.length_take, List.length_drop, HN.out, Nat.min_eq_left (by omega), ← hq] at hq8
                rw [← hq] at f2 f3 f4
                have k0 : ((q : Int) == 0) = false := by rw [beq_eq_false_iff_ne]; omega
                have k7 : ((q : Int) == 7) = false := by rw [beq_eq_false_iff_ne]; omega
                have hq7 : q < 7 := by omega
                have k0n : ¬ (q = 0) := f2
                have k7n : ¬ (q = 7) := f3
                have k0i : ¬ ((q : Int) = 0) := by omega
                have k7i : ¬ ((q : Int) = 7) := by omega
                obtain ⟨j1, hj1⟩ : ∃ j, j = i1 + 3 := ⟨_, rfl⟩
                have ej1 : (i1 : Int) + 3 = (j1 : Int) := by omega
                rw [List.drop_drop, ← hj1, List.length_drop, HN.out] at f4
                have hj1n : j1 ≤ n := by omega
                have hij : i1 < j1 := by omega
                clear hq HQ hj1 f2 f3 hq8
                rcases f4 with ⟨g1, g2⟩ | ⟨g1, g2⟩
                · have hD3 : DecT l o w w.heap.size (Nr + N) (.slice rA2 rn2 rc2) w4 j1 lt lt 0 (.slice dA 0 dc) := ⟨⟨o', ro ++ out, [], g2, by rw [HOO.out]; simp, HR2.out, HO2.out⟩, HAP2.out, HBB2.out.1, HBB2.out.2⟩
                  have HD3 := Lib.hid hD3
                  have g3 : (n : Int) - (j1 : Int) < 4 * (q : Int) := by omega
                  clear g2 hD3 HR2 HO2 HAP2 HBB2 HOO HFO hef
                  go_wp2_with fail
                  go_roundw
                  case rel => exact ⟨j1, lt, lt, Nr + N, 0, rn2, rc2, 0, dc, rA2, dA, rfl, rfl, by omega, rfl, rfl, rfl, hlt5, by omega, by omega, HD3⟩
                  case measure => simp [intOf]; omega
                · have g3 : ¬ ((n : Int) - (j1 : Int) < 4 * (q : Int)) := by omega
                  obtain ⟨R, hR⟩ : ∃ R, R = eciD q (l.drop j1) 0 := ⟨_, rfl⟩
                  rw [← hR] at g2
                  have HG := Lib.hid g2
                  have HR9 := Lib.hid hR.symm
                  have hcv : ∀ wq, Below w4.heap.size w4 wq → (convert 22 9 (.slice rA2 rn2 rc2)).run Tryz.prog wq = .ok (.string (ofL (ro ++ out))) wq := fun wq hb => conv_str (P := Tryz.prog) wq wq.heap.size 22 5 9 Tryz.underlying22 Tryz.underlying5 Tryz.underlying9 _ (ofL (ro ++ out)) (by rw [bytesOf_ofL]; exact Rd.of_own (own_up HR2.out hb))
                  have HCV := Lib.hid hcv
                  clear g2 hR hcv hef
                  go_wp2_with fail
                  clear g3 k0 k7 k0i k7i
                  obtain ⟨wk, rfl⟩ : ∃ wo : World, wo = w4 := ⟨_, rfl⟩
                  go_loopw [11, 19, 20] (fun iv nv ev wr => ∃ (i k e d : Nat), k + d = q ∧ iv = .int .i64 (i : Int) ∧ nv = .int .i64 (k : Int) ∧ ev = .int .i64 (e : Int) ∧ i + 4 * k ≤ n ∧ j1 ≤ i ∧ e < 1000000 ∧ Hid (i = j1 + 4 * d) ∧ Hid (e < 10 ^ d) ∧ Hid (eciD k (l.drop i) e = R) ∧ wr = wk) (fun _ nv _ _ => (intOf nv).toNat)
                  case atStart => exact ⟨j1, q, 0, 0, by omega, rfl, rfl, rfl, by omega, Nat.le_refl _, by decide, Lib.hid (by omega), Lib.hid (by decide), HR9, rfl⟩
                  case round =>
                    rename World => wz
                    clear HR9
                    obtain ⟨i, k, e, d, hkd, rfl, rfl, rfl, hik, hji, he6, HI, HE, HRR, rfl⟩ := hrel
                    by_cases hk0 : 0 < k
                    · obtain ⟨k2, hk2⟩ : ∃ k2, k = k2 + 1 := ⟨k - 1, by omega⟩
                      have hRR := HRR.out
                      rw [hk2, eciD, List.drop_drop] at hRR
                      have hy := valL_lt ((l.drop i).take 4)
                      rw [List.length_take, List.length_drop, HN.out, Nat.min_eq_left (by omega)] at hy
                      have hrc := readCode_any _ l i 4 w.heap.size wz (HV.out.below HBB2.out.1) (by rw [HN.out]; omega) (by decide) (by rw [HN.out]; omega)
                      obtain ⟨y, hyy⟩ : ∃ y, y = valL ((l.drop i).take 4) := ⟨_, rfl⟩
                      rw [← hyy] at hRR hy hrc
                      have ek : (k : Int) - 1 = (k2 : Int) := by omega
                      have hk2' : k2 < k := by omega
                      clear hyy HRR
                      by_cases hbad : y < 2 ∨ 11 < y
                      · rw [if_pos hbad] at hRR
                        have HNO : Hid (o = none) := Lib.hid (by
                          rcases HG.out with ⟨_, h⟩ | ⟨e9, h, _⟩
                          · rw [HOO.out, h]; rfl
                          · rw [← hRR] at h; cases h)
                        have hcv := HCV.out
                        clear hRR HG HR2 HO2 HAP2 HOO HCV hk2
                        go_wp2_with fail
                        refine hrc.mono ?_
                        rintro e9 w8 ⟨rfl, hw8⟩
                        subst hw8
                        clear hrc
                        rcases hbad with hb1 | hb1
                        · have c1 : (y : Int) < 2 := by omega
                          go_wp2_with fail
                          refine Can.wp_region_can (fun w' => Below w8.heap.size w8 w') 999 [0, 1, 2, 3, 4, 5, 6] (by kernel_rfl) (by kernel_rfl) (fun _ _ d _ _ h => by cases d <;> exact h) (bdr (brf w8)) (fun hHeld => ?_)
                          repeat (refine Can.can_pure (v := ?_) rfl rfl (Or.inl ⟨by rfl, ?_⟩) ?_; rotate_left; (focus ((intro w hSw); (try dsimp only at hSw); go_simp; (try with_reducible rfl))); (try simp only [Act.put, List.getElem_toArray, List.getElem_cons_succ, List.getElem_cons_zero, List.setIfInBounds_toArray, List.set_cons_zero, List.set_cons_succ]))
                          refine Can.can_eff rfl rfl (by rfl) (fun K hK => ?_)
                          go_simp
                          refine hK.out _ _ (bal hHeld _) (fun hHeld1 => ?_)
                          clear hK K
                          (try simp only [Act.put, List.getElem_toArray, List.getElem_cons_succ, List.getElem_cons_zero, List.setIfInBounds_toArray, List.set_cons_zero, List.set_cons_succ])
                          repeat (refine Can.can_pure (v := ?_) rfl rfl (Or.inl ⟨by rfl, ?_⟩) ?_; rotate_left; (focus ((intro w hSw); (try dsimp only at hSw); go_simp; (try with_reducible rfl))); (try simp only [Act.put, List.getElem_toArray, List.getElem_cons_succ, List.getElem_cons_zero, List.setIfInBounds_toArray, List.set_cons_zero, List.set_cons_succ]))
                          refine Can.can_eff rfl rfl (by rfl) (fun K hK => ?_)
                          go_simp
                          refine ((newF_any _ _)).mono ?_
                          rintro e w6 ⟨⟨t6, u6, rfl⟩, hb6⟩
                          refine hK.out _ _ (bup hHeld1 hb6) (fun hHeld2 => ?_)
                          clear hK K
                          (try simp only [Act.put, List.getElem_toArray, List.getElem_cons_succ, List.getElem_cons_zero, List.setIfInBounds_toArray, List.set_cons_zero, List.set_cons_succ])
                          repeat (refine Can.can_pure (v := ?_) rfl rfl (Or.inl ⟨by rfl, ?_⟩) ?_; rotate_left; (focus ((intro w hSw); (try dsimp only at hSw); go_simp; (try with_reducible rfl))); (try simp only [Act.put, List.getElem_toArray, List.getElem_cons_succ, List.getElem_cons_zero, List.setIfInBounds_toArray, List.set_cons_zero, List.set_cons_succ]))
                          refine Can.can_done ?_
                          have HBF := Lib.hid (HBB2.out.1.trans (hHeld2.mono HBB2.out.2))
                          clear hHeld hHeld1 hHeld2 hb6 hcv
                          go_wp2_with fail
                          go_ret2
                          exact ⟨.inr ⟨HNO.out, _, _, _, rfl⟩, HBF.out⟩
                        · have c1 : ¬ ((y : Int) < 2) := by omega
                          have c2 : (11 : Int) < (y : Int) := by omega
                          go_wp2_with fail
                          refine Can.wp_region_can (fun w' => Below w8.heap.size w8 w') 999 [0, 1, 2, 3, 4, 5, 6] (by kernel_rfl) (by kernel_rfl) (fun _ _ d _ _ h => by cases d <;> exact h) (bdr (brf w8)) (fun hHeld => ?_)
                          repeat (refine Can.can_pure (v := ?_) rfl rfl (Or.inl ⟨by rfl, ?_⟩) ?_; rotate_left; (focus ((intro w hSw); (try dsimp only at hSw); go_simp; (try with_reducible rfl))); (try simp only [Act.put, List.getElem_toArray, List.getElem_cons_succ, List.getElem_cons_zero, List.setIfInBounds_toArray, List.set_cons_zero, List.set_cons_succ]))
                          refine Can.can_eff rfl rfl (by rfl) (fun K hK => ?_)
                          go_simp
                          refine hK.out _ _ (bal hHeld _) (fun hHeld1 => ?_)
                          clear hK K
                          (try simp only [Act.put, List.getElem_toArray, List.getElem_cons_succ, List.getElem_cons_zero, List.setIfInBounds_toArray, List.set_cons_zero, List.set_cons_succ])
                          repeat (refine Can.can_pure (v := ?_) rfl rfl (Or.inl ⟨by rfl, ?_⟩) ?_; rotate_left; (focus ((intro w hSw); (try dsimp only at hSw); go_simp; (try with_reducible rfl))); (try simp only [Act.put, List.getElem_toArray, List.getElem_cons_succ, List.getElem_cons_zero, List.setIfInBounds_toArray, List.set_cons_zero, List.set_cons_succ]))
                          refine Can.can_eff rfl rfl (by rfl) (fun K hK => ?_)
                          go_simp
                          refine ((newF_any _ _)).mono ?_
                          rintro e w6 ⟨⟨t6, u6, rfl⟩, hb6⟩
                          refine hK.out _ _ (bup hHeld1 hb6) (fun hHeld2 => ?_)
                          clear hK K
                          (try simp only [Act.put, List.getElem_toArray, List.getElem_cons_succ, List.getElem_cons_zero, List.setIfInBounds_toArray, List.set_cons_zero, List.set_cons_succ])
                          repeat (refine Can.can_pure (v := ?_) rfl rfl (Or.inl ⟨by rfl, ?_⟩) ?_; rotate_left; (focus ((intro w hSw); (try dsimp only at hSw); go_simp; (try with_reducible rfl))); (try simp only [Act.put, List.getElem_toArray, List.getElem_cons_succ, List.getElem_cons_zero, List.setIfInBounds_toArray, List.set_cons_zero, List.set_cons_succ]))
                          refine Can.can_done ?_
                          have HBF := Lib.hid (HBB2.out.1.trans (hHeld2.mono HBB2.out.2))
                          clear hHeld hHeld1 hHeld2 hb6 hcv
                          go_wp2_with fail
                          go_ret2
                          exact ⟨.inr ⟨HNO.out, _, _, _, rfl⟩, HBF.out⟩
                      · rw [if_neg hbad] at hRR
                        have hE := HE.out
                        obtain ⟨e2, he2⟩ : ∃ e2, e2 = e * 10 + (y - 2) := ⟨_, rfl⟩
                        rw [← he2] at hRR
                        have hp10 : 10 ^ (d + 1) = 10 * 10 ^ d := by rw [Nat.pow_succ]; omega
                        have hp6 : 10 ^ (d + 1) ≤ 10 ^ 6 := Nat.pow_le_pow_right (by decide) (by omega)
                        have hE2 : e2 < 10 ^ (d + 1) := by omega
                        have HE2 := Lib.hid hE2
                        have he26 : e2 < 1000000 := by omega
                        have HRR2 := Lib.hid hRR
                        have HI2 : Hid (i + 4 = j1 + 4 * (d + 1)) := Lib.hid (by have := HI.out; omega)
                        have c1 : ¬ ((y : Int) < 2) := by omega
                        have c2 : ¬ ((11 : Int) < (y : Int)) := by omega
                        have ee : (e : Int) * 10 + ((y : Int) - 2) = (e2 : Int) := by omega
                        clear hRR hE hE2 hp10 hp6 he2 hbad HE HI hk2
                        go_wp2_with fail
                        refine hrc.mono ?_
                        rintro e9 w8 ⟨rfl, hw8⟩
                        subst hw8
                        clear hrc
                        go_wp2_with fail
                        go_roundw
                        case rel => exact ⟨i + 4, k2, e2, d + 1, by omega, by go_num, rfl, rfl, by omega, by omega, he26, HI2, HE2, HRR2, trivial⟩
                        case measure => simp [intOf]; omega
                    · obtain rfl : k = 0 := by omega
                      have hRR := HRR.out
                      rw [eciD] at hRR
                      have hiq : i = j1 + 4 * q := by have := HI.out; omega
                      have hcv := HCV.out
                      by_cases h900 : e < 900
                      · have HGO : Hid (GoOn (l.drop i) lt lt o') := Lib.hid (by
                          rcases HG.out with ⟨h, _⟩ | ⟨e9, h, h8⟩
                          · rw [← hRR] at h; cases h
                          · rw [← hRR] at h; injection h with h; subst h
                            rcases h8 with ⟨h7, _⟩ | ⟨_, h7⟩
                            · omega
                            · rw [List.drop_drop, ← hiq] at h7; exact h7)
                        clear hRR HRR HI HE hiq hcv HCV HG
                        go_wp2_with fail
                        refine (eci_yes e _ h900).mono ?_
                        rintro e9 w6 ⟨⟨u6, rfl⟩, hb6⟩
                        have hD3 : DecT l o w w.heap.size (Nr + N) (.slice rA2 rn2 rc2) wz i lt lt 0 (.slice dA 0 dc) := ⟨⟨o', ro ++ out, [], HGO.out, by rw [HOO.out]; simp, HR2.out, HO2.out⟩, HAP2.out, HBB2.out.1, HBB2.out.2⟩
                        have HD3 := Lib.hid (hD3.up hb6)
                        clear hD3 hb6 HR2 HO2 HAP2 HBB2 HOO HFO HGO
                        go_wp2_with fail
                        go_roundw
                        case rel => exact ⟨i, lt, lt, Nr + N, 0, rn2, rc2, 0, dc, rA2, dA, rfl, rfl, by omega, rfl, rfl, rfl, hlt5, by omega, by omega, HD3⟩
                        case measure => simp [intOf]; omega
                      · have HNO : Hid (o = none) := Lib.hid (by
                          rcases HG.out with ⟨h, _⟩ | ⟨e9, h, h8⟩
                          · rw [← hRR] at h; cases h
                          · rw [← hRR] at h; injection h with h; subst h
                            rcases h8 with ⟨_, h7⟩ | ⟨h7, _⟩
                            · rw [HOO.out, h7]; rfl
                            · omega)
                        clear hRR HRR HI HE hiq HCV HG HR2 HO2 HAP2 HOO HFO
                        go_wp2_with fail
                        refine (eci_no e _ (by omega) (by omega)).mono ?_
                        rintro e9 w6 ⟨⟨t6, u6, rfl⟩, hb6⟩
                        have hcv6 : ∀ wq, Below w6.heap.size w6 wq → (convert 22 9 (.slice rA2 rn2 rc2)).run Tryz.prog wq = .ok (.string (ofL (ro ++ out))) wq := fun wq hb => hcv wq (bup hb6 hb)
                        have HB6 := Lib.hid (And.intro (HBB2.out.1.trans (hb6.mono HBB2.out.2)) (Nat.le_trans HBB2.out.2 hb6.size))
                        clear hcv hb6 HBB2
                        go_wp2_with fail
                        refine Can.wp_region_can (fun w' => Below w6.heap.size w6 w') 999 [0, 1, 2, 3, 4, 5] (by kernel_rfl) (by kernel_rfl) (fun _ _ d _ _ h => by cases d <;> exact h) (bdr (brf w6)) (fun hHeld => ?_)
                        repeat (refine Can.can_pure (v := ?_) rfl rfl (Or.inl ⟨by rfl, ?_⟩) ?_; rotate_left; (focus ((intro w hSw); (try dsimp only at hSw); go_simp; (try with_reducible rfl))); (try simp only [Act.put, List.getElem_toArray, List.getElem_cons_succ, List.getElem_cons_zero, List.setIfInBounds_toArray, List.set_cons_zero, List.set_cons_succ]))
                        refine Can.can_eff rfl rfl (by rfl) (fun K hK => ?_)
                        go_simp
                        refine ((wrapF_any _ _ _)).mono ?_
                        rintro e w7 ⟨⟨t7, u7, rfl⟩, hb7⟩
                        refine hK.out _ _ (bup hHeld hb7) (fun hHeld1 => ?_)
                        clear hK K
                        (try simp only [Act.put, List.getElem_toArray, List.getElem_cons_succ, List.getElem_cons_zero, List.setIfInBounds_toArray, List.set_cons_zero, List.set_cons_succ])
                        repeat (refine Can.can_pure (v := ?_) rfl rfl (Or.inl ⟨by rfl, ?_⟩) ?_; rotate_left; (focus ((intro w hSw); (try dsimp only at hSw); go_simp; (try with_reducible rfl))); (try simp only [Act.put, List.getElem_toArray, List.getElem_cons_succ, List.getElem_cons_zero, List.setIfInBounds_toArray, List.set_cons_zero, List.set_cons_succ]))
                        refine Can.can_done ?_
                        have HBF := Lib.hid (HB6.out.1.trans (hHeld1.mono HB6.out.2))
                        clear hHeld hHeld1 hb7 hcv6
                        go_wp2_with fail
                        go_ret2
                        exact ⟨.inr ⟨HNO.out, _, _, _, rfl⟩, HBF.out⟩
        · have HZ : Hid (sizeT sh = 5) := Lib.hid (by unfold sizeT; rw [if_neg h3])
          have h3b : ((sh : Int) == 3) = false := by simp; omega
          have hsh5 : sh < 5 := by omega
          clear h3 h5
          by_cases hrs : n - idx < 5
          · have HX : Hid (∃ ro out, wr.ownsRow w.heap.size 5 1 (.slice rA rn rc) Nr (bl ro) ∧ wr.ownsRow w.heap.size 5 1 (.slice dA dn dc) N (bl out) ∧ o = some (ro ++ out)) := Lib.hid (by
              obtain ⟨o', ro, out, h1, h2, h3, h4⟩ := HD.out.dec
              exact ⟨ro, out, h3, h4, by rw [h2, GoOn.short h1 (by omega) (by rw [List.length_drop, HN.out, HZ.out]; exact hrs)]; simp⟩)
            obtain ⟨ro, out, hr, ho, he⟩ := HX.out
            have HO := Lib.hid ho
            have HRES := Lib.hid hr
            have HOE := Lib.hid he
            have HBB := Lib.hid (And.intro HD.out.below HD.out.size)
            clear ho hr he HX HD
            go_wp2_with (with_reducible refine stop_at (o := ⟨some 195, _, _, _, _, _⟩) ?_)
            refine Lib.hid ?_
            refine list_app_rd _ rfl _ _ 22 rfl w.heap.size 5 i0 _ 1 Tryz.underlying22 hi0 hz0 hz1 hz2 rfl _ Nr (bl ro) rfl HRES.out _ _ (bl out) rfl (Rd.of_own HO.out) (bl_one _) (by rw [bl_len]; have := HO.out.1; rw [bl_len] at this; unfold maxLen; omega) (by rw [bl_len]; have := HO.out.1; rw [bl_len] at this; omega) HBB.out.2 ?_
            intro v1 w3 ho1 hg1
            rw [← bl_app] at ho1
            have hcs := conv_str (P := Tryz.prog) w3 w3.heap.size 22 5 9 Tryz.underlying22 Tryz.underlying5 Tryz.underlying9 _ (ofL (ro ++ out)) (by rw [bytesOf_ofL]; exact Rd.of_own ho1)
            have HB3 : Hid (Below w.heap.size w w3) := Lib.hid (below_grown HBB.out.1 hg1 HRES.out HBB.out.2)
            clear ho1 hg1 HO HRES HBB
            go_wp2
            go_ret2
            exact ⟨.inl ⟨_, HOE.out, rfl⟩, HB3.out⟩
          · go_wp2_with fail
            refine (readCode_any _ l idx 5 w.heap.size _ (HV.out.below HD.out.below) (by rw [HN.out]; omega) (by decide) (by rw [HN.out]; omega)).mono ?_
            rintro e wr ⟨rfl, rfl⟩
            have hc0 := valL_lt ((l.drop idx).take 5)
            rw [List.length_take, List.length_drop, HN.out, Nat.min_eq_left (by omega)] at hc0
            obtain ⟨c, hcc⟩ : ∃ c, c = valL ((l.drop idx).take 5) := ⟨_, rfl⟩
            rw [← hcc] at hc0 ⊢
            have HC := Lib.hid hcc; clear hcc
            clear h5b h3b
            go_wp2_with fail
            refine (getChar_any sh c _ hsh5 (by rw [HZ.out]; exact hc0)).mono ?_
            rintro e w2 ⟨rfl, hb2⟩
            have HD2 := Lib.hid (HD.out.up hb2)
            have hent := tab_ent sh c hsh5 (by rw [HZ.out]; exact hc0)
            clear HD hb2
            obtain ⟨s, hs⟩ : ∃ s, s = tabS sh c := ⟨_, rfl⟩
            rw [← hs] at hent ⊢
            have HS : Hid (s = tabS sh (valL ((l.drop idx).take (sizeT sh)))) := Lib.hid (by rw [hs, HC.out, HZ.out])
            clear hs
            rcases hent with ⟨hnf, hnc, hne, hle⟩ | ⟨ca, cb, hcs, hca, hcb9⟩ | hfl
            · as_aux_lemma =>
              have hef : ((ofL s).toList == [70, 76, 71, 40, 110, 41]) = false := by
                rw [ByteArray.toList_eq, ofL_data, beq_eq_false_iff_ne]; exact hnf
              have HE := Lib.hid (And.intro hnf hnc)
              have hsz2 : (ofL s).size ≤ 100 := by rw [ofL_size]; omega
              obtain ⟨v1, w3, hcv, hrd, hb3⟩ := conv_any (P := Tryz.prog) w2 9 22 5 (ofL s) Tryz.underlying9 Tryz.underlying22 Tryz.underlying5 (by unfold maxLen; omega)
              rw [bytesOf_ofL] at hrd
              obtain ⟨o', ro, out, h1, h2, h3, h4⟩ := HD2.out.dec
              obtain ⟨o2, h7, h8⟩ := GoOn.text h1 (by omega) (by rw [List.length_drop, HN.out, HZ.out]; omega) (by rw [← HS.out]; exact hnf) (by rw [← HS.out]; exact hnc)
              rw [← HS.out] at h7
              rw [List.drop_drop, HZ.out] at h8
              have HST := Lib.hid (And.intro h8 (map_app h2 h7))
              have HO := Lib.hid (own_up h4 hb3)
              have hlen := h4.1
              rw [bl_len] at hlen
              have HRES := Lib.hid (And.intro (own_up h3 hb3) HD2.out.apart)
              have HBB := Lib.hid (And.intro (HD2.out.below.trans (hb3.mono HD2.out.size)) (Nat.le_trans HD2.out.size hb3.size))
              have HRD := Lib.hid hrd
              clear h1 h2 h3 h4 h7 h8 HD2 hnf hnc hrd hb3 hlen
              go_wp2_with fail
              refine (ctrlPre_no s _ (by omega) HE.out.2).mono ?_
              rintro e w2 ⟨rfl, rfl⟩
              go_wp2_with (with_reducible refine stop_at (o := ⟨some 191, _, _, _, _, _⟩) ?_)
              refine Lib.hid ?_
              refine list_app2 rfl _ _ 22 rfl w.heap.size 5 i0 _ 1 Tryz.underlying22 hi0 hz0 hz1 hz2 rfl _ N (bl out) rfl HO.out _ _ (bl s) rfl HRD.out (bl_one _) (by rw [bl_len]; unfold maxLen; omega) (by rw [bl_len]; omega) HBB.out.2 ?_
              intro v2 w4 ho1 hg1 hl1
              rw [← bl_app, bl_len] at ho1
              obtain ⟨hq1, hq2⟩ := two_app HRES.out.1 HRES.out.2 hg1 hl1
              obtain ⟨dA2, dn2, dc2, rfl⟩ : ∃ A n c, v2 = .slice A n c := by obtain ⟨A, c, h, _⟩ := RdT.of_own ho1; exact ⟨_, _, _, h⟩
              have HD3 : Hid (DecT l o w w.heap.size Nr (.slice rA rn rc) w4 (idx + 5) lt lt (N + s.length) (.slice dA2 dn2 dc2)) := Lib.hid ⟨⟨o2, ro, _, HST.out.1, HST.out.2, hq1, ho1⟩, hq2, below_grown HBB.out.1 hg1 HO.out HBB.out.2, Nat.le_trans HBB.out.2 hg1.size⟩
              clear ho1 hg1 hl1 hq1 hq2 HST HO HRES HBB hcv hef
              go_wp2
              go_roundw
              case rel => exact ⟨idx + 5, lt, lt, Nr, N + s.length, rn, rc, dn2, dc2, rA, dA2, rfl, rfl, by omega, by go_num, rfl, rfl, hlt5, by omega, by omega, HD3⟩
              case measure => simp [intOf]; omega
            · as_aux_lemma =>
              subst hcs
              have hef : ((ofL (ctrlS ca cb)).toList == [70, 76, 71, 40, 110, 41]) = false := by
                rw [ByteArray.toList_eq, ofL_data, beq_eq_false_iff_ne]; unfold ctrlS; simp
              have hi5 : ∀ x : World, (Instr.index 9 (.string (ofL (ctrlS ca cb))) (.int .i64 5)).run Tryz.prog x = .ok (.int .u8 (ca.toNat : Int)) x := fun _ => rfl
              have hi6 : ∀ x : World, (Instr.index 9 (.string (ofL (ctrlS ca cb))) (.int .i64 6)).run Tryz.prog x = .ok (.int .u8 (cb.toNat : Int)) x := fun _ => rfl
              have HCA := Lib.hid hca
              have HLB : Hid (cb = 76 → modeT ca < 5) := Lib.hid (fun h => by
                have := hcb9 h
                rcases hca with rfl | rfl | rfl | rfl | rfl | rfl <;> first | decide | exact absurd rfl this)
              clear hca hcb9
              have hmt : modeT ca < 6 := by rcases HCA.out with rfl | rfl | rfl | rfl | rfl | rfl <;> decide
              have HD3 : Hid (DecT l o w w.heap.size Nr (.slice rA rn rc) w2 (idx + 5) (if cb = 76 then modeT ca else sh) (modeT ca) N (.slice dA dn dc)) := Lib.hid (by
                obtain ⟨⟨o', ro, out, h1, h2, h3, h4⟩, h5, h6, h7⟩ := HD2.out
                have h8 := GoOn.ctrl h1 (by omega) (by rw [List.length_drop, HN.out, HZ.out]; omega) ca cb HS.out.symm
                rw [List.drop_drop, HZ.out] at h8
                exact ⟨⟨o', ro, out, h8, h2, h3, h4⟩, h5, h6, h7⟩)
              clear HD2
              obtain ⟨y, hy⟩ : ∃ y, y = cb.toNat := ⟨_, rfl⟩
              rw [← hy] at hi6
              obtain ⟨md, hmd⟩ : ∃ md, md = modeT ca := ⟨_, rfl⟩
              rw [← hmd] at HD3 hmt
              have hgt := fun x => getTable_any ca x HCA.out
              rw [← hmd] at hgt
              have HLB2 : Hid (cb = 76 → md < 5) := Lib.hid (by rw [hmd]; exact HLB.out)
              have HGT := Lib.hid hgt
              have hpre := fun x => ctrlPre_yes ca cb x
              have HPRE := Lib.hid hpre
              clear hmd hgt hpre HS HCA
              by_cases hcb : cb = 76
              · have hcb2 : ((y : Int) == 76) = true := by rw [hy, hcb]; rfl
                rw [if_pos hcb] at HD3
                have hmt5 : md < 5 := HLB2.out hcb
                clear hcb hy
                generalize ofL (ctrlS ca cb) = S at *
                go_wp2_with fail
                refine (HPRE.out _).mono ?_
                rintro e w2 ⟨rfl, rfl⟩
                go_wp2_with fail
                refine (HGT.out _).mono ?_
                rintro e w2 ⟨rfl, rfl⟩
                clear hi5
                go_wp2
                go_roundw
                case rel => exact ⟨_, md, md, Nr, N, rn, rc, dn, dc, rA, dA, rfl, rfl, by omega, by go_num, rfl, rfl, by omega, hmt, by omega, HD3⟩
                case measure => simp [intOf]; omega
              · have hcb2 : ((y : Int) == 76) = false := by
                  rw [beq_eq_false_iff_ne]; intro h; exact hcb (UInt8.toNat_inj.1 (by rw [← hy, show (76 : UInt8).toNat = 76 from rfl]; omega))
                rw [if_neg hcb] at HD3
                clear hcb hy
                generalize ofL (ctrlS ca cb) = S at *
                go_wp2_with fail
                refine (HPRE.out _).mono ?_
                rintro e w2 ⟨rfl, rfl⟩
                go_wp2_with fail
                refine (HGT.out _).mono ?_
                rintro e w2 ⟨rfl, rfl⟩
                clear hi5
                go_wp2
                go_roundw
                case rel => exact ⟨_, sh, md, Nr, N, rn, rc, dn, dc, rA, dA, rfl, rfl, by omega, by go_num, rfl, rfl, by omega, hmt, by omega, HD3⟩
                case measure => simp [intOf]; omega
            · as_aux_lemma =>
              subst hfl
              have hef : ((ofL flgS).toList == [70, 76, 71, 40, 110, 41]) = true := by
                rw [ByteArray.toList_eq, ofL_data]; rfl
              obtain ⟨i1, hi1⟩ : ∃ i1, i1 = idx + 5 := ⟨_, rfl⟩
              have ei1 : (idx : Int) + 5 = (i1 : Int) := by omega
              have hi1n : i1 ≤ n := by omega
              have hNi1 : Nr + N ≤ idx := hNi
              obtain ⟨wr, rfl⟩ : ∃ wo : World, wo = w2 := ⟨_, rfl⟩
              obtain ⟨⟨o', ro, out, h1, h2, h3, h4⟩, hap, hbel, hsz⟩ := HD2.out
              have hfg := GoOn.flg h1 (by omega) (by rw [List.length_drop, HN.out, HZ.out]; omega) HS.out.symm
              rw [List.drop_drop, HZ.out, ← hi1] at hfg
              have HR := Lib.hid h3
              have HO := Lib.hid h4
              have HAP := Lib.hid hap
              have HBB := Lib.hid (And.intro hbel hsz)
              have HOO := Lib.hid h2
              have hlr := h3.1
              have hlo := h4.1
              rw [bl_len] at hlr hlo
              have hi1i : idx < i1 := by omega
              have hrl : (l.drop i1).length = n - i1 := by rw [List.length_drop, HN.out]
              rcases hfg with ⟨f1, f2⟩ | ⟨f1, f2, o2, f3, f4⟩ | ⟨f1, f2, f3⟩ | ⟨f1, f2, f3, f4⟩
              · rw [hrl] at f1
                have HD : Hid (DecT l o w w.heap.size Nr (.slice rA rn rc) wr l.length lt lt N (.slice dA dn dc)) := Lib.hid ⟨⟨some [], ro, out, ⟨0, by simp, rfl⟩, by rw [h2, f2], h3, h4⟩, hap, hbel, hsz⟩
                clear h1 h2 h3 h4 hap hbel hsz f2 HD2 hi1
                have HX : Hid (∃ ro out, wr.ownsRow w.heap.size 5 1 (.slice rA rn rc) Nr (bl ro) ∧ wr.ownsRow w.heap.size 5 1 (.slice dA dn dc) N (bl out) ∧ o = some (ro ++ out)) := Lib.hid (by
                  obtain ⟨o', ro, out, h1, h2, h3, h4⟩ := HD.out.dec
                  exact ⟨ro, out, h3, h4, by rw [h2, GoOn.end_ h1 (by simp)]; simp⟩)
                obtain ⟨ro, out, hr, ho, he⟩ := HX.out
                have HO := Lib.hid ho
                have HRES := Lib.hid hr
                have HOE := Lib.hid he
                have HBB := Lib.hid (And.intro HD.out.below HD.out.size)
                clear ho hr he HX HD
                go_wp2_with (with_reducible refine stop_at (o := ⟨some 195, _, _, _, _, _⟩) ?_)
                refine Lib.hid ?_
                refine list_app_rd _ rfl _ _ 22 rfl w.heap.size 5 i0 _ 1 Tryz.underlying22 hi0 hz0 hz1 hz2 rfl _ Nr (bl ro) rfl HRES.out _ _ (bl out) rfl (Rd.of_own HO.out) (bl_one _) (by rw [bl_len]; have := HO.out.1; rw [bl_len] at this; unfold maxLen; omega) (by rw [bl_len]; have := HO.out.1; rw [bl_len] at this; omega) HBB.out.2 ?_
                intro v1 w3 ho1 hg1
                rw [← bl_app] at ho1
                have hcs := conv_str (P := Tryz.prog) w3 w3.heap.size 22 5 9 Tryz.underlying22 Tryz.underlying5 Tryz.underlying9 _ (ofL (ro ++ out)) (by rw [bytesOf_ofL]; exact Rd.of_own ho1)
                have HB3 : Hid (Below w.heap.size w w3) := Lib.hid (below_grown HBB.out.1 hg1 HRES.out HBB.out.2)
                clear ho1 hg1 HO HRES HBB
                go_wp2
                go_ret2
                exact ⟨.inl ⟨_, HOE.out, rfl⟩, HB3.out⟩
              · rw [hrl] at f1
                have e3 : ¬ ((n : Int) - (i1 : Int) < 3) := by omega
                clear h1 h2 h3 h4 hap hbel hsz HD2 hi1 hrl
                obtain ⟨q, hq⟩ : ∃ q, q = valL ((l.drop i1).take 3) := ⟨_, rfl⟩
                go_wp2_with fail
                refine (readCode_any _ l i1 3 w.heap.size _ (HV.out.below HBB.out.1) (by rw [HN.out]; omega) (by decide) (by rw [HN.out]; omega)).mono ?_
                rintro e wr ⟨rfl, rfl⟩
                rw [← hq]
                have HQ := Lib.hid hq
                clear hq
                have HFO := Lib.hid (own_form HO.out)
                go_wp2_with (with_reducible refine stop_at (o := ⟨some 118, _, _, _, _, _⟩) ?_)
                refine Lib.hid ?_
                refine list_app2 rfl _ _ 22 rfl w.heap.size 5 i0 _ 1 Tryz.underlying22 hi0 hz0 hz1 hz2 rfl _ Nr (bl ro) rfl HR.out _ _ (bl out) rfl (Rd.of_own HO.out) (bl_one _) (by rw [bl_len]; unfold maxLen; omega) (by rw [bl_len]; omega) HBB.out.2 ?_
                intro v3 w4 ho1 hg1 hl1
                rw [← bl_app, bl_len] at ho1
                obtain ⟨hq1, hq2⟩ := two_app HO.out (fun b h1 h2 => HAP.out b h2 h1) hg1 hl1
                have hq3 := own_cut hq1
                obtain ⟨rA2, rn2, rc2, rfl⟩ : ∃ A n c, v3 = .slice A n c := by obtain ⟨A, c, h, _⟩ := RdT.of_own ho1; exact ⟨_, _, _, h⟩
                have HR2 := Lib.hid ho1
                have HO2 := Lib.hid hq3
                have HAP2 : Hid (∀ b, (Value.slice rA2 rn2 rc2).ownBlock = some b → (Value.slice dA 0 dc).ownBlock ≠ some b) := Lib.hid (fun b h1 h2 => hq2 b (by
                  rcases dA with _ | ad
                  · simp [Value.ownBlock] at h2
                  · simpa [Value.ownBlock] using h2) h1)
                have HBB2 := Lib.hid (And.intro (below_grown HBB.out.1 hg1 HR.out HBB.out.2) (Nat.le_trans HBB.out.2 hg1.size))
                have hN2 : Nr + out.length = Nr + N := by omega
                rw [hN2] at HR2
                clear ho1 hq1 hq2 hq3 hg1 hl1 HR HO HAP HBB hN2 e3
                have HG := Lib.hid (And.intro f4 f3)
                clear f3 f4
                have hq := HQ.out
                rw [f2] at hq
                clear HQ
                subst hq
                go_wp2_with (with_reducible refine stop_at (o := ⟨some 168, _, _, _, _, _⟩) ?_)
                refine Lib.hid ?_
                refine list_app2 rfl _ _ 22 rfl w.heap.size 5 i0 _ 1 Tryz.underlying22 hi0 hz0 hz1 hz2 rfl _ (Nr + N) (bl (ro ++ out)) rfl (HR2.out.alloc _) _ _ [.int .u8 29] rfl (Rd.one rfl _ _) (fun u hu => by simp at hu; subst hu; rfl) (by simp only [List.length_singleton]; unfold maxLen; omega) (by simp only [List.length_singleton]; omega) (by have := HBB2.out.2; simp; omega) ?_
                intro v5 w5 ho5 hg5 hl5
                have ho6 : w5.ownsRow w.heap.size 5 1 v5 (Nr + N + 1) (bl (ro ++ out ++ [29])) := by rw [bl_app]; exact ho5
                obtain ⟨hq1, hq2⟩ := two_app (HO2.out.alloc _) (fun b h1 h2 => HAP2.out b h2 h1) hg5 hl5
                obtain ⟨rA3, rn3, rc3, rfl⟩ : ∃ A n c, v5 = .slice A n c := by obtain ⟨A, c, h, _⟩ := RdT.of_own ho6; exact ⟨_, _, _, h⟩
                have HD3 : Hid (DecT l o w w.heap.size (Nr + N + 1) (.slice rA3 rn3 rc3) w5 (i1 + 3) lt lt 0 (.slice dA 0 dc)) := Lib.hid ⟨⟨o2, ro ++ out ++ [29], [], by rw [← List.drop_drop]; exact HG.out.1, by
                    rw [HOO.out, HG.out.2, Option.map_map]
                    congr 1
                    funext z
                    simp, ho6, hq1⟩, fun b h1 h2 => hq2 b h2 h1, below_grown (HBB2.out.1.alloc HBB2.out.2 _) hg5 (HR2.out.alloc _) (by have := HBB2.out.2; simp; omega), Nat.le_trans HBB2.out.2 (Nat.le_trans (by simp) hg5.size)⟩
                clear ho5 ho6 hg5 hl5 hq1 hq2 HR2 HO2 HAP2 HBB2 HG HOO HFO hef
                go_wp2_with fail
                go_roundw
                case rel => exact ⟨i1 + 3, lt, lt, Nr + N + 1, 0, rn3, rc3, 0, dc, rA3, dA, rfl, rfl, by omega, by go_num, rfl, rfl, hlt5, by omega, by omega, HD3⟩
                case measure => simp [intOf]; omega
              · rw [hrl] at f1
                have e3 : ¬ ((n : Int) - (i1 : Int) < 3) := by omega
                clear h1 h2 h3 h4 hap hbel hsz HD2 hi1 hrl
                obtain ⟨q, hq⟩ : ∃ q, q = valL ((l.drop i1).take 3) := ⟨_, rfl⟩
                go_wp2_with fail
                refine (readCode_any _ l i1 3 w.heap.size _ (HV.out.below HBB.out.1) (by rw [HN.out]; omega) (by decide) (by rw [HN.out]; omega)).mono ?_
                rintro e wr ⟨rfl, rfl⟩
                rw [← hq]
                have HQ := Lib.hid hq
                clear hq
                have HFO := Lib.hid (own_form HO.out)
                go_wp2_with (with_reducible refine stop_at (o := ⟨some 118, _, _, _, _, _⟩) ?_)
                refine Lib.hid ?_
                refine list_app2 rfl _ _ 22 rfl w.heap.size 5 i0 _ 1 Tryz.underlying22 hi0 hz0 hz1 hz2 rfl _ Nr (bl ro) rfl HR.out _ _ (bl out) rfl (Rd.of_own HO.out) (bl_one _) (by rw [bl_len]; unfold maxLen; omega) (by rw [bl_len]; omega) HBB.out.2 ?_
                intro v3 w4 ho1 hg1 hl1
                rw [← bl_app, bl_len] at ho1
                obtain ⟨hq1, hq2⟩ := two_app HO.out (fun b h1 h2 => HAP.out b h2 h1) hg1 hl1
                have hq3 := own_cut hq1
                obtain ⟨rA2, rn2, rc2, rfl⟩ : ∃ A n c, v3 = .slice A n c := by obtain ⟨A, c, h, _⟩ := RdT.of_own ho1; exact ⟨_, _, _, h⟩
                have HR2 := Lib.hid ho1
                have HO2 := Lib.hid hq3
                have HAP2 : Hid (∀ b, (Value.slice rA2 rn2 rc2).ownBlock = some b → (Value.slice dA 0 dc).ownBlock ≠ some b) := Lib.hid (fun b h1 h2 => hq2 b (by
                  rcases dA with _ | ad
                  · simp [Value.ownBlock] at h2
                  · simpa [Value.ownBlock] using h2) h1)
                have HBB2 := Lib.hid (And.intro (below_grown HBB.out.1 hg1 HR.out HBB.out.2) (Nat.le_trans HBB.out.2 hg1.size))
                have hN2 : Nr + out.length = Nr + N := by omega
                rw [hN2] at HR2
                clear ho1 hq1 hq2 hq3 hg1 hl1 HR HO HAP HBB hN2 e3
                have hq := HQ.out
                rw [f2] at hq
                clear HQ
                subst hq
                have hnone : o = none := by rw [HOO.out, f3]; rfl
                have HNO := Lib.hid hnone
                have hcv : ∀ wq, Below w4.heap.size w4 wq → (convert 22 9 (.slice rA2 rn2 rc2)).run Tryz.prog wq = .ok (.string (ofL (ro ++ out))) wq := fun wq hb => conv_str (P := Tryz.prog) wq wq.heap.size 22 5 9 Tryz.underlying22 Tryz.underlying5 Tryz.underlying9 _ (ofL (ro ++ out)) (by rw [bytesOf_ofL]; exact Rd.of_own (own_up HR2.out hb))
                clear hnone f3 HOO
                go_wp2_with fail
                refine Can.wp_region_can (fun w' => Below w4.heap.size w4 w') 999 [0, 1, 2, 3, 4, 5, 6] (by kernel_rfl) (by kernel_rfl) (fun _ _ d _ _ h => by cases d <;> exact h) (bdr (brf w4)) (fun hHeld => ?_)
                repeat (refine Can.can_pure (v := ?_) rfl rfl (Or.inl ⟨by rfl, ?_⟩) ?_; rotate_left; (focus ((intro w hSw); (try dsimp only at hSw); go_simp; (try with_reducible rfl))); (try simp only [Act.put, List.getElem_toArray, List.getElem_cons_succ, List.getElem_cons_zero, List.setIfInBounds_toArray, List.set_cons_zero, List.set_cons_succ]))
                refine Can.can_eff rfl rfl (by rfl) (fun K hK => ?_)
                go_simp
                refine hK.out _ _ (bal hHeld _) (fun hHeld1 => ?_)
                clear hK K
                (try simp only [Act.put, List.getElem_toArray, List.getElem_cons_succ, List.getElem_cons_zero, List.setIfInBounds_toArray, List.set_cons_zero, List.set_cons_succ])
                repeat (refine Can.can_pure (v := ?_) rfl rfl (Or.inl ⟨by rfl, ?_⟩) ?_; rotate_left; (focus ((intro w hSw); (try dsimp only at hSw); go_simp; (try with_reducible rfl))); (try simp only [Act.put, List.getElem_toArray, List.getElem_cons_succ, List.getElem_cons_zero, List.setIfInBounds_toArray, List.set_cons_zero, List.set_cons_succ]))
                refine Can.can_eff rfl rfl (by rfl) (fun K hK => ?_)
                go_simp
                refine ((newF_any _ _)).mono ?_
                rintro e w6 ⟨⟨t6, u6, rfl⟩, hb6⟩
                refine hK.out _ _ (bup hHeld1 hb6) (fun hHeld2 => ?_)
                clear hK K
                (try simp only [Act.put, List.getElem_toArray, List.getElem_cons_succ, List.getElem_cons_zero, List.setIfInBounds_toArray, List.set_cons_zero, List.set_cons_succ])
                repeat (refine Can.can_pure (v := ?_) rfl rfl (Or.inl ⟨by rfl, ?_⟩) ?_; rotate_left; (focus ((intro w hSw); (try dsimp only at hSw); go_simp; (try with_reducible rfl))); (try simp only [Act.put, List.getElem_toArray, List.getElem_cons_succ, List.getElem_cons_zero, List.setIfInBounds_toArray, List.set_cons_zero, List.set_cons_succ]))
                refine Can.can_done ?_
                have HBF := Lib.hid (HBB2.out.1.trans (hHeld2.mono HBB2.out.2))
                clear hHeld hHeld1 hHeld2 hb6 hcv
                go_wp2_with fail
                go_ret2
                exact ⟨.inr ⟨HNO.out, _, _, _, rfl⟩, HBF.out⟩
              · rw [hrl] at f1
                have e3 : ¬ ((n : Int) - (i1 : Int) < 3) := by omega
                clear h1 h2 h3 h4 hap hbel hsz HD2 hi1 hrl
                obtain ⟨q, hq⟩ : ∃ q, q = valL ((l.drop i1).take 3) := ⟨_, rfl⟩
                go_wp2_with fail
                refine (readCode_any _ l i1 3 w.heap.size _ (HV.out.below HBB.out.1) (by rw [HN.out]; omega) (by decide) (by rw [HN.out]; omega)).mono ?_
                rintro e wr ⟨rfl, rfl⟩
                rw [← hq]
                have HQ := Lib.hid hq
                clear hq
                have HFO := Lib.hid (own_form HO.out)
                go_wp2_with (with_reducible refine stop_at (o := ⟨some 118, _, _, _, _, _⟩) ?_)
                refine Lib.hid ?_
                refine list_app2 rfl _ _ 22 rfl w.heap.size 5 i0 _ 1 Tryz.underlying22 hi0 hz0 hz1 hz2 rfl _ Nr (bl ro) rfl HR.out _ _ (bl out) rfl (Rd.of_own HO.out) (bl_one _) (by rw [bl_len]; unfold maxLen; omega) (by rw [bl_len]; omega) HBB.out.2 ?_
                intro v3 w4 ho1 hg1 hl1
                rw [← bl_app, bl_len] at ho1
                obtain ⟨hq1, hq2⟩ := two_app HO.out (fun b h1 h2 => HAP.out b h2 h1) hg1 hl1
                have hq3 := own_cut hq1
                obtain ⟨rA2, rn2, rc2, rfl⟩ : ∃ A n c, v3 = .slice A n c := by obtain ⟨A, c, h, _⟩ := RdT.of_own ho1; exact ⟨_, _, _, h⟩
                have HR2 := Lib.hid ho1
                have HO2 := Lib.hid hq3
                have HAP2 : Hid (∀ b, (Value.slice rA2 rn2 rc2).ownBlock = some b → (Value.slice dA 0 dc).ownBlock ≠ some b) := Lib.hid (fun b h1 h2 => hq2 b (by
                  rcases dA with _ | ad
                  · simp [Value.ownBlock] at h2
                  · simpa [Value.ownBlock] using h2) h1)
                have HBB2 := Lib.hid (And.intro (below_grown HBB.out.1 hg1 HR.out HBB.out.2) (Nat.le_trans HBB.out.2 hg1.size))
                have hN2 : Nr + out.length = Nr + N := by omega
                rw [hN2] at HR2
                clear ho1 hq1 hq2 hq3 hg1 hl1 HR HO HAP HBB hN2 e3
                have hq := HQ.out
                have hq8 := valL_lt ((l.drop i1).take 3)
                rw [List.length_take, List.length_drop, HN.out, Nat.min_eq_left (by omega), ← hq] at hq8
                rw [← hq] at f2 f3 f4
                have k0 : ((q : Int) == 0) = false := by rw [beq_eq_false_iff_ne]; omega
                have k7 : ((q : Int) == 7) = false := by rw [beq_eq_false_iff_ne]; omega
                have hq7 : q < 7 := by omega
                have k0n : ¬ (q = 0) := f2
                have k7n : ¬ (q = 7) := f3
                have k0i : ¬ ((q : Int) = 0) := by omega
                have k7i : ¬ ((q : Int) = 7) := by omega
                obtain ⟨j1, hj1⟩ : ∃ j, j = i1 + 3 := ⟨_, rfl⟩
                have ej1 : (i1 : Int) + 3 = (j1 : Int) := by omega
                rw [List.drop_drop, ← hj1, List.length_drop, HN.out] at f4
                have hj1n : j1 ≤ n := by omega
                have hij : i1 < j1 := by omega
                clear hq HQ hj1 f2 f3 hq8
                rcases f4 with ⟨g1, g2⟩ | ⟨g1, g2⟩
                · have hD3 : DecT l o w w.heap.size (Nr + N) (.slice rA2 rn2 rc2) w4 j1 lt lt 0 (.slice dA 0 dc) := ⟨⟨o', ro ++ out, [], g2, by rw [HOO.out]; simp, HR2.out, HO2.out⟩, HAP2.out, HBB2.out.1, HBB2.out.2⟩
                  have HD3 := Lib.hid hD3
                  have g3 : (n : Int) - (j1 : Int) < 4 * (q : Int) := by omega
                  clear g2 hD3 HR2 HO2 HAP2 HBB2 HOO HFO hef
                  go_wp2_with fail
                  go_roundw
                  case rel => exact ⟨j1, lt, lt, Nr + N, 0, rn2, rc2, 0, dc, rA2, dA, rfl, rfl, by omega, rfl, rfl, rfl, hlt5, by omega, by omega, HD3⟩
                  case measure => simp [intOf]; omega
                · have g3 : ¬ ((n : Int) - (j1 : Int) < 4 * (q : Int)) := by omega
                  obtain ⟨R, hR⟩ : ∃ R, R = eciD q (l.drop j1) 0 := ⟨_, rfl⟩
                  rw [← hR] at g2
                  have HG := Lib.hid g2
                  have HR9 := Lib.hid hR.symm
                  have hcv : ∀ wq, Below w4.heap.size w4 wq → (convert 22 9 (.slice rA2 rn2 rc2)).run Tryz.prog wq = .ok (.string (ofL (ro ++ out))) wq := fun wq hb => conv_str (P := Tryz.prog) wq wq.heap.size 22 5 9 Tryz.underlying22 Tryz.underlying5 Tryz.underlying9 _ (ofL (ro ++ out)) (by rw [bytesOf_ofL]; exact Rd.of_own (own_up HR2.out hb))
                  have HCV := Lib.hid hcv
                  clear g2 hR hcv hef
                  go_wp2_with fail
                  clear g3 k0 k7 k0i k7i
                  obtain ⟨wk, rfl⟩ : ∃ wo : World, wo = w4 := ⟨_, rfl⟩
                  go_loopw [11, 19, 20] (fun iv nv ev wr => ∃ (i k e d : Nat), k + d = q ∧ iv = .int .i64 (i : Int) ∧ nv = .int .i64 (k : Int) ∧ ev = .int .i64 (e : Int) ∧ i + 4 * k ≤ n ∧ j1 ≤ i ∧ e < 1000000 ∧ Hid (i = j1 + 4 * d) ∧ Hid (e < 10 ^ d) ∧ Hid (eciD k (l.drop i) e = R) ∧ wr = wk) (fun _ nv _ _ => (intOf nv).toNat)
                  case atStart => exact ⟨j1, q, 0, 0, by omega, rfl, rfl, rfl, by omega, Nat.le_refl _, by decide, Lib.hid (by omega), Lib.hid (by decide), HR9, rfl⟩
                  case round =>
                    rename World => wz
                    clear HR9
                    obtain ⟨i, k, e, d, hkd, rfl, rfl, rfl, hik, hji, he6, HI, HE, HRR, rfl⟩ := hrel
                    by_cases hk0 : 0 < k
                    · obtain ⟨k2, hk2⟩ : ∃ k2, k = k2 + 1 := ⟨k - 1, by omega⟩
                      have hRR := HRR.out
                      rw [hk2, eciD, List.drop_drop] at hRR
                      have hy := valL_lt ((l.drop i).take 4)
                      rw [List.length_take, List.length_drop, HN.out, Nat.min_eq_left (by omega)] at hy
                      have hrc := readCode_any _ l i 4 w.heap.size wz (HV.out.below HBB2.out.1) (by rw [HN.out]; omega) (by decide) (by rw [HN.out]; omega)
                      obtain ⟨y, hyy⟩ : ∃ y, y = valL ((l.drop i).take 4) := ⟨_, rfl⟩
                      rw [← hyy] at hRR hy hrc
                      have ek : (k : Int) - 1 = (k2 : Int) := by omega
                      have hk2' : k2 < k := by omega
                      clear hyy HRR
                      by_cases hbad : y < 2 ∨ 11 < y
                      · rw [if_pos hbad] at hRR
                        have HNO : Hid (o = none) := Lib.hid (by
                          rcases HG.out with ⟨_, h⟩ | ⟨e9, h, _⟩
                          · rw [HOO.out, h]; rfl
                          · rw [← hRR] at h; cases h)
                        have hcv := HCV.out
                        clear hRR HG HR2 HO2 HAP2 HOO HCV hk2
                        go_wp2_with fail
                        refine hrc.mono ?_
                        rintro e9 w8 ⟨rfl, hw8⟩
                        subst hw8
                        clear hrc
                        rcases hbad with hb1 | hb1
                        · have c1 : (y : Int) < 2 := by omega
                          go_wp2_with fail
                          refine Can.wp_region_can (fun w' => Below w8.heap.size w8 w') 999 [0, 1, 2, 3, 4, 5, 6] (by kernel_rfl) (by kernel_rfl) (fun _ _ d _ _ h => by cases d <;> exact h) (bdr (brf w8)) (fun hHeld => ?_)
                          repeat (refine Can.can_pure (v := ?_) rfl rfl (Or.inl ⟨by rfl, ?_⟩) ?_; rotate_left; (focus ((intro w hSw); (try dsimp only at hSw); go_simp; (try with_reducible rfl))); (try simp only [Act.put, List.getElem_toArray, List.getElem_cons_succ, List.getElem_cons_zero, List.setIfInBounds_toArray, List.set_cons_zero, List.set_cons_succ]))
                          refine Can.can_eff rfl rfl (by rfl) (fun K hK => ?_)
                          go_simp
                          refine hK.out _ _ (bal hHeld _) (fun hHeld1 => ?_)
                          clear hK K
                          (try simp only [Act.put, List.getElem_toArray, List.getElem_cons_succ, List.getElem_cons_zero, List.setIfInBounds_toArray, List.set_cons_zero, List.set_cons_succ])
                          repeat (refine Can.can_pure (v := ?_) rfl rfl (Or.inl ⟨by rfl, ?_⟩) ?_; rotate_left; (focus ((intro w hSw); (try dsimp only at hSw); go_simp; (try with_reducible rfl))); (try simp only [Act.put, List.getElem_toArray, List.getElem_cons_succ, List.getElem_cons_zero, List.setIfInBounds_toArray, List.set_cons_zero, List.set_cons_succ]))
                          refine Can.can_eff rfl rfl (by rfl) (fun K hK => ?_)
                          go_simp
                          refine ((newF_any _ _)).mono ?_
                          rintro e w6 ⟨⟨t6, u6, rfl⟩, hb6⟩
                          refine hK.out _ _ (bup hHeld1 hb6) (fun hHeld2 => ?_)
                          clear hK K
                          (try simp only [Act.put, List.getElem_toArray, List.getElem_cons_succ, List.getElem_cons_zero, List.setIfInBounds_toArray, List.set_cons_zero, List.set_cons_succ])
                          repeat (refine Can.can_pure (v := ?_) rfl rfl (Or.inl ⟨by rfl, ?_⟩) ?_; rotate_left; (focus ((intro w hSw); (try dsimp only at hSw); go_simp; (try with_reducible rfl))); (try simp only [Act.put, List.getElem_toArray, List.getElem_cons_succ, List.getElem_cons_zero, List.setIfInBounds_toArray, List.set_cons_zero, List.set_cons_succ]))
                          refine Can.can_done ?_
                          have HBF := Lib.hid (HBB2.out.1.trans (hHeld2.mono HBB2.out.2))
                          clear hHeld hHeld1 hHeld2 hb6 hcv
                          go_wp2_with fail
                          go_ret2
                          exact ⟨.inr ⟨HNO.out, _, _, _, rfl⟩, HBF.out⟩
                        · have c1 : ¬ ((y : Int) < 2) := by omega
                          have c2 : (11 : Int) < (y : Int) := by omega
                          go_wp2_with fail
                          refine Can.wp_region_can (fun w' => Below w8.heap.size w8 w') 999 [0, 1, 2, 3, 4, 5, 6] (by kernel_rfl) (by kernel_rfl) (fun _ _ d _ _ h => by cases d <;> exact h) (bdr (brf w8)) (fun hHeld => ?_)
                          repeat (refine Can.can_pure (v := ?_) rfl rfl (Or.inl ⟨by rfl, ?_⟩) ?_; rotate_left; (focus ((intro w hSw); (try dsimp only at hSw); go_simp; (try with_reducible rfl))); (try simp only [Act.put, List.getElem_toArray, List.getElem_cons_succ, List.getElem_cons_zero, List.setIfInBounds_toArray, List.set_cons_zero, List.set_cons_succ]))
                          refine Can.can_eff rfl rfl (by rfl) (fun K hK => ?_)
                          go_simp
                          refine hK.out _ _ (bal hHeld _) (fun hHeld1 => ?_)
                          clear hK K
                          (try simp only [Act.put, List.getElem_toArray, List.getElem_cons_succ, List.getElem_cons_zero, List.setIfInBounds_toArray, List.set_cons_zero, List.set_cons_succ])
                          repeat (refine Can.can_pure (v := ?_) rfl rfl (Or.inl ⟨by rfl, ?_⟩) ?_; rotate_left; (focus ((intro w hSw); (try dsimp only at hSw); go_simp; (try with_reducible rfl))); (try simp only [Act.put, List.getElem_toArray, List.getElem_cons_succ, List.getElem_cons_zero, List.setIfInBounds_toArray, List.set_cons_zero, List.set_cons_succ]))
                          refine Can.can_eff rfl rfl (by rfl) (fun K hK => ?_)
                          go_simp
                          refine ((newF_any _ _)).mono ?_
                          rintro e w6 ⟨⟨t6, u6, rfl⟩, hb6⟩
                          refine hK.out _ _ (bup hHeld1 hb6) (fun hHeld2 => ?_)
                          clear hK K
                          (try simp only [Act.put, List.getElem_toArray, List.getElem_cons_succ, List.getElem_cons_zero, List.setIfInBounds_toArray, List.set_cons_zero, List.set_cons_succ])
                          repeat (refine Can.can_pure (v := ?_) rfl rfl (Or.inl ⟨by rfl, ?_⟩) ?_; rotate_left; (focus ((intro w hSw); (try dsimp only at hSw); go_simp; (try with_reducible rfl))); (try simp only [Act.put, List.getElem_toArray, List.getElem_cons_succ, List.getElem_cons_zero, List.setIfInBounds_toArray, List.set_cons_zero, List.set_cons_succ]))
                          refine Can.can_done ?_
                          have HBF := Lib.hid (HBB2.out.1.trans (hHeld2.mono HBB2.out.2))
                          clear hHeld hHeld1 hHeld2 hb6 hcv
                          go_wp2_with fail
                          go_ret2
                          exact ⟨.inr ⟨HNO.out, _, _, _, rfl⟩, HBF.out⟩
                      · rw [if_neg hbad] at hRR
                        have hE := HE.out
                        obtain ⟨e2, he2⟩ : ∃ e2, e2 = e * 10 + (y - 2) := ⟨_, rfl⟩
                        rw [← he2] at hRR
                        have hp10 : 10 ^ (d + 1) = 10 * 10 ^ d := by rw [Nat.pow_succ]; omega
                        have hp6 : 10 ^ (d + 1) ≤ 10 ^ 6 := Nat.pow_le_pow_right (by decide) (by omega)
                        have hE2 : e2 < 10 ^ (d + 1) := by omega
                        have HE2 := Lib.hid hE2
                        have he26 : e2 < 1000000 := by omega
                        have HRR2 := Lib.hid hRR
                        have HI2 : Hid (i + 4 = j1 + 4 * (d + 1)) := Lib.hid (by have := HI.out; omega)
                        have c1 : ¬ ((y : Int) < 2) := by omega
                        have c2 : ¬ ((11 : Int) < (y : Int)) := by omega
                        have ee : (e : Int) * 10 + ((y : Int) - 2) = (e2 : Int) := by omega
                        clear hRR hE hE2 hp10 hp6 he2 hbad HE HI hk2
                        go_wp2_with fail
                        refine hrc.mono ?_
                        rintro e9 w8 ⟨rfl, hw8⟩
                        subst hw8
                        clear hrc
                        go_wp2_with fail
                        go_roundw
                        case rel => exact ⟨i + 4, k2, e2, d + 1, by omega, by go_num, rfl, rfl, by omega, by omega, he26, HI2, HE2, HRR2, trivial⟩
                        case measure => simp [intOf]; omega
                    · obtain rfl : k = 0 := by omega
                      have hRR := HRR.out
                      rw [eciD] at hRR
                      have hiq : i = j1 + 4 * q := by have := HI.out; omega
                      have hcv := HCV.out
                      by_cases h900 : e < 900
                      · have HGO : Hid (GoOn (l.drop i) lt lt o') := Lib.hid (by
                          rcases HG.out with ⟨h, _⟩ | ⟨e9, h, h8⟩
                          · rw [← hRR] at h; cases h
                          · rw [← hRR] at h; injection h with h; subst h
                            rcases h8 with ⟨h7, _⟩ | ⟨_, h7⟩
                            · omega
                            · rw [List.drop_drop, ← hiq] at h7; exact h7)
                        clear hRR HRR HI HE hiq hcv HCV HG
                        go_wp2_with fail
                        refine (eci_yes e _ h900).mono ?_
                        rintro e9 w6 ⟨⟨u6, rfl⟩, hb6⟩
                        have hD3 : DecT l o w w.heap.size (Nr + N) (.slice rA2 rn2 rc2) wz i lt lt 0 (.slice dA 0 dc) := ⟨⟨o', ro ++ out, [], HGO.out, by rw [HOO.out]; simp, HR2.out, HO2.out⟩, HAP2.out, HBB2.out.1, HBB2.out.2⟩
                        have HD3 := Lib.hid (hD3.up hb6)
                        clear hD3 hb6 HR2 HO2 HAP2 HBB2 HOO HFO HGO
                        go_wp2_with fail
                        go_roundw
                        case rel => exact ⟨i, lt, lt, Nr + N, 0, rn2, rc2, 0, dc, rA2, dA, rfl, rfl, by omega, rfl, rfl, rfl, hlt5, by omega, by omega, HD3⟩
                        case measure => simp [intOf]; omega
                      · have HNO : Hid (o = none) := Lib.hid (by
                          rcases HG.out with ⟨h, _⟩ | ⟨e9, h, h8⟩
                          · rw [← hRR] at h; cases h
                          · rw [← hRR] at h; injection h with h; subst h
                            rcases h8 with ⟨_, h7⟩ | ⟨h7, _⟩
                            · rw [HOO.out, h7]; rfl
                            · omega)
                        clear hRR HRR HI HE hiq HCV HG HR2 HO2 HAP2 HOO HFO
                        go_wp2_with fail
                        refine (eci_no e _ (by omega) (by omega)).mono ?_
                        rintro e9 w6 ⟨⟨t6, u6, rfl⟩, hb6⟩
                        have hcv6 : ∀ wq, Below w6.heap.size w6 wq → (convert 22 9 (.slice rA2 rn2 rc2)).run Tryz.prog wq = .ok (.string (ofL (ro ++ out))) wq := fun wq hb => hcv wq (bup hb6 hb)
                        have HB6 := Lib.hid (And.intro (HBB2.out.1.trans (hb6.mono HBB2.out.2)) (Nat.le_trans HBB2.out.2 hb6.size))
                        clear hcv hb6 HBB2
                        go_wp2_with fail
                        refine Can.wp_region_can (fun w' => Below w6.heap.size w6 w') 999 [0, 1, 2, 3, 4, 5] (by kernel_rfl) (by kernel_rfl) (fun _ _ d _ _ h => by cases d <;> exact h) (bdr (brf w6)) (fun hHeld => ?_)
                        repeat (refine Can.can_pure (v := ?_) rfl rfl (Or.inl ⟨by rfl, ?_⟩) ?_; rotate_left; (focus ((intro w hSw); (try dsimp only at hSw); go_simp; (try with_reducible rfl))); (try simp only [Act.put, List.getElem_toArray, List.getElem_cons_succ, List.getElem_cons_zero, List.setIfInBounds_toArray, List.set_cons_zero, List.set_cons_succ]))
                        refine Can.can_eff rfl rfl (by rfl) (fun K hK => ?_)
                        go_simp
                        refine ((wrapF_any _ _ _)).mono ?_
                        rintro e w7 ⟨⟨t7, u7, rfl⟩, hb7⟩
                        refine hK.out _ _ (bup hHeld hb7) (fun hHeld1 => ?_)
                        clear hK K
                        (try simp only [Act.put, List.getElem_toArray, List.getElem_cons_succ, List.getElem_cons_zero, List.setIfInBounds_toArray, List.set_cons_zero, List.set_cons_succ])
                        repeat (refine Can.can_pure (v := ?_) rfl rfl (Or.inl ⟨by rfl, ?_⟩) ?_; rotate_left; (focus ((intro w hSw); (try dsimp only at hSw); go_simp; (try with_reducible rfl))); (try simp only [Act.put, List.getElem_toArray, List.getElem_cons_succ, List.getElem_cons_zero, List.setIfInBounds_toArray, List.set_cons_zero, List.set_cons_succ]))
                        refine Can.can_done ?_
                        have HBF := Lib.hid (HB6.out.1.trans (hHeld1.mono HB6.out.2))
                        clear hHeld hHeld1 hb7 hcv6
                        go_wp2_with fail
                        go_ret2
                        exact ⟨.inr ⟨HNO.out, _, _, _, rfl⟩, HBF.out⟩
    · have HX : Hid (∃ ro out, wr.ownsRow w.heap.size 5 1 (.slice rA rn rc) Nr (bl ro) ∧ wr.ownsRow w.heap.size 5 1 (.slice dA dn dc) N (bl out) ∧ o = some (ro ++ out)) := Lib.hid (by
        obtain ⟨o', ro, out, h1, h2, h3, h4⟩ := HD.out.dec
        exact ⟨ro, out, h3, h4, by rw [h2, GoOn.end_ h1 (by rw [List.length_drop, HN.out]; omega)]; simp⟩)
      obtain ⟨ro, out, hr, ho, he⟩ := HX.out
      have HO := Lib.hid ho
      have HRES := Lib.hid hr
      have HOE := Lib.hid he
      have HBB := Lib.hid (And.intro HD.out.below HD.out.size)
      clear ho hr he HX HD
      go_wp2_with (with_reducible refine stop_at (o := ⟨some 195, _, _, _, _, _⟩) ?_)
      refine Lib.hid ?_
      refine list_app_rd _ rfl _ _ 22 rfl w.heap.size 5 i0 _ 1 Tryz.underlying22 hi0 hz0 hz1 hz2 rfl _ Nr (bl ro) rfl HRES.out _ _ (bl out) rfl (Rd.of_own HO.out) (bl_one _) (by rw [bl_len]; have := HO.out.1; rw [bl_len] at this; unfold maxLen; omega) (by rw [bl_len]; have := HO.out.1; rw [bl_len] at this; omega) HBB.out.2 ?_
      intro v1 w3 ho1 hg1
      rw [← bl_app] at ho1
      have hcs := conv_str (P := Tryz.prog) w3 w3.heap.size 22 5 9 Tryz.underlying22 Tryz.underlying5 Tryz.underlying9 _ (ofL (ro ++ out)) (by rw [bytesOf_ofL]; exact Rd.of_own ho1)
      have HB3 : Hid (Below w.heap.size w w3) := Lib.hid (below_grown HBB.out.1 hg1 HRES.out HBB.out.2)
      clear ho1 hg1 HO HRES HBB
      go_wp2
      go_ret2
      exact ⟨.inl ⟨_, HOE.out, rfl⟩, HB3.out⟩
end Go.Proofs.YtopfdmmimgnciaaGreatDoor
