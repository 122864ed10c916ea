/-
  WALKS: getEncodedData.
-/
import Derived.Test.YtopfdmmimgnciaaGreatDoorW03
import Derived.Test.YtopfdmmimgnciaaGreatDoorW01
namespace Go.Proofs.YtopfdmmimgnciaaGreatDoor
open Go.RowKit

theorem info_u8 : (Tryz.prog.info? 5).map (fun i => (i.zero, i.size, i.bytes)) = some (some (.int .u8 0), 1, 1) := by kernel_rfl
/-- Where the reading stands. -/
structure DecS (l : List Bool) (final : List UInt8) (w0 : World) (B g0 K : Nat) (wr : World) (idx lt sh N : Nat) (dv : Value) : Prop where
  dec : ∃ f out rest, Go.Proofs.YtopfdmmimgnciaaGreatDoor.dec f (l.drop idx) lt sh = some rest ∧ out ++ rest = final ∧ wr.ownsRow (g0 + 1) 5 1 dv N (bl out)
  res : wr.ownsRow g0 5 1 (.slice (some ⟨g0, 0, none⟩) 0 K) 0 []
  below : Below B w0 wr
  size : g0 + 1 ≤ wr.heap.size
theorem ctrlPre_no (s : List UInt8) (w : World) (hl : s.length ≤ 100) (h : ¬ [67, 84, 82, 76, 95] <+: s) : Calls Tryz.prog 80 #[.string (ofL s), .string { data := #[67, 84, 82, 76, 95] }] w fun e w' => e = .returned (.bool false) ∧ w' = w := by
  refine (hasPrefix_any (ofL s) _ w (by rw [ofL_size]; unfold maxLen; omega) (by decide)).mono ?_
  rintro e w' ⟨rfl, rfl⟩
  refine ⟨ret_bool ?_, rfl⟩
  unfold isPre
  rw [ofL_data, Bool.eq_false_iff]
  intro h2
  exact h (List.isPrefixOf_iff_prefix.1 h2)
theorem ctrlPre_yes (a b : UInt8) (w : World) : Calls Tryz.prog 80 #[.string (ofL (ctrlS a b)), .string { data := #[67, 84, 82, 76, 95] }] w fun e w' => e = .returned (.bool true) ∧ w' = w := by
  refine (hasPrefix_any (ofL (ctrlS a b)) _ w (by rw [ofL_size]; exact (show (7 : Nat) ≤ maxLen by decide)) (by decide)).mono ?_
  rintro e w' ⟨rfl, rfl⟩
  refine ⟨ret_bool ?_, rfl⟩
  unfold isPre
  rw [ofL_data, List.isPrefixOf_iff_prefix]
  exact ⟨[a, b], rfl⟩
theorem DecS.up {l : List Bool} {final : List UInt8} {w0 : World} {B g0 K : Nat} {wr w' : World} {idx lt sh N : Nat} {dv : Value} (h : DecS l final w0 B g0 K wr idx lt sh N dv) (hb : Below wr.heap.size wr w') (hB : B ≤ wr.heap.size) : DecS l final w0 B g0 K w' idx lt sh N dv := by
  obtain ⟨⟨f, out, rest, h1, h2, h3⟩, h4, h5, h6⟩ := h
  exact ⟨⟨f, out, rest, h1, h2, own_up h3 hb⟩, own_up h4 hb, h5.trans (hb.mono hB), Nat.le_trans h6 hb.size⟩
theorem own_keep {w w1 w2 : World} {g0 n : Nat} {e : TypeId} {size k k' : Nat} {xs ys : List Value} {u : Value} {K : Nat} (h : w.ownsRow g0 e size (.slice (some ⟨g0, 0, none⟩) k K) n xs) (hb : Below w.heap.size w w1) (hg : w1.grownBy w2 u.ownBlock) (ho : w1.ownsRow (g0 + 1) e size u k' ys) :
    w2.ownsRow g0 e size (.slice (some ⟨g0, 0, none⟩) k K) n xs := by
  have h1 := own_up h hb
  obtain ⟨h2, ⟨hv, _⟩ | ⟨g, cap, cur, hv, hb', hg', r⟩⟩ := h1
  · cases hv
  · refine ⟨h2, .inr ⟨g, cap, cur, hv, hb', (hg.block g (heap_lt hg') ?_).trans hg', r⟩⟩
    injection hv with hv _ _
    injection hv with hv
    injection hv with hv _ _
    subst hv
    rcases ho.2 with ⟨rfl, _⟩ | ⟨g', cap', cur', rfl, hb2, _⟩
    · simp [Value.ownBlock]
    · simp only [Value.ownBlock, ne_eq, Option.some.injEq]; omega
theorem own_base {w : World} {base B : Nat} {e : TypeId} {size n : Nat} {v : Value} {xs : List Value} (h : w.ownsRow base e size v n xs) (hB : B ≤ base) : w.ownsRow B e size v n xs := by
  obtain ⟨h1, h2 | ⟨g, cap, cur, hv, hb, r⟩⟩ := h
  · exact ⟨h1, .inl h2⟩
  · exact ⟨h1, .inr ⟨g, cap, cur, hv, by omega, r⟩⟩
/-- Where the reading of bytes stands: j of m have been read. -/
structure DecB (l : List Bool) (final : List UInt8) (w0 : World) (B g0 K : Nat) (wr : World) (idx lt m j N : Nat) (dv : Value) : Prop where
  dec : ∃ f out rest, Go.Proofs.YtopfdmmimgnciaaGreatDoor.dec f (takeB (m - j) (l.drop idx)).2 lt lt = some rest ∧ out ++ ((takeB (m - j) (l.drop idx)).1 ++ rest) = final ∧ wr.ownsRow (g0 + 1) 5 1 dv N (bl out)
  res : wr.ownsRow g0 5 1 (.slice (some ⟨g0, 0, none⟩) 0 K) 0 []
  below : Below B w0 wr
  size : g0 + 1 ≤ wr.heap.size
theorem DecB.full {l : List Bool} {final : List UInt8} {w0 : World} {B g0 K : Nat} {wr : World} {idx lt m j N : Nat} {dv : Value} (h : DecB l final w0 B g0 K wr idx lt m j N dv) (hj : m ≤ j) : DecS l final w0 B g0 K wr idx lt lt N dv := by
  obtain ⟨⟨f, out, rest, h1, h2, h3⟩, h4, h5, h6⟩ := h
  rw [show m - j = 0 by omega] at h1 h2
  exact ⟨⟨f, out, rest, h1, by simpa [takeB] using h2, h3⟩, h4, h5, h6⟩
theorem DecB.short {l : List Bool} {final : List UInt8} {w0 : World} {B g0 K : Nat} {wr : World} {idx lt m j N : Nat} {dv : Value} (h : DecB l final w0 B g0 K wr idx lt m j N dv) (hj : j < m) (hs : l.length - idx < 8) : DecS l final w0 B g0 K wr l.length lt lt N dv := by
  obtain ⟨⟨f, out, rest, h1, h2, h3⟩, h4, h5, h6⟩ := h
  rw [show m - j = (m - j - 1) + 1 by omega, takeB_short _ _ (by rw [List.length_drop]; exact hs)] at h1 h2
  exact ⟨⟨f, out, rest, by rw [List.drop_length]; exact h1, by simpa using h2, h3⟩, h4, h5, h6⟩
theorem DecB.step {l : List Bool} {final : List UInt8} {w0 : World} {B g0 K : Nat} {wr : World} {idx lt m j N : Nat} {dv : Value} (h : DecB l final w0 B g0 K wr idx lt m j N dv) (hj : j < m) (hs : 8 ≤ l.length - idx) :
    ∃ f out rest, Go.Proofs.YtopfdmmimgnciaaGreatDoor.dec f (takeB (m - (j + 1)) (l.drop (idx + 8))).2 lt lt = some rest ∧ (out ++ [UInt8.ofNat (valL ((l.drop idx).take 8))]) ++ ((takeB (m - (j + 1)) (l.drop (idx + 8))).1 ++ rest) = final ∧ wr.ownsRow (g0 + 1) 5 1 dv N (bl out) := by
  obtain ⟨⟨f, out, rest, h1, h2, h3⟩, h4, h5, h6⟩ := h
  rw [show m - j = (m - (j + 1)) + 1 by omega, takeB_succ _ _ (by rw [List.length_drop]; exact hs), List.drop_drop] at h1 h2
  exact ⟨f, out, rest, h1, by simpa using h2, h3⟩
set_option maxRecDepth 100000 in
set_option maxHeartbeats 8000000 in
theorem encoded_any (p : Nat) (v : Value) (l : List Bool) (n : Nat) (final : List UInt8) (w : World) (hv : Rd w w.heap.size v (bv l)) (hn : l.length = n) (h2 : 2 ≤ n) (hmax : n ≤ 1000000) (hd : ∃ f, dec f l 0 0 = some final) :
    Calls Tryz.prog 51 #[.pointer (some ⟨p, 0, none⟩), v] w fun e w' => e = .returned (.tuple #[.string (ofL final), .nilIface]) ∧ Below w.heap.size w w' := by
  obtain ⟨i0, hi0, hz0, hz1, hz2⟩ := info_parts info_u8
  obtain ⟨A, cap, hvf, hc1, hc2⟩ := hv.form
  rw [bv_len, hn] at hvf hc1
  subst hvf
  have HV := Lib.hid hv
  have HN := Lib.hid hn
  clear hv
  unfold maxLen at hc2
  have HDD := Lib.hid hd; clear hn hd
  obtain ⟨K, hK, hK2⟩ : ∃ K : Nat, ((n : Int) - 5).tdiv 4 = (K : Int) ∧ K ≤ 1000000 := by
    by_cases h5 : 5 ≤ n
    · exact ⟨(n - 5) / 4, by rw [Int.tdiv_eq_ediv_of_nonneg (by omega)]; omega, by omega⟩
    · have : n = 2 ∨ n = 3 ∨ n = 4 := by omega
      rcases this with rfl | rfl | rfl <;> exact ⟨0, rfl, by decide⟩
  have hmk := fun x => run_mk0 (P := Tryz.prog) 22 5 i0 (.int .u8 0) 1 Tryz.underlying22 hi0 hz0 hz1 hz2 rfl K (by omega) (by omega) x
  have hmk0 : ∀ x : World, (Instr.makeSlice 22 (.int .i64 0) (.int .i64 0)).run Tryz.prog x = .ok (.slice (some ⟨x.heap.size, 0, none⟩) 0 0) (x.alloc (.cells (rep 0 (.int .u8 0)) 5)) := fun x => run_mk0 (P := Tryz.prog) 22 5 i0 (.int .u8 0) 1 Tryz.underlying22 hi0 hz0 hz1 hz2 rfl 0 (by omega) (by omega) x
  have hw1 : IntKind.i64.wrap ((n : Int) - 5) = (n : Int) - 5 := by rw [IntKind.wrap_i64]; omega
  go_enter Tryz.func51, Tryz.ntmps51
  go_wp2_with fail
  clear hmk hmk0 hw1 hK
  obtain ⟨g0, hgg⟩ : ∃ g, g = w.heap.size := ⟨_, rfl⟩
  have hg0 : w.heap.size ≤ g0 := by omega
  rw [← hgg]
  have HGG := Lib.hid hgg; clear hgg
  go_loopw [7, 8, 9, 10, 11] (fun lv sv rv dv iv wr => ∃ (idx lt sh N dn dc : Nat) (dA : Option Addr), dv = .slice dA dn dc ∧ idx ≤ n ∧ iv = .int .i64 idx ∧ lv = .int .i64 lt ∧ sv = .int .i64 sh ∧ lt < 5 ∧ sh < 6 ∧ rv = .slice (some ⟨g0, 0, none⟩) 0 K ∧ N ≤ idx ∧ Hid (DecS l final w w.heap.size g0 K wr idx lt sh N dv)) (fun _ _ _ _ iv _ => n - (intOf iv).toNat)
  case atStart =>
    refine ⟨0, 0, 0, 0, 0, 0, _, rfl, Nat.zero_le _, rfl, rfl, rfl, by decide, by decide, rfl, by decide, Lib.hid ⟨?_, ?_, ?_, ?_⟩⟩
    · obtain ⟨f, hf⟩ := HDD.out
      exact ⟨f, [], final, by simpa using hf, rfl, own_made (Blk.fresh' (by simp [HGG.out])) (Nat.le_refl _) (by decide)⟩
    · exact own_made (n := K) (by rw [HGG.out]; exact (Blk.fresh w _ _).alloc _) (Nat.le_refl _) (by unfold maxLen; omega)
    · exact bal (bal (brf w) _) _
    · simp [HGG.out]
  case round =>
    obtain ⟨idx, lt, sh, N, dn, dc, dA, rfl, hidx, rfl, rfl, rfl, hlt5, hsh6, rfl, hNi, HD⟩ := hrel
    by_cases hlt : idx < n
    · by_cases h5 : sh = 5
      · subst h5
        by_cases hr5 : n - idx < 5
        · have HX : Hid (∃ out, wr.ownsRow (g0 + 1) 5 1 (.slice dA dn dc) N (bl out) ∧ out = final) := Lib.hid (by
            obtain ⟨f, out, rest, h1, h2, h3⟩ := HD.out.dec
            exact ⟨out, h3, by rw [← h2, dec_short5 h1 (by rw [List.length_drop, HN.out]; exact hr5), List.append_nil]⟩)
          obtain ⟨out, ho, he⟩ := HX.out
          subst he
          have HO := Lib.hid ho
          have HRES := Lib.hid HD.out.res
          have HBB := Lib.hid (And.intro HD.out.below HD.out.size)
          clear ho HX HD
          go_wp2_with (with_reducible refine stop_at (o := ⟨some 195, _, _, _, _, _⟩) ?_)
          refine Lib.hid ?_
          refine list_app_rd _ rfl _ _ 22 rfl g0 5 i0 _ 1 Tryz.underlying22 hi0 hz0 hz1 hz2 rfl _ 0 [] rfl HRES.out _ _ (bl out) rfl (Rd.of_own HO.out) (bl_one _) (by have := (Rd.of_own HO.out).len; simpa using this) (by rw [bl_len]; have := HO.out.1; rw [bl_len] at this; omega) (by have := HBB.out.2; omega) ?_
          intro v1 w3 ho1 hg1
          rw [List.nil_append] at ho1
          have hcs := conv_str (P := Tryz.prog) w3 w3.heap.size 22 5 9 Tryz.underlying22 Tryz.underlying5 Tryz.underlying9 _ (ofL out) (by rw [bytesOf_ofL]; exact Rd.of_own ho1)
          have HB3 : Hid (Below w.heap.size w w3) := Lib.hid (below_grown HBB.out.1 hg1 (own_base HRES.out hg0) (by have := HBB.out.2; omega))
          clear ho1 hg1 HO HRES HBB
          go_wp2
          go_ret2
          exact ⟨rfl, HB3.out⟩
        · go_wp2_with fail
          refine (readCode_any _ l idx 5 w.heap.size _ (HV.out.below HD.out.below) (by rw [HN.out]; omega) (by decide) (by rw [HN.out]; omega)).mono ?_
          rintro e wr ⟨rfl, rfl⟩
          have hm0 := valL_lt ((l.drop idx).take 5)
          rw [List.length_take, List.length_drop, HN.out, Nat.min_eq_left (by omega)] at hm0
          obtain ⟨m0, hmm⟩ : ∃ m, m = valL ((l.drop idx).take 5) := ⟨_, rfl⟩
          rw [← hmm] at hm0 ⊢
          have HM0 := Lib.hid hmm; clear hmm
          by_cases hmz : m0 = 0
          · subst hmz
            by_cases hr11 : n - idx < 16
            · have hrr : ¬ 11 ≤ (n : Int) - ((idx : Int) + 5) := by omega
              clear hrr
              have HX : Hid (∃ out, wr.ownsRow (g0 + 1) 5 1 (.slice dA dn dc) N (bl out) ∧ out = final) := Lib.hid (by
                obtain ⟨f, out, rest, h1, h2, h3⟩ := HD.out.dec
                exact ⟨out, h3, by rw [← h2, dec_short11 h1 (by rw [List.length_drop, HN.out]; omega) HM0.out.symm (by rw [List.length_drop, HN.out]; omega), List.append_nil]⟩)
              obtain ⟨out, ho, he⟩ := HX.out
              subst he
              have HO := Lib.hid ho
              have HRES := Lib.hid HD.out.res
              have HBB := Lib.hid (And.intro HD.out.below HD.out.size)
              clear ho HX HD
              go_wp2_with (with_reducible refine stop_at (o := ⟨some 195, _, _, _, _, _⟩) ?_)
              refine Lib.hid ?_
              refine list_app_rd _ rfl _ _ 22 rfl g0 5 i0 _ 1 Tryz.underlying22 hi0 hz0 hz1 hz2 rfl _ 0 [] rfl HRES.out _ _ (bl out) rfl (Rd.of_own HO.out) (bl_one _) (by have := (Rd.of_own HO.out).len; simpa using this) (by rw [bl_len]; have := HO.out.1; rw [bl_len] at this; omega) (by have := HBB.out.2; omega) ?_
              intro v1 w3 ho1 hg1
              rw [List.nil_append] at ho1
              have hcs := conv_str (P := Tryz.prog) w3 w3.heap.size 22 5 9 Tryz.underlying22 Tryz.underlying5 Tryz.underlying9 _ (ofL out) (by rw [bytesOf_ofL]; exact Rd.of_own ho1)
              have HB3 : Hid (Below w.heap.size w w3) := Lib.hid (below_grown HBB.out.1 hg1 (own_base HRES.out hg0) (by have := HBB.out.2; omega))
              clear ho1 hg1 HO HRES HBB
              go_wp2
              go_ret2
              exact ⟨rfl, HB3.out⟩
            · go_wp2_with fail
              refine (readCode_any _ l (idx + 5) 11 w.heap.size _ (HV.out.below HD.out.below) (by rw [HN.out]; omega) (by decide) (by rw [HN.out]; omega)).mono ?_
              rintro e wr ⟨rfl, rfl⟩
              have hm1 := valL_lt ((l.drop (idx + 5)).take 11)
              rw [List.length_take, List.length_drop, HN.out, Nat.min_eq_left (by omega)] at hm1
              obtain ⟨m1, hmm⟩ : ∃ m, m = valL ((l.drop (idx + 5)).take 11) := ⟨_, rfl⟩
              rw [← hmm] at hm1 ⊢
              have HM1 := Lib.hid hmm; clear hmm
              have HDB : Hid (DecB l final w w.heap.size g0 K wr (idx + 16) lt (m1 + 31) 0 N (.slice dA dn dc)) := Lib.hid (by
                obtain ⟨⟨f, out, rest, h1, h2, h3⟩, h4, h5, h6⟩ := HD.out
                obtain ⟨f', r, h7, h8⟩ := dec_binL h1 (by rw [List.length_drop, HN.out]; omega) HM0.out.symm
                rw [List.drop_drop, ← HM1.out, List.drop_drop] at h7 h8
                exact ⟨⟨f', out, r, by rw [Nat.sub_zero]; exact h8, by rw [Nat.sub_zero, ← h7]; exact h2, h3⟩, h4, h5, h6⟩)
              obtain ⟨i1, hi1⟩ : ∃ i1, i1 = idx + 16 := ⟨_, rfl⟩
              have ei1 : (idx : Int) + 5 + 11 = (i1 : Int) := by omega
              rw [← hi1] at HDB
              have hi1n : i1 ≤ n := by omega
              have hNi1 : N ≤ i1 := by omega
              have hii : idx < i1 := by omega
              clear HD hi1
              obtain ⟨m0, hmq⟩ : ∃ m0, m0 = m1 + 31 := ⟨_, rfl⟩
              have em : (m1 : Int) + 31 = (m0 : Int) := by omega
              rw [← hmq] at HDB
              have hm0' : m0 < 3000 := by omega
              clear hmq
              go_wp2_with fail
              go_loopw [10, 11, 13] (fun dv iv cv wb => ∃ (i j Nb dn dc : Nat) (dA : Option Addr), dv = .slice dA dn dc ∧ i1 ≤ i ∧ i ≤ n ∧ j ≤ m0 ∧ iv = .int .i64 i ∧ cv = .int .i64 j ∧ Nb ≤ i ∧ Hid (DecB l final w w.heap.size g0 K wb i lt m0 j Nb (.slice dA dn dc))) (fun _ _ cv _ => m0 - (intOf cv).toNat)
              case atStart => exact ⟨i1, 0, N, dn, dc, dA, rfl, Nat.le_refl _, hi1n, Nat.zero_le _, rfl, rfl, hNi1, HDB⟩
              case round =>
                rename World => wb
                clear HDB
                obtain ⟨i, j, Nb, dn, dc, dA, rfl, hi1i, hin, hjm, rfl, rfl, hNb, HDB⟩ := hrel
                by_cases hjl : j < m0
                · by_cases hs8 : n - i < 8
                  · have HD2 : Hid (DecS l final w w.heap.size g0 K wb n lt lt Nb (.slice dA dn dc)) := Lib.hid (by
                      have := HDB.out.short hjl (by rw [HN.out]; exact hs8)
                      rw [HN.out] at this; exact this)
                    clear HDB
                    go_wp2
                    go_roundw
                    case rel => exact ⟨n, lt, lt, Nb, dn, dc, dA, rfl, Nat.le_refl _, rfl, rfl, rfl, hlt5, by omega, rfl, by omega, HD2⟩
                    case measure => simp [intOf]; omega
                  · go_wp2_with fail
                    refine (readCode_any _ l i 8 w.heap.size _ (HV.out.below HDB.out.below) (by rw [HN.out]; omega) (by decide) (by rw [HN.out]; omega)).mono ?_
                    rintro e wb ⟨rfl, rfl⟩
                    have hy := valL_lt ((l.drop i).take 8)
                    rw [List.length_take, List.length_drop, HN.out, Nat.min_eq_left (by omega)] at hy
                    have hst := HDB.out.step hjl (by rw [HN.out]; omega)
                    obtain ⟨y, hmm⟩ : ∃ m, m = valL ((l.drop i).take 8) := ⟨_, rfl⟩
                    rw [← hmm] at hy hst ⊢
                    clear hmm
                    obtain ⟨f, out, rest, h1, h2, h3⟩ := hst
                    have HST := Lib.hid (And.intro h1 h2)
                    have HO := Lib.hid h3
                    have HRES := Lib.hid HDB.out.res
                    have HBB := Lib.hid (And.intro HDB.out.below HDB.out.size)
                    clear h1 h2 h3 HDB
                    go_wp2_with (with_reducible refine stop_at (o := ⟨some 76, _, _, _, _, _⟩) ?_)
                    refine Lib.hid ?_
                    refine list_app_rd _ rfl _ _ 22 rfl (g0 + 1) 5 i0 _ 1 Tryz.underlying22 hi0 hz0 hz1 hz2 rfl _ Nb (bl out) rfl (HO.out.alloc _) _ _ [.int .u8 (y : Int)] rfl (Rd.one rfl _ _) (fun u hu => by simp at hu; subst hu; rfl) (by simp only [List.length_singleton]; unfold maxLen; omega) (by simp only [List.length_singleton]; omega) (by have := HBB.out.2; simp; omega) ?_
                    intro v1 w3 ho1 hg1
                    have ho2 : w3.ownsRow (g0 + 1) 5 1 v1 (Nb + 1) (bl (out ++ [UInt8.ofNat y])) := by
                      rw [bl_app, show bl [UInt8.ofNat y] = [.int .u8 (y : Int)] by simp [bl]; omega]; exact ho1
                    obtain ⟨dA2, dn2, dc2, rfl⟩ : ∃ A n c, v1 = .slice A n c := by obtain ⟨A, c, h, _⟩ := RdT.of_own ho2; exact ⟨_, _, _, h⟩
                    have HDB2 : Hid (DecB l final w w.heap.size g0 K w3 (i + 8) lt m0 (j + 1) (Nb + 1) (.slice dA2 dn2 dc2)) := Lib.hid ⟨⟨f, _, rest, HST.out.1, HST.out.2, ho2⟩, own_keep HRES.out (bal (brf wb) _) hg1 (HO.out.alloc _), below_grown (HBB.out.1.alloc (by have := HBB.out.2; omega) _) hg1 (own_base (HO.out.alloc _) (by omega)) (by have := HBB.out.2; simp; omega), Nat.le_trans HBB.out.2 (Nat.le_trans (by simp) hg1.size)⟩
                    clear ho1 ho2 hg1 HST HO HRES HBB
                    go_wp2
                    go_roundw
                    case rel => exact ⟨i + 8, j + 1, Nb + 1, dn2, dc2, dA2, rfl, by omega, by omega, by omega, by go_num, by go_num, by omega, HDB2⟩
                    case measure => simp [intOf]; omega
                · have HD2 : Hid (DecS l final w w.heap.size g0 K wb i lt lt Nb (.slice dA dn dc)) := Lib.hid (HDB.out.full (by omega))
                  clear HDB
                  go_wp2
                  go_roundw
                  case rel => exact ⟨i, lt, lt, Nb, dn, dc, dA, rfl, by omega, rfl, rfl, rfl, hlt5, by omega, rfl, by omega, HD2⟩
                  case measure => simp [intOf]; omega
          · have hmz2 : ((m0 : Int) == 0) = false := by simp; omega
            have HDB : Hid (DecB l final w w.heap.size g0 K wr (idx + 5) lt m0 0 N (.slice dA dn dc)) := Lib.hid (by
              obtain ⟨⟨f, out, rest, h1, h2, h3⟩, h4, h5, h6⟩ := HD.out
              obtain ⟨f', r, h7, h8⟩ := dec_bin h1 (by rw [List.length_drop, HN.out]; omega) (by rw [← HM0.out]; exact hmz)
              rw [← HM0.out, List.drop_drop] at h7 h8
              exact ⟨⟨f', out, r, by rw [Nat.sub_zero]; exact h8, by rw [Nat.sub_zero, ← h7]; exact h2, h3⟩, h4, h5, h6⟩)
            obtain ⟨i1, hi1⟩ : ∃ i1, i1 = idx + 5 := ⟨_, rfl⟩
            have ei1 : (idx : Int) + 5 = (i1 : Int) := by omega
            rw [← hi1] at HDB
            have hi1n : i1 ≤ n := by omega
            have hNi1 : N ≤ i1 := by omega
            have hii : idx < i1 := by omega
            clear HD hi1
            have hm0' : m0 < 3000 := by omega
            go_wp2_with fail
            go_loopw [10, 11, 13] (fun dv iv cv wb => ∃ (i j Nb dn dc : Nat) (dA : Option Addr), dv = .slice dA dn dc ∧ i1 ≤ i ∧ i ≤ n ∧ j ≤ m0 ∧ iv = .int .i64 i ∧ cv = .int .i64 j ∧ Nb ≤ i ∧ Hid (DecB l final w w.heap.size g0 K wb i lt m0 j Nb (.slice dA dn dc))) (fun _ _ cv _ => m0 - (intOf cv).toNat)
            case atStart => exact ⟨i1, 0, N, dn, dc, dA, rfl, Nat.le_refl _, hi1n, Nat.zero_le _, rfl, rfl, hNi1, HDB⟩
            case round =>
              rename World => wb
              clear HDB
              obtain ⟨i, j, Nb, dn, dc, dA, rfl, hi1i, hin, hjm, rfl, rfl, hNb, HDB⟩ := hrel
              by_cases hjl : j < m0
              · by_cases hs8 : n - i < 8
                · have HD2 : Hid (DecS l final w w.heap.size g0 K wb n lt lt Nb (.slice dA dn dc)) := Lib.hid (by
                    have := HDB.out.short hjl (by rw [HN.out]; exact hs8)
                    rw [HN.out] at this; exact this)
                  clear HDB
                  go_wp2
                  go_roundw
                  case rel => exact ⟨n, lt, lt, Nb, dn, dc, dA, rfl, Nat.le_refl _, rfl, rfl, rfl, hlt5, by omega, rfl, by omega, HD2⟩
                  case measure => simp [intOf]; omega
                · go_wp2_with fail
                  refine (readCode_any _ l i 8 w.heap.size _ (HV.out.below HDB.out.below) (by rw [HN.out]; omega) (by decide) (by rw [HN.out]; omega)).mono ?_
                  rintro e wb ⟨rfl, rfl⟩
                  have hy := valL_lt ((l.drop i).take 8)
                  rw [List.length_take, List.length_drop, HN.out, Nat.min_eq_left (by omega)] at hy
                  have hst := HDB.out.step hjl (by rw [HN.out]; omega)
                  obtain ⟨y, hmm⟩ : ∃ m, m = valL ((l.drop i).take 8) := ⟨_, rfl⟩
                  rw [← hmm] at hy hst ⊢
                  clear hmm
                  obtain ⟨f, out, rest, h1, h2, h3⟩ := hst
                  have HST := Lib.hid (And.intro h1 h2)
                  have HO := Lib.hid h3
                  have HRES := Lib.hid HDB.out.res
                  have HBB := Lib.hid (And.intro HDB.out.below HDB.out.size)
                  clear h1 h2 h3 HDB
                  go_wp2_with (with_reducible refine stop_at (o := ⟨some 76, _, _, _, _, _⟩) ?_)
                  refine Lib.hid ?_
                  refine list_app_rd _ rfl _ _ 22 rfl (g0 + 1) 5 i0 _ 1 Tryz.underlying22 hi0 hz0 hz1 hz2 rfl _ Nb (bl out) rfl (HO.out.alloc _) _ _ [.int .u8 (y : Int)] rfl (Rd.one rfl _ _) (fun u hu => by simp at hu; subst hu; rfl) (by simp only [List.length_singleton]; unfold maxLen; omega) (by simp only [List.length_singleton]; omega) (by have := HBB.out.2; simp; omega) ?_
                  intro v1 w3 ho1 hg1
                  have ho2 : w3.ownsRow (g0 + 1) 5 1 v1 (Nb + 1) (bl (out ++ [UInt8.ofNat y])) := by
                    rw [bl_app, show bl [UInt8.ofNat y] = [.int .u8 (y : Int)] by simp [bl]; omega]; exact ho1
                  obtain ⟨dA2, dn2, dc2, rfl⟩ : ∃ A n c, v1 = .slice A n c := by obtain ⟨A, c, h, _⟩ := RdT.of_own ho2; exact ⟨_, _, _, h⟩
                  have HDB2 : Hid (DecB l final w w.heap.size g0 K w3 (i + 8) lt m0 (j + 1) (Nb + 1) (.slice dA2 dn2 dc2)) := Lib.hid ⟨⟨f, _, rest, HST.out.1, HST.out.2, ho2⟩, own_keep HRES.out (bal (brf wb) _) hg1 (HO.out.alloc _), below_grown (HBB.out.1.alloc (by have := HBB.out.2; omega) _) hg1 (own_base (HO.out.alloc _) (by omega)) (by have := HBB.out.2; simp; omega), Nat.le_trans HBB.out.2 (Nat.le_trans (by simp) hg1.size)⟩
                  clear ho1 ho2 hg1 HST HO HRES HBB
                  go_wp2
                  go_roundw
                  case rel => exact ⟨i + 8, j + 1, Nb + 1, dn2, dc2, dA2, rfl, by omega, by omega, by omega, by go_num, by go_num, by omega, HDB2⟩
                  case measure => simp [intOf]; omega
              · have HD2 : Hid (DecS l final w w.heap.size g0 K wb i lt lt Nb (.slice dA dn dc)) := Lib.hid (HDB.out.full (by omega))
                clear HDB
                go_wp2
                go_roundw
                case rel => exact ⟨i, lt, lt, Nb, dn, dc, dA, rfl, by omega, rfl, rfl, rfl, hlt5, by omega, rfl, by omega, HD2⟩
                case measure => simp [intOf]; omega
      · have h5b : ((sh : Int) == 5) = false := by simp; omega
        by_cases h3 : sh = 3
        · have HZ : Hid (sizeT sh = 4) := Lib.hid (by rw [h3]; rfl)
          have h3b : ((sh : Int) == 3) = true := by simp; omega
          have hsh5 : sh < 5 := by omega
          clear h3 h5
          by_cases hrs : n - idx < 4
          · have HX : Hid (∃ out, wr.ownsRow (g0 + 1) 5 1 (.slice dA dn dc) N (bl out) ∧ out = final) := Lib.hid (by
              obtain ⟨f, out, rest, h1, h2, h3⟩ := HD.out.dec
              exact ⟨out, h3, by rw [← h2, dec_short h1 (by omega) (by rw [List.length_drop, HN.out, HZ.out]; exact hrs), List.append_nil]⟩)
            obtain ⟨out, ho, he⟩ := HX.out
            subst he
            have HO := Lib.hid ho
            have HRES := Lib.hid HD.out.res
            have HBB := Lib.hid (And.intro HD.out.below HD.out.size)
            clear ho HX HD
            go_wp2_with (with_reducible refine stop_at (o := ⟨some 195, _, _, _, _, _⟩) ?_)
            refine Lib.hid ?_
            refine list_app_rd _ rfl _ _ 22 rfl g0 5 i0 _ 1 Tryz.underlying22 hi0 hz0 hz1 hz2 rfl _ 0 [] rfl HRES.out _ _ (bl out) rfl (Rd.of_own HO.out) (bl_one _) (by have := (Rd.of_own HO.out).len; simpa using this) (by rw [bl_len]; have := HO.out.1; rw [bl_len] at this; omega) (by have := HBB.out.2; omega) ?_
            intro v1 w3 ho1 hg1
            rw [List.nil_append] at ho1
            have hcs := conv_str (P := Tryz.prog) w3 w3.heap.size 22 5 9 Tryz.underlying22 Tryz.underlying5 Tryz.underlying9 _ (ofL out) (by rw [bytesOf_ofL]; exact Rd.of_own ho1)
            have HB3 : Hid (Below w.heap.size w w3) := Lib.hid (below_grown HBB.out.1 hg1 (own_base HRES.out hg0) (by have := HBB.out.2; omega))
            clear ho1 hg1 HO HRES HBB
            go_wp2
            go_ret2
            exact ⟨rfl, HB3.out⟩
          · go_wp2_with fail
            refine (readCode_any _ l idx 4 w.heap.size _ (HV.out.below HD.out.below) (by rw [HN.out]; omega) (by decide) (by rw [HN.out]; omega)).mono ?_
            rintro e wr ⟨rfl, rfl⟩
            have hc0 := valL_lt ((l.drop idx).take 4)
            rw [List.length_take, List.length_drop, HN.out, Nat.min_eq_left (by omega)] at hc0
            obtain ⟨c, hcc⟩ : ∃ c, c = valL ((l.drop idx).take 4) := ⟨_, rfl⟩
            rw [← hcc] at hc0 ⊢
            have HC := Lib.hid hcc; clear hcc
            clear h5b h3b
            go_wp2_with fail
            refine (getChar_any sh c _ hsh5 (by rw [HZ.out]; exact hc0)).mono ?_
            rintro e w2 ⟨rfl, hb2⟩
            have HD2 := Lib.hid (HD.out.up hb2 (by have := HD.out.size; omega))
            have hent := tab_ent sh c hsh5 (by rw [HZ.out]; exact hc0)
            clear HD hb2
            obtain ⟨s, hs⟩ : ∃ s, s = tabS sh c := ⟨_, rfl⟩
            rw [← hs] at hent ⊢
            have HS : Hid (s = tabS sh (valL ((l.drop idx).take (sizeT sh)))) := Lib.hid (by rw [hs, HC.out, HZ.out])
            clear hs
            rcases hent with ⟨hnf, hnc, hne, hle⟩ | ⟨ca, cb, hcs, hca, hcb9⟩ | hfl
            · have hef : ((ofL s).toList == [70, 76, 71, 40, 110, 41]) = false := by
                rw [ByteArray.toList_eq, ofL_data, beq_eq_false_iff_ne]; exact hnf
              have HE := Lib.hid (And.intro hnf hnc)
              have hsz2 : (ofL s).size ≤ 100 := by rw [ofL_size]; omega
              obtain ⟨v1, w3, hcv, hrd, hb3⟩ := conv_any (P := Tryz.prog) w2 9 22 5 (ofL s) Tryz.underlying9 Tryz.underlying22 Tryz.underlying5 (by unfold maxLen; omega)
              rw [bytesOf_ofL] at hrd
              obtain ⟨f, out, rest, h1, h2, h3⟩ := HD2.out.dec
              obtain ⟨f', r, h7, h8⟩ := dec_text h1 (by omega) (by rw [List.length_drop, HN.out, HZ.out]; omega) (by rw [← HS.out]; exact hnf) (by rw [← HS.out]; exact hnc)
              rw [← HS.out] at h7
              rw [List.drop_drop, HZ.out] at h8
              have HST := Lib.hid (And.intro h8 (show (out ++ s) ++ r = final by rw [List.append_assoc, ← h7]; exact h2))
              have HO := Lib.hid (own_up h3 hb3)
              have hlen := h3.1
              rw [bl_len] at hlen
              have HRES := Lib.hid (own_up HD2.out.res hb3)
              have HBB := Lib.hid (And.intro (HD2.out.below.trans (hb3.mono (by have := HD2.out.size; omega))) (Nat.le_trans HD2.out.size hb3.size))
              have HRD := Lib.hid hrd
              have hNl : N ≤ idx := hNi
              clear h1 h2 h3 h7 h8 HD2 hnf hnc hrd hb3 hlen
              go_wp2_with fail
              refine (ctrlPre_no s _ (by omega) HE.out.2).mono ?_
              rintro e w2 ⟨rfl, rfl⟩
              go_wp2_with (with_reducible refine stop_at (o := ⟨some 191, _, _, _, _, _⟩) ?_)
              refine Lib.hid ?_
              refine list_app_rd _ rfl _ _ 22 rfl (g0 + 1) 5 i0 _ 1 Tryz.underlying22 hi0 hz0 hz1 hz2 rfl _ N (bl out) rfl HO.out _ _ (bl s) rfl HRD.out (bl_one _) (by rw [bl_len]; unfold maxLen; omega) (by rw [bl_len]; omega) (by have := HBB.out.2; omega) ?_
              intro v2 w4 ho1 hg1
              rw [← bl_app, bl_len] at ho1
              obtain ⟨dA2, dn2, dc2, rfl⟩ : ∃ A n c, v2 = .slice A n c := by obtain ⟨A, c, h, _⟩ := RdT.of_own ho1; exact ⟨_, _, _, h⟩
              have HD3 : Hid (DecS l final w w.heap.size g0 K w4 (idx + 4) lt lt (N + s.length) (.slice dA2 dn2 dc2)) := Lib.hid ⟨⟨f', _, r, HST.out.1, HST.out.2, ho1⟩, own_keep HRES.out (brf _) hg1 HO.out, below_grown HBB.out.1 hg1 (own_base HO.out (by omega)) (by have := HBB.out.2; omega), Nat.le_trans HBB.out.2 hg1.size⟩
              clear ho1 hg1 HST HO HRES HBB hcv hef
              go_wp2
              go_roundw
              case rel => exact ⟨idx + 4, lt, lt, N + s.length, dn2, dc2, dA2, rfl, by omega, by go_num, rfl, rfl, hlt5, by omega, rfl, by omega, HD3⟩
              case measure => simp [intOf]; omega
            · subst hcs
              have hef : ((ofL (ctrlS ca cb)).toList == [70, 76, 71, 40, 110, 41]) = false := by
                rw [ByteArray.toList_eq, ofL_data, beq_eq_false_iff_ne]; unfold ctrlS; simp
              have hi5 : ∀ x : World, (Instr.index 9 (.string (ofL (ctrlS ca cb))) (.int .i64 5)).run Tryz.prog x = .ok (.int .u8 (ca.toNat : Int)) x := fun _ => rfl
              have hi6 : ∀ x : World, (Instr.index 9 (.string (ofL (ctrlS ca cb))) (.int .i64 6)).run Tryz.prog x = .ok (.int .u8 (cb.toNat : Int)) x := fun _ => rfl
              have HCA := Lib.hid hca
              have HLB : Hid (cb = 76 → modeT ca < 5) := Lib.hid (fun h => by
                have := hcb9 h
                rcases hca with rfl | rfl | rfl | rfl | rfl | rfl <;> first | decide | exact absurd rfl this)
              clear hca hcb9
              have hmt : modeT ca < 6 := by rcases HCA.out with rfl | rfl | rfl | rfl | rfl | rfl <;> decide
              have HD3 : Hid (DecS l final w w.heap.size g0 K w2 (idx + 4) (if cb = 76 then modeT ca else sh) (modeT ca) N (.slice dA dn dc)) := Lib.hid (by
                obtain ⟨⟨f, out, rest, h1, h2, h3⟩, h4, h5, h6⟩ := HD2.out
                obtain ⟨f', h8⟩ := dec_ctrl h1 (by omega) (by rw [List.length_drop, HN.out, HZ.out]; omega) ca cb HS.out.symm
                rw [List.drop_drop, HZ.out] at h8
                exact ⟨⟨f', out, rest, h8, h2, h3⟩, h4, h5, h6⟩)
              clear HD2
              obtain ⟨y, hy⟩ : ∃ y, y = cb.toNat := ⟨_, rfl⟩
              rw [← hy] at hi6
              obtain ⟨md, hmd⟩ : ∃ md, md = modeT ca := ⟨_, rfl⟩
              rw [← hmd] at HD3 hmt
              have hgt := fun x => getTable_any ca x HCA.out
              rw [← hmd] at hgt
              have HLB2 : Hid (cb = 76 → md < 5) := Lib.hid (by rw [hmd]; exact HLB.out)
              have HGT := Lib.hid hgt
              have hpre := fun x => ctrlPre_yes ca cb x
              have HPRE := Lib.hid hpre
              clear hmd hgt hpre HS HCA
              by_cases hcb : cb = 76
              · have hcb2 : ((y : Int) == 76) = true := by rw [hy, hcb]; rfl
                rw [if_pos hcb] at HD3
                have hmt5 : md < 5 := HLB2.out hcb
                clear hcb hy
                generalize ofL (ctrlS ca cb) = S at *
                go_wp2_with fail
                refine (HPRE.out _).mono ?_
                rintro e w2 ⟨rfl, rfl⟩
                go_wp2_with fail
                refine (HGT.out _).mono ?_
                rintro e w2 ⟨rfl, rfl⟩
                clear hi5
                go_wp2
                go_roundw
                case rel => exact ⟨_, md, md, N, dn, dc, dA, rfl, by omega, by go_num, rfl, rfl, by omega, hmt, rfl, by omega, HD3⟩
                case measure => simp [intOf]; omega
              · have hcb2 : ((y : Int) == 76) = false := by
                  rw [beq_eq_false_iff_ne]; intro h; exact hcb (UInt8.toNat_inj.1 (by rw [← hy, show (76 : UInt8).toNat = 76 from rfl]; omega))
                rw [if_neg hcb] at HD3
                clear hcb hy
                generalize ofL (ctrlS ca cb) = S at *
                go_wp2_with fail
                refine (HPRE.out _).mono ?_
                rintro e w2 ⟨rfl, rfl⟩
                go_wp2_with fail
                refine (HGT.out _).mono ?_
                rintro e w2 ⟨rfl, rfl⟩
                clear hi5
                go_wp2
                go_roundw
                case rel => exact ⟨_, sh, md, N, dn, dc, dA, rfl, by omega, by go_num, rfl, rfl, by omega, hmt, rfl, by omega, HD3⟩
                case measure => simp [intOf]; omega
            · exfalso
              obtain ⟨f, out, rest, h1, _, _⟩ := HD2.out.dec
              exact dec_noflg h1 (by omega) (by rw [List.length_drop, HN.out, HZ.out]; omega) (by rw [← HS.out]; exact hfl)
        · have HZ : Hid (sizeT sh = 5) := Lib.hid (by unfold sizeT; rw [if_neg h3])
          have h3b : ((sh : Int) == 3) = false := by simp; omega
          have hsh5 : sh < 5 := by omega
          clear h3 h5
          by_cases hrs : n - idx < 5
          · have HX : Hid (∃ out, wr.ownsRow (g0 + 1) 5 1 (.slice dA dn dc) N (bl out) ∧ out = final) := Lib.hid (by
              obtain ⟨f, out, rest, h1, h2, h3⟩ := HD.out.dec
              exact ⟨out, h3, by rw [← h2, dec_short h1 (by omega) (by rw [List.length_drop, HN.out, HZ.out]; exact hrs), List.append_nil]⟩)
            obtain ⟨out, ho, he⟩ := HX.out
            subst he
            have HO := Lib.hid ho
            have HRES := Lib.hid HD.out.res
            have HBB := Lib.hid (And.intro HD.out.below HD.out.size)
            clear ho HX HD
            go_wp2_with (with_reducible refine stop_at (o := ⟨some 195, _, _, _, _, _⟩) ?_)
            refine Lib.hid ?_
            refine list_app_rd _ rfl _ _ 22 rfl g0 5 i0 _ 1 Tryz.underlying22 hi0 hz0 hz1 hz2 rfl _ 0 [] rfl HRES.out _ _ (bl out) rfl (Rd.of_own HO.out) (bl_one _) (by have := (Rd.of_own HO.out).len; simpa using this) (by rw [bl_len]; have := HO.out.1; rw [bl_len] at this; omega) (by have := HBB.out.2; omega) ?_
            intro v1 w3 ho1 hg1
            rw [List.nil_append] at ho1
            have hcs := conv_str (P := Tryz.prog) w3 w3.heap.size 22 5 9 Tryz.underlying22 Tryz.underlying5 Tryz.underlying9 _ (ofL out) (by rw [bytesOf_ofL]; exact Rd.of_own ho1)
            have HB3 : Hid (Below w.heap.size w w3) := Lib.hid (below_grown HBB.out.1 hg1 (own_base HRES.out hg0) (by have := HBB.out.2; omega))
            clear ho1 hg1 HO HRES HBB
            go_wp2
            go_ret2
            exact ⟨rfl, HB3.out⟩
          · go_wp2_with fail
            refine (readCode_any _ l idx 5 w.heap.size _ (HV.out.below HD.out.below) (by rw [HN.out]; omega) (by decide) (by rw [HN.out]; omega)).mono ?_
            rintro e wr ⟨rfl, rfl⟩
            have hc0 := valL_lt ((l.drop idx).take 5)
            rw [List.length_take, List.length_drop, HN.out, Nat.min_eq_left (by omega)] at hc0
            obtain ⟨c, hcc⟩ : ∃ c, c = valL ((l.drop idx).take 5) := ⟨_, rfl⟩
            rw [← hcc] at hc0 ⊢
            have HC := Lib.hid hcc; clear hcc
            clear h5b h3b
            go_wp2_with fail
            refine (getChar_any sh c _ hsh5 (by rw [HZ.out]; exact hc0)).mono ?_
            rintro e w2 ⟨rfl, hb2⟩
            have HD2 := Lib.hid (HD.out.up hb2 (by have := HD.out.size; omega))
            have hent := tab_ent sh c hsh5 (by rw [HZ.out]; exact hc0)
            clear HD hb2
            obtain ⟨s, hs⟩ : ∃ s, s = tabS sh c := ⟨_, rfl⟩
            rw [← hs] at hent ⊢
            have HS : Hid (s = tabS sh (valL ((l.drop idx).take (sizeT sh)))) := Lib.hid (by rw [hs, HC.out, HZ.out])
            clear hs
            rcases hent with ⟨hnf, hnc, hne, hle⟩ | ⟨ca, cb, hcs, hca, hcb9⟩ | hfl
            · have hef : ((ofL s).toList == [70, 76, 71, 40, 110, 41]) = false := by
                rw [ByteArray.toList_eq, ofL_data, beq_eq_false_iff_ne]; exact hnf
              have HE := Lib.hid (And.intro hnf hnc)
              have hsz2 : (ofL s).size ≤ 100 := by rw [ofL_size]; omega
              obtain ⟨v1, w3, hcv, hrd, hb3⟩ := conv_any (P := Tryz.prog) w2 9 22 5 (ofL s) Tryz.underlying9 Tryz.underlying22 Tryz.underlying5 (by unfold maxLen; omega)
              rw [bytesOf_ofL] at hrd
              obtain ⟨f, out, rest, h1, h2, h3⟩ := HD2.out.dec
              obtain ⟨f', r, h7, h8⟩ := dec_text h1 (by omega) (by rw [List.length_drop, HN.out, HZ.out]; omega) (by rw [← HS.out]; exact hnf) (by rw [← HS.out]; exact hnc)
              rw [← HS.out] at h7
              rw [List.drop_drop, HZ.out] at h8
              have HST := Lib.hid (And.intro h8 (show (out ++ s) ++ r = final by rw [List.append_assoc, ← h7]; exact h2))
              have HO := Lib.hid (own_up h3 hb3)
              have hlen := h3.1
              rw [bl_len] at hlen
              have HRES := Lib.hid (own_up HD2.out.res hb3)
              have HBB := Lib.hid (And.intro (HD2.out.below.trans (hb3.mono (by have := HD2.out.size; omega))) (Nat.le_trans HD2.out.size hb3.size))
              have HRD := Lib.hid hrd
              have hNl : N ≤ idx := hNi
              clear h1 h2 h3 h7 h8 HD2 hnf hnc hrd hb3 hlen
              go_wp2_with fail
              refine (ctrlPre_no s _ (by omega) HE.out.2).mono ?_
              rintro e w2 ⟨rfl, rfl⟩
              go_wp2_with (with_reducible refine stop_at (o := ⟨some 191, _, _, _, _, _⟩) ?_)
              refine Lib.hid ?_
              refine list_app_rd _ rfl _ _ 22 rfl (g0 + 1) 5 i0 _ 1 Tryz.underlying22 hi0 hz0 hz1 hz2 rfl _ N (bl out) rfl HO.out _ _ (bl s) rfl HRD.out (bl_one _) (by rw [bl_len]; unfold maxLen; omega) (by rw [bl_len]; omega) (by have := HBB.out.2; omega) ?_
              intro v2 w4 ho1 hg1
              rw [← bl_app, bl_len] at ho1
              obtain ⟨dA2, dn2, dc2, rfl⟩ : ∃ A n c, v2 = .slice A n c := by obtain ⟨A, c, h, _⟩ := RdT.of_own ho1; exact ⟨_, _, _, h⟩
              have HD3 : Hid (DecS l final w w.heap.size g0 K w4 (idx + 5) lt lt (N + s.length) (.slice dA2 dn2 dc2)) := Lib.hid ⟨⟨f', _, r, HST.out.1, HST.out.2, ho1⟩, own_keep HRES.out (brf _) hg1 HO.out, below_grown HBB.out.1 hg1 (own_base HO.out (by omega)) (by have := HBB.out.2; omega), Nat.le_trans HBB.out.2 hg1.size⟩
              clear ho1 hg1 HST HO HRES HBB hcv hef
              go_wp2
              go_roundw
              case rel => exact ⟨idx + 5, lt, lt, N + s.length, dn2, dc2, dA2, rfl, by omega, by go_num, rfl, rfl, hlt5, by omega, rfl, by omega, HD3⟩
              case measure => simp [intOf]; omega
            · subst hcs
              have hef : ((ofL (ctrlS ca cb)).toList == [70, 76, 71, 40, 110, 41]) = false := by
                rw [ByteArray.toList_eq, ofL_data, beq_eq_false_iff_ne]; unfold ctrlS; simp
              have hi5 : ∀ x : World, (Instr.index 9 (.string (ofL (ctrlS ca cb))) (.int .i64 5)).run Tryz.prog x = .ok (.int .u8 (ca.toNat : Int)) x := fun _ => rfl
              have hi6 : ∀ x : World, (Instr.index 9 (.string (ofL (ctrlS ca cb))) (.int .i64 6)).run Tryz.prog x = .ok (.int .u8 (cb.toNat : Int)) x := fun _ => rfl
              have HCA := Lib.hid hca
              have HLB : Hid (cb = 76 → modeT ca < 5) := Lib.hid (fun h => by
                have := hcb9 h
                rcases hca with rfl | rfl | rfl | rfl | rfl | rfl <;> first | decide | exact absurd rfl this)
              clear hca hcb9
              have hmt : modeT ca < 6 := by rcases HCA.out with rfl | rfl | rfl | rfl | rfl | rfl <;> decide
              have HD3 : Hid (DecS l final w w.heap.size g0 K w2 (idx + 5) (if cb = 76 then modeT ca else sh) (modeT ca) N (.slice dA dn dc)) := Lib.hid (by
                obtain ⟨⟨f, out, rest, h1, h2, h3⟩, h4, h5, h6⟩ := HD2.out
                obtain ⟨f', h8⟩ := dec_ctrl h1 (by omega) (by rw [List.length_drop, HN.out, HZ.out]; omega) ca cb HS.out.symm
                rw [List.drop_drop, HZ.out] at h8
                exact ⟨⟨f', out, rest, h8, h2, h3⟩, h4, h5, h6⟩)
              clear HD2
              obtain ⟨y, hy⟩ : ∃ y, y = cb.toNat := ⟨_, rfl⟩
              rw [← hy] at hi6
              obtain ⟨md, hmd⟩ : ∃ md, md = modeT ca := ⟨_, rfl⟩
              rw [← hmd] at HD3 hmt
              have hgt := fun x => getTable_any ca x HCA.out
              rw [← hmd] at hgt
              have HLB2 : Hid (cb = 76 → md < 5) := Lib.hid (by rw [hmd]; exact HLB.out)
              have HGT := Lib.hid hgt
              have hpre := fun x => ctrlPre_yes ca cb x
              have HPRE := Lib.hid hpre
              clear hmd hgt hpre HS HCA
              by_cases hcb : cb = 76
              · have hcb2 : ((y : Int) == 76) = true := by rw [hy, hcb]; rfl
                rw [if_pos hcb] at HD3
                have hmt5 : md < 5 := HLB2.out hcb
                clear hcb hy
                generalize ofL (ctrlS ca cb) = S at *
                go_wp2_with fail
                refine (HPRE.out _).mono ?_
                rintro e w2 ⟨rfl, rfl⟩
                go_wp2_with fail
                refine (HGT.out _).mono ?_
                rintro e w2 ⟨rfl, rfl⟩
                clear hi5
                go_wp2
                go_roundw
                case rel => exact ⟨_, md, md, N, dn, dc, dA, rfl, by omega, by go_num, rfl, rfl, by omega, hmt, rfl, by omega, HD3⟩
                case measure => simp [intOf]; omega
              · have hcb2 : ((y : Int) == 76) = false := by
                  rw [beq_eq_false_iff_ne]; intro h; exact hcb (UInt8.toNat_inj.1 (by rw [← hy, show (76 : UInt8).toNat = 76 from rfl]; omega))
                rw [if_neg hcb] at HD3
                clear hcb hy
                generalize ofL (ctrlS ca cb) = S at *
                go_wp2_with fail
                refine (HPRE.out _).mono ?_
                rintro e w2 ⟨rfl, rfl⟩
                go_wp2_with fail
                refine (HGT.out _).mono ?_
                rintro e w2 ⟨rfl, rfl⟩
                clear hi5
                go_wp2
                go_roundw
                case rel => exact ⟨_, sh, md, N, dn, dc, dA, rfl, by omega, by go_num, rfl, rfl, by omega, hmt, rfl, by omega, HD3⟩
                case measure => simp [intOf]; omega
            · exfalso
              obtain ⟨f, out, rest, h1, _, _⟩ := HD2.out.dec
              exact dec_noflg h1 (by omega) (by rw [List.length_drop, HN.out, HZ.out]; omega) (by rw [← HS.out]; exact hfl)
    · have HX : Hid (∃ out, wr.ownsRow (g0 + 1) 5 1 (.slice dA dn dc) N (bl out) ∧ out = final) := Lib.hid (by
        obtain ⟨f, out, rest, h1, h2, h3⟩ := HD.out.dec
        exact ⟨out, h3, by rw [← h2, dec_end h1 (by rw [List.length_drop, HN.out]; omega), List.append_nil]⟩)
      obtain ⟨out, ho, he⟩ := HX.out
      subst he
      have HO := Lib.hid ho
      have HRES := Lib.hid HD.out.res
      have HBB := Lib.hid (And.intro HD.out.below HD.out.size)
      clear ho HX HD
      go_wp2_with (with_reducible refine stop_at (o := ⟨some 195, _, _, _, _, _⟩) ?_)
      refine Lib.hid ?_
      refine list_app_rd _ rfl _ _ 22 rfl g0 5 i0 _ 1 Tryz.underlying22 hi0 hz0 hz1 hz2 rfl _ 0 [] rfl HRES.out _ _ (bl out) rfl (Rd.of_own HO.out) (bl_one _) (by have := (Rd.of_own HO.out).len; simpa using this) (by rw [bl_len]; have := HO.out.1; rw [bl_len] at this; omega) (by have := HBB.out.2; omega) ?_
      intro v1 w3 ho1 hg1
      rw [List.nil_append] at ho1
      have hcs := conv_str (P := Tryz.prog) w3 w3.heap.size 22 5 9 Tryz.underlying22 Tryz.underlying5 Tryz.underlying9 _ (ofL out) (by rw [bytesOf_ofL]; exact Rd.of_own ho1)
      have HB3 : Hid (Below w.heap.size w w3) := Lib.hid (below_grown HBB.out.1 hg1 (own_base HRES.out hg0) (by have := HBB.out.2; omega))
      clear ho1 hg1 HO HRES HBB
      go_wp2
      go_ret2
      exact ⟨rfl, HB3.out⟩
end Go.Proofs.YtopfdmmimgnciaaGreatDoor
