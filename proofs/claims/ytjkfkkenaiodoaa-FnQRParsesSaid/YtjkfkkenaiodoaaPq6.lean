/-
  PLAIN: how long the texts of data words are. WALK: spec.QRSaid.
-/
import Derived.Test.YtjkfkkenaiodoaaPq5
namespace Go.Proofs.Ytjkfkkenaiodoaa
open Go.RowKit

/-- The text of segments. -/
def textOf (sg : List Seg) : List UInt8 := (sg.map (·.2)).flatten
theorem textOf_snoc (sg : List Seg) (s : Seg) : textOf (sg ++ [s]) = textOf sg ++ s.2 := by simp [textOf]
theorem textOf_take (sg : List Seg) (i : Nat) (s : Seg) (h : sg[i]? = some s) : textOf (sg.take (i + 1)) = textOf (sg.take i) ++ s.2 := by
  have hi : i < sg.length := (List.getElem?_eq_some_iff.1 h).1
  rw [List.take_succ_eq_append_getElem hi, textOf_snoc]
  rw [List.getElem?_eq_getElem hi] at h
  injection h with h
  rw [h]
theorem textOf_le (sg : List Seg) (i : Nat) : (textOf (sg.take i)).length ≤ (textOf sg).length := by
  have h : textOf sg = textOf (sg.take i) ++ textOf (sg.drop i) := by
    unfold textOf
    rw [← List.flatten_append, ← List.map_append, List.take_append_drop]
  rw [h, List.length_append]; omega
theorem chK_len (mode c n : Nat) : (chK mode (wkK mode c).1 n).length ≤ (wkK mode c).2.1 := by
  unfold wkK chK
  by_cases h1 : mode = 1
  · rw [if_pos h1, if_pos h1]
    by_cases h3 : 3 ≤ c
    · rw [if_pos h3]; simp
    · rw [if_neg h3]
      by_cases h2 : c = 2
      · rw [if_pos h2]; simp
      · rw [if_neg h2]; simp
  · rw [if_neg h1, if_neg h1]
    by_cases h2 : mode = 2
    · rw [if_pos h2, if_pos h2]
      by_cases h3 : 2 ≤ c
      · rw [if_pos h3]; simp
      · rw [if_neg h3]; simp
    · rw [if_neg h2, if_neg h2]; simp
theorem segS_len (bs : List Nat) (mode : Nat) : ∀ (f c pos : Nat) (out t : List UInt8) (p : Nat), segS bs mode f c pos out = some (t, p) → t.length + pos ≤ out.length + p
  | 0, c, pos, out, t, p, h => by simp only [segS, Option.some.injEq, Prod.mk.injEq] at h; obtain ⟨rfl, rfl⟩ := h; omega
  | f + 1, c, pos, out, t, p, h => by
    rw [segS] at h
    split at h
    · simp only [Option.some.injEq, Prod.mk.injEq] at h; obtain ⟨rfl, rfl⟩ := h; omega
    · split at h
      · cases h
      · split at h
        · cases h
        · have h1 := segS_len bs mode f _ _ _ t p h
          have h2 := chK_len mode c (rb bs pos (wkK mode c).2.1)
          rw [List.length_append] at h1
          omega
theorem segS_le (bs : List Nat) (mode : Nat) : ∀ (f c pos : Nat) (out t : List UInt8) (p : Nat), pos ≤ 8 * bs.length → segS bs mode f c pos out = some (t, p) → p ≤ 8 * bs.length
  | 0, c, pos, out, t, p, hp, h => by simp only [segS, Option.some.injEq, Prod.mk.injEq] at h; omega
  | f + 1, c, pos, out, t, p, hp, h => by
    rw [segS] at h
    split at h
    · simp only [Option.some.injEq, Prod.mk.injEq] at h; omega
    · split at h
      · cases h
      · split at h
        · cases h
        · exact segS_le bs mode f _ _ _ t p (by omega) h
/-- The modes of segments. -/
def okModes (sg : List Seg) : Prop := ∀ s ∈ sg, s.1 = 1 ∨ s.1 = 2 ∨ s.1 = 4
theorem segsF_text (bs : List Nat) (v : Nat) : ∀ (f pos : Nat) (acc sg : List Seg) , segsF bs v f pos acc = (0, sg) → (textOf acc).length ≤ pos → acc.length ≤ pos → okModes acc → pos ≤ 8 * bs.length → (textOf sg).length ≤ 8 * bs.length ∧ sg.length ≤ 8 * bs.length ∧ okModes sg
  | 0, pos, acc, sg, h, h1, h1b, h3, h2 => by
    simp only [segsF, Prod.mk.injEq, true_and] at h; subst h; exact ⟨by omega, by omega, h3⟩
  | f + 1, pos, acc, sg, h, h1, h1b, h3, h2 => by
    rw [segsF] at h
    split at h
    · simp only [Prod.mk.injEq, true_and] at h; subst h; exact ⟨by omega, by omega, h3⟩
    · split at h
      · simp only [Prod.mk.injEq, true_and] at h; subst h; exact ⟨by omega, by omega, h3⟩
      · split at h
        · simp at h
        · rename_i hm
          split at h
          · simp at h
          · split at h
            · simp at h
            · rename_i tp htp
              have h4 := segS_len _ _ _ _ _ _ tp.1 tp.2 htp
              have h5 := segS_le _ _ _ _ _ _ tp.1 tp.2 (by omega) htp
              have h6 := segS_ge _ _ _ _ _ _ tp.1 tp.2 htp
              rw [List.length_nil] at h4
              refine segsF_text bs v f tp.2 _ sg h (by rw [textOf_snoc, List.length_append]; simp only; omega) (by rw [List.length_append, List.length_singleton]; omega) (fun s hs => ?_) h5
              rcases List.mem_append.1 hs with hs | hs
              · exact h3 s hs
              · simp only [List.mem_singleton] at hs
                subst hs
                simp only
                omega
/-- Printable. -/
def ascB (b : UInt8) : Bool := decide (32 ≤ b.toNat) && decide (b.toNat ≤ 126)
def ascT (l : List UInt8) : Bool := l.all ascB
theorem bytesOf_bl (l : List UInt8) : bytesOf (ofL l) = bl l := bytesOf_ofL l
theorem asc_bad (sg : List Seg) (s : Seg) (i j : Nat) (x : UInt8) (hs : sg[i]? = some s) (hx : s.2[j]? = some x) (hb : ascB x = false) : ascT (textOf sg) = false := by
  unfold ascT
  rw [List.all_eq_false]
  refine ⟨x, ?_, by rw [hb]; decide⟩
  unfold textOf
  rw [List.mem_flatten]
  exact ⟨s.2, List.mem_map_of_mem (List.mem_of_getElem? hs), List.mem_of_getElem? hx⟩
theorem ascT_snoc (l : List UInt8) (x : UInt8) (h : ascT l = true) (hx : ascB x = true) : ascT (l ++ [x]) = true := by
  unfold ascT at h ⊢
  rw [List.all_append, h, List.all_cons, hx]; rfl
set_option maxRecDepth 100000 in
set_option maxHeartbeats 4000000 in
theorem qrSaidAll_any (v : Value) (sg : List Seg) (w : World) (h : RdG w v sg) (hT : (textOf sg).length ≤ 100000000000) :
    Calls Try.prog 7 #[v] w fun e w' => Below w.heap.size w w' ∧ ((ascT (textOf sg) = true ∧ e = .returned (.tuple #[.string (ofL (textOf sg)), .bool true])) ∨ (ascT (textOf sg) = false ∧ e = .returned (.tuple #[.string ⟨#[]⟩, .bool false]))) := by
  obtain ⟨i0, hi0, hz0, hz1, hz2⟩ := info_parts info_u8P
  have HG := Lib.hid h
  obtain ⟨A, cap, rfl, k1, k2, k3⟩ := h
  have HK3 := Lib.hid k3
  unfold maxLen at k2
  clear k3
  go_enter Try.func7, Try.ntmps7
  go_wp2_with fail
  go_loopw [4, 11] (fun ov iv wr => ∃ (i k : Nat), i ≤ sg.length ∧ iv = .int .i64 (i : Int) ∧ Hid (k = (textOf (sg.take i)).length) ∧ Hid (wr.ownsRow w.heap.size 5 1 ov k (bl (textOf (sg.take i)))) ∧ Hid (ascT (textOf (sg.take i)) = true) ∧ Hid (Below w.heap.size w wr)) (fun _ iv _ => sg.length - (intOf iv).toNat)
  case atStart => exact ⟨0, 0, Nat.zero_le _, rfl, Lib.hid (by simp [textOf]), Lib.hid (by simpa [textOf, bl] using own_nil w w.heap.size 5), Lib.hid (by simp [textOf, ascT]), Lib.hid (brf w)⟩
  case round =>
    obtain ⟨i, k, hi, rfl, HKL, HO, HA, HB⟩ := hrel
    rename World => wr
    by_cases hlt : i < sg.length
    · obtain ⟨b, o, rfl, hbb, hcc⟩ := HK3.out (by omega)
      obtain ⟨s, hs⟩ : ∃ s, sg[i]? = some s := ⟨_, List.getElem?_eq_getElem hlt⟩
      obtain ⟨u, u1, u2, u3⟩ := hcc i s hs
      obtain ⟨uA, uc, rfl, g1, g2, g3⟩ := u3.rd
      rw [bl_len] at u2 g1 g3
      unfold maxLen at g2
      have d1 := cell_up u1 HB.out
      have d2 := cell_up u2 HB.out
      have HG3 := Lib.hid g3
      have htk := textOf_take sg i s hs
      have hle := textOf_le sg (i + 1)
      rw [htk, List.length_append, ← HKL.out] at hle
      have HTK := Lib.hid htk
      have HSI := Lib.hid hs
      have HB1 := Lib.hid (bal HB.out (.cells #[.int .i64 (s.1 : Int), .slice uA s.2.length uc] 46))
      have HO1 := Lib.hid (own_up HO.out (bal (brf wr) (.cells #[.int .i64 (s.1 : Int), .slice uA s.2.length uc] 46)))
      clear hcc u1 u2 u3 g3 htk hs HB HO
      go_wp2_with fail
      clear d1 d2
      go_loopw [4, 18] (fun ov jv wi => ∃ (j : Nat), j ≤ s.2.length ∧ jv = .int .i64 (j : Int) ∧ Hid (wi.ownsRow w.heap.size 5 1 ov (k + j) (bl (textOf (sg.take i) ++ s.2.take j))) ∧ Hid (ascT (textOf (sg.take i) ++ s.2.take j) = true) ∧ Hid (Below w.heap.size w wi)) (fun _ jv _ => s.2.length - (intOf jv).toNat)
      case atStart => exact ⟨0, Nat.zero_le _, rfl, by simpa using HO1, by simpa using HA, HB1⟩
      case round =>
        rename World => wi
        clear HO1 HA HB1
        obtain ⟨j, hj, rfl, HO, HA, HB⟩ := hrel
        by_cases hjl : j < s.2.length
        · obtain ⟨b2, o2, rfl, hb2, hc2⟩ := HG3.out (by omega)
          obtain ⟨x, hx⟩ : ∃ x, x = s.2[j] := ⟨_, rfl⟩
          have hxe : s.2[j]? = some x := by rw [hx, List.getElem?_eq_getElem hjl]
          have cX : wi.cell? ⟨b2, o2 + j, none⟩ = some (.int .u8 ((x.toNat : Nat) : Int)) := by
            rw [below_cells HB.out b2 _ hb2]
            refine hc2 j _ ?_
            unfold bl
            rw [List.getElem?_map, hxe]; rfl
          have hxl : x.toNat < 256 := x.toNat_lt
          obtain ⟨n, hn⟩ : ∃ n, n = x.toNat := ⟨_, rfl⟩
          have HXE := Lib.hid hxe
          have HN := Lib.hid hn
          rw [← hn] at cX hxl
          clear hc2 hx hxe hn
          by_cases hasc : 32 ≤ n ∧ n ≤ 126
          · obtain ⟨a1, a2⟩ := hasc
            have a3 : ¬ (126 : Int) < (n : Int) := by omega
            have hkb : k + j + 1 ≤ 100000000000 := by omega
            go_wp2_with (with_reducible refine stop_at (o := ⟨some 31, _, _, _, _, _⟩) ?_)
            refine Lib.hid ?_
            refine list_app_rd _ rfl _ _ 22 rfl w.heap.size 5 i0 _ 1 Try.underlying22 hi0 hz0 hz1 hz2 rfl _ (k + j) _ rfl (own_up HO.out (bal (brf wi) _)) _ _ [.int .u8 (n : Int)] rfl (Rd.one rfl _ _) (fun u hu => by simp at hu; subst hu; rfl) (by simp only [List.length_singleton]; unfold maxLen; omega) (by simp only [List.length_singleton]; omega) (by have := HB.out.size; simp; omega) ?_
            intro v1 w3 ho1 hg1
            have hst : s.2.take (j + 1) = s.2.take j ++ [x] := by
              rw [List.take_succ_eq_append_getElem hjl]
              have h9 := HXE.out
              rw [List.getElem?_eq_getElem hjl] at h9
              injection h9 with h9
              rw [h9]
            have HO2 : Hid (w3.ownsRow w.heap.size 5 1 v1 (k + (j + 1)) (bl (textOf (sg.take i) ++ s.2.take (j + 1)))) := Lib.hid (by
              have e : bl [x] = [.int .u8 (n : Int)] := by rw [HN.out]; rfl
              rw [hst, ← List.append_assoc, bl_app, e]; exact ho1)
            have HA2 : Hid (ascT (textOf (sg.take i) ++ s.2.take (j + 1)) = true) := Lib.hid (by
              rw [hst, ← List.append_assoc]
              exact ascT_snoc _ _ HA.out (by unfold ascB; rw [← HN.out, decide_eq_true a1, decide_eq_true a2]; rfl))
            have HB2 : Hid (Below w.heap.size w w3) := Lib.hid (below_grown (bal HB.out _) hg1 (own_up HO.out (bal (brf wi) _)) (by have := HB.out.size; simp; omega))
            clear ho1 hg1 HO HA HB cX hst
            go_wp2_with fail
            go_roundw
            case rel => exact ⟨j + 1, by omega, by go_num, HO2, HA2, HB2⟩
            case measure => simp [intOf]; omega
          · have HBAD : Hid (ascT (textOf sg) = false) := Lib.hid (asc_bad sg s i j x HSI.out HXE.out (by
              unfold ascB
              rw [← HN.out, Bool.and_eq_false_iff, decide_eq_false_iff_not, decide_eq_false_iff_not]; omega))
            have hc : 126 < n ∨ n < 32 := by omega
            clear hasc
            rcases hc with hc | hc
            · go_wp2_with fail
              go_ret2
              exact ⟨HB.out, .inr ⟨HBAD.out, rfl⟩⟩
            · have hc2 : ¬ 126 < n := by omega
              go_wp2_with fail
              go_ret2
              exact ⟨HB.out, .inr ⟨HBAD.out, rfl⟩⟩
        · obtain rfl : j = s.2.length := by omega
          have HO2 : Hid (wi.ownsRow w.heap.size 5 1 u4 (k + s.2.length) (bl (textOf (sg.take (i + 1))))) := Lib.hid (by rw [HTK.out]; have h9 := HO.out; rw [List.take_length] at h9; exact h9)
          have HA2 : Hid (ascT (textOf (sg.take (i + 1))) = true) := Lib.hid (by rw [HTK.out]; have h9 := HA.out; rw [List.take_length] at h9; exact h9)
          have HK2 : Hid (k + s.2.length = (textOf (sg.take (i + 1))).length) := Lib.hid (by rw [HTK.out, List.length_append, ← HKL.out])
          go_wp2_with fail
          go_roundw
          case rel => exact ⟨i + 1, k + s.2.length, by omega, by go_num, HK2, HO2, HA2, HB⟩
          case measure => simp [intOf]; omega
    · obtain rfl : i = sg.length := by omega
      have hown := HO.out
      have hasc := HA.out
      rw [List.take_length] at hown hasc
      have hrd := (RdT.of_own hown).rd
      have HC := Lib.hid (conv_str (P := Try.prog) wr wr.heap.size 22 5 9 Try.underlying22 Try.underlying5 Try.underlying9 _ (ofL (textOf sg)) (by rw [bytesOf_bl]; exact hrd))
      have HAS := Lib.hid hasc
      have hcv := HC.out
      clear hown hasc hrd
      go_wp2_with fail
      go_ret2
      exact ⟨HB.out, .inl ⟨HAS.out, rfl⟩⟩
end Go.Proofs.Ytjkfkkenaiodoaa
