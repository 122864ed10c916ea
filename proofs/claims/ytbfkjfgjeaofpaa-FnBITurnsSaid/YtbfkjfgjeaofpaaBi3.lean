/-
  WALKS AND THE LAW of bytes.
-/
import Derived.Test.YtbfkjfgjeaofpaaBi2
namespace Go.Proofs.Ytbfkjfgjeaofpaa
open Go.RowKit

theorem Rd.take {w : World} {B : Nat} {A : Option Addr} {n cap k : Nat} {xs : List Value} (h : Rd w B (.slice A n cap) xs) (hk : k ≤ n) : Rd w B (.slice A k cap) (xs.take k) := by
  obtain ⟨A', cap', hv, h1, h2, h3⟩ := h
  injection hv with e1 e2 e3
  subst e1 e2 e3
  have hl : (xs.take k).length = k := by rw [List.length_take]; omega
  refine ⟨_, _, by rw [hl], by omega, h2, fun hp => ?_⟩
  obtain ⟨b, off, e, hb, hc⟩ := h3 (by omega)
  exact ⟨b, off, e, hb, fun j u hu => hc j u (by
    have hj : j < k := by have := (List.getElem?_eq_some_iff.1 hu).1; omega
    rwa [List.getElem?_take_of_lt hj] at hu)⟩

/-- laws.biBits. -/
theorem biBits_any (v : Value) (l : List Bool) (most : Nat) (w : World) (hv : Rd w w.heap.size v (bv l)) (hm : most ≤ 16384) :
    Calls Try.prog 7 #[v, .int .i64 most] w fun e w' => ∃ v', e = .returned v' ∧ Rd w' w'.heap.size v' (bv (l.take most)) ∧ Below w.heap.size w w' := by
  obtain ⟨i0, hi0, hz0, hz1, hz2⟩ := info_parts info_bool
  obtain ⟨A, cap, rfl, h1, h2, h3⟩ := id hv
  rw [bv_len] at *
  have h2' := h2
  unfold maxLen at h2
  rcases A with _ | ad
  · have hl : l = [] := by
      rcases l with _ | ⟨x, r⟩
      · rfl
      · obtain ⟨b, o, he, _⟩ := h3 (by simp); cases he
    subst hl
    have HV := Lib.hid hv; clear hv h3
    go_enter Try.func7, Try.ntmps7
    go_wp2_with (at_builtin; refine list_app_rd _ rfl _ _ _ rfl w.heap.size 4 i0 _ 1 Try.underlying22 hi0 hz0 hz1 hz2 rfl _ 0 [] rfl (own_empty (Blk.fresh _ _ _) (Nat.le_refl _)) _ _ [] rfl (HV.out.up (bal (brf w) _)) (fun u hu => absurd hu (by simp)) (by unfold maxLen; simp) (by simp) (by simp) ?_; intro v1 w2 ho1 hg1)
    go_ret
    exact ⟨_, rfl, by simpa [bv] using Rd.of_own ho1, below_grown (bal (brf w) _) hg1 (own_empty (Blk.fresh _ _ _) (Nat.le_refl _)) (by simp)⟩
  · obtain ⟨b, o, had⟩ : ∃ b o, ad = ⟨b, o, none⟩ ∨ l = [] := by
      rcases l with _ | ⟨x, r⟩
      · exact ⟨0, 0, .inr rfl⟩
      · obtain ⟨b, o, he, _⟩ := h3 (by simp); injection he with he; exact ⟨b, o, .inl he⟩
    clear had
    by_cases hlm : l.length ≤ most
    · have hmin : min (l.length : Int) (most : Int) = (l.length : Int) := by omega
      have HV := Lib.hid hv; clear hv h3
      have HT : Hid (l.take most = l) := Lib.hid (List.take_of_length_le hlm)
      go_enter Try.func7, Try.ntmps7
      go_wp2_with (at_builtin; refine list_app_rd _ rfl _ _ _ rfl w.heap.size 4 i0 _ 1 Try.underlying22 hi0 hz0 hz1 hz2 rfl _ 0 [] rfl (own_empty (Blk.fresh _ _ _) (Nat.le_refl _)) _ _ (bv l) rfl (HV.out.up (bal (brf w) _)) (bv_one _) (by rw [bv_len]; unfold maxLen; omega) (by rw [bv_len]; omega) (by simp) ?_; intro v1 w2 ho1 hg1)
      go_ret
      exact ⟨_, rfl, by rw [HT.out]; simpa using Rd.of_own ho1, below_grown (bal (brf w) _) hg1 (own_empty (Blk.fresh _ _ _) (Nat.le_refl _)) (by simp)⟩
    · have hmin : min (l.length : Int) (most : Int) = (most : Int) := by omega
      have HV := Lib.hid (hv.take (k := most) (by omega)); clear hv h3
      have HT : Hid ((bv l).take most = bv (l.take most) ∧ (bv (l.take most)).length = most) := Lib.hid ⟨by simp [bv], by rw [bv_len, List.length_take]; omega⟩
      rw [HT.out.1] at HV
      go_enter Try.func7, Try.ntmps7
      go_wp2_with (at_builtin; refine list_app_rd _ rfl _ _ _ rfl w.heap.size 4 i0 _ 1 Try.underlying22 hi0 hz0 hz1 hz2 rfl _ 0 [] rfl (own_empty (Blk.fresh _ _ _) (Nat.le_refl _)) _ _ (bv (l.take most)) rfl (HV.out.up (bal (brf w) _)) (bv_one _) (by rw [HT.out.2]; unfold maxLen; omega) (by rw [HT.out.2]; omega) (by simp) ?_; intro v1 w2 ho1 hg1)
      go_ret
      exact ⟨_, rfl, by simpa using Rd.of_own ho1, below_grown (bal (brf w) _) hg1 (own_empty (Blk.fresh _ _ _) (Nat.le_refl _)) (by simp)⟩

/-- The bytes of a list of values, as a string. -/
def byS (l : List Bool) (off many : Nat) : ByteArray := ⟨((List.range many).map fun i => UInt8.ofNat (byN l (off + 8 * i) 8)).toArray⟩
theorem byS_bytes (l : List Bool) (off many : Nat) : bytesOf (byS l off many) = byVs l off many := by
  unfold bytesOf byS byVs
  rw [List.map_map]
  apply List.map_congr_left
  intro i _
  have h := byN_lt l (off + 8 * i) 8
  simp only [Function.comp, byV]
  have : (UInt8.ofNat (byN l (off + 8 * i) 8)).toNat = byN l (off + 8 * i) 8 := by
    rw [UInt8.toNat_ofNat']; exact Nat.mod_eq_of_lt h
  rw [this]
theorem conv_str {P : Program} (w : World) (B : Nat) (src e dst : TypeId) (hs : P.underlying src = some (.slice e)) (he : P.underlying e = some (.int .u8)) (hd : P.underlying dst = some .string) (v : Value) (s : ByteArray) (h : Rd w B v (bytesOf s)) :
    (convert src dst v).run P w = .ok (.string s) w := by
  obtain ⟨A, cap, rfl, h1, h2, h3⟩ := h
  rw [bytesOf_len] at *
  rcases A with _ | ad
  · have h0 : s.size = 0 := by
      rcases Nat.eq_zero_or_pos s.size with h | h
      · exact h
      · obtain ⟨b, o, he, _⟩ := h3 h; cases he
    rw [h0, Lib.run_convert_nil_bytes w src dst e cap hs he hd]
    congr 2
    apply ByteArray.ext
    have : s.data.size = 0 := h0
    exact (Array.eq_empty_of_size_eq_zero this).symm
  · rcases Nat.eq_zero_or_pos s.size with h | h
    · have hs0 : s = ⟨#[]⟩ := by
        apply ByteArray.ext
        have : s.data.size = 0 := h
        exact Array.eq_empty_of_size_eq_zero this
      rw [h, run_convert_bytes_string w src dst e (some ad) 0 cap hs he hd, hs0]
      simp [Conv.bytesToString, loadCells]
      rfl
    · obtain ⟨b, o, he2, hb, hc⟩ := h3 h
      injection he2 with he2
      subst he2
      exact Lib.run_convert_whole w src e dst hs he hd b o s (fun i hi => hc i _ (bytesOf_at s i hi)) cap
theorem getD_len {l : List Nat} {i : Nat} (h : i < l.length) : (wv l)[i]? = some (.int .u32 ((l[i] : Nat) : Int)) := by simp [wv, h]

/-- The law. -/
theorem bytes_walk (v : Value) (l : List Bool) (a b : Nat) (ha : a < 256) (hb : b < 256) (w : World) (hv : Rd w w.heap.size v (bv l)) :
    Calls Try.prog 3 #[v, .int .u8 a, .int .u8 b] w fun e w' => e = .returned (.bool true) ∧ Below w.heap.size w w' := by
  obtain ⟨A, cap, rfl, h1, h2, h3⟩ := id hv
  have HV := Lib.hid hv; clear hv h3
  rw [bv_len] at *
  unfold maxLen at h2
  by_cases hbig : (2147483647 : Int) < (l.length : Int)
  · go_enter Try.func3, Try.ntmps3
    go_wp2
    go_ret
    exact ⟨rfl, brf w⟩
  · go_enter Try.func3, Try.ntmps3
    go_wp2_with fail
    refine (biBits_any _ l 200 w HV.out (by omega)).mono ?_
    rintro e w1 ⟨v1, rfl, hv1, hb1⟩
    have hlen : (l.take 200).length ≤ 200 := by rw [List.length_take]; omega
    clear HV h1 h2 hbig
    have hb1' := hb1
    generalize l.take 200 = l at *
    obtain ⟨A1, cap1, rfl, h11, h12, h13⟩ := id hv1
    have HV1 := Lib.hid hv1; clear hv1 h13
    have HB1 := Lib.hid hb1; clear hb1 hb1'
    rw [bv_len] at *
    unfold maxLen at h12
    have hoff : a % (l.length + 1) ≤ l.length := Nat.le_of_lt_succ (Nat.mod_lt _ (by omega))
    have eoff : (a : Int) % ((l.length : Int) + 1) = ((a % (l.length + 1) : Nat) : Int) := by simp
    generalize a % (l.length + 1) = off at *
    have hmany : b % ((l.length - off) / 8 + 1) ≤ (l.length - off) / 8 := Nat.le_of_lt_succ (Nat.mod_lt _ (by omega))
    have emany : (b : Int) % (((l.length : Int) - (off : Int)) / 8 + 1) = ((b % ((l.length - off) / 8 + 1) : Nat) : Int) := by
      have : ((l.length : Int) - (off : Int)) / 8 + 1 = (((l.length - off) / 8 + 1 : Nat) : Int) := by omega
      rw [this]; simp
    generalize b % ((l.length - off) / 8 + 1) = many at *
    have hom : off + 8 * many ≤ l.length := by omega
    have hq0 : 0 ≤ ((l.length : Int) - (off : Int)) / 8 := by omega
    have hq1 : ((l.length : Int) - (off : Int)) / 8 ≤ 200 := by omega
    go_wp2_with fail
    refine (arrayBytes_any _ l off many w1 HV1.out (by omega) hom).mono ?_
    rintro e w2 ⟨v2, rfl, hv2, hb2⟩
    have HV2 := Lib.hid (HV1.out.up hb2)
    have HB2 := Lib.hid (bup HB1.out hb2)
    have HR2 := Lib.hid hv2
    clear hv2 HV1 HB1 hb2
    go_wp2_with fail
    refine (specBytes_any _ l off many w2 HV2.out (by omega) hom).mono ?_
    rintro e w3 ⟨v3, rfl, hv3, hb3⟩
    have HV3 := Lib.hid (HV2.out.up hb3)
    have HB3 := Lib.hid (bup HB2.out hb3)
    have hc1 := conv_str (P := Try.prog) w3 _ 24 5 9 Try.underlying24 Try.underlying5 Try.underlying9 v2 (byS l off many) (by rw [byS_bytes]; exact HR2.out.up hb3)
    have hc2 := conv_str (P := Try.prog) w3 _ 24 5 9 Try.underlying24 Try.underlying5 Try.underlying9 v3 (byS l off many) (by rw [byS_bytes]; exact hv3)
    clear hv3 HV2 HB2 HR2 hb3
    generalize byS l off many = st at *
    go_wp2_with fail
    refine (arrayWords_any _ l w3 HV3.out (by omega)).mono ?_
    rintro e w4 ⟨v4, rfl, hv4, hb4⟩
    have HV4 := Lib.hid (HV3.out.up hb4)
    have HB4 := Lib.hid (bup HB3.out hb4)
    have HR4 := Lib.hid hv4
    clear hv4 HV3 HB3 hb4 hc1 hc2
    go_wp2_with fail
    refine (specWords_any _ l w4 HV4.out (by omega)).mono ?_
    rintro e w5 ⟨v5, rfl, hv5, hb5⟩
    have HB5 := Lib.hid (bup HB4.out hb5)
    obtain ⟨A4, c4, rfl, h41, h42, h43⟩ := HR4.out.up hb5
    obtain ⟨A5, c5, rfl, h51, h52, h53⟩ := hv5
    clear HV4 HB4 HR4 hb5
    rw [wv_len] at *
    unfold maxLen at h42 h52
    have hwl : (wordsOf l).length ≤ 1000 := by unfold wordsOf; rw [setBits_len]; omega
    have H43 := Lib.hid h43; clear h43
    have H53 := Lib.hid h53; clear h53
    generalize wordsOf l = ws at *
    go_wp2
    go_loopw [14] (fun i wr => ∃ k : Nat, k ≤ ws.length ∧ i = .int .i64 k ∧ ∃ nq, wr = w5.drewN nq) (fun i _ => ws.length - (intOf i).toNat)
    case atStart => exact ⟨0, Nat.zero_le _, rfl, 0, rfl⟩
    case round =>
      obtain ⟨k, hk, rfl, nq, rfl⟩ := hrel
      by_cases hlt : k < ws.length
      · obtain ⟨b4, o4, rfl, hb4, hcc4⟩ := H43.out (by omega)
        obtain ⟨b5, o5, rfl, hb5, hcc5⟩ := H53.out (by omega)
        have cc4 := hcc4 k _ (getD_len hlt)
        have cc5 := hcc5 k _ (getD_len hlt)
        clear hcc4 hcc5
        go_wp2
        go_quiet (fail)
        go_wp2
        go_roundw
        case rel => exact ⟨k + 1, by omega, by go_num, _, rfl⟩
        case measure => simp [intOf]; omega
      · go_wp2
        go_ret
        exact ⟨rfl, bdn HB5.out _⟩
end Go.Proofs.Ytbfkjfgjeaofpaa
