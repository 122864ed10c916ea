/-
  WALKS: spec.DMScript, DMSaid, laws.dmScript, for one segment.
-/
import Derived.Test.YtjpcajecmfhppaaDoorDe6
namespace Go.Proofs.YtjpcajecmfhppaaDoor
open Go.RowKit

/-- A list of one segment. -/
def Seg1 (w : World) (g m : Nat) (s : ByteArray) : Prop := Blk w g 24 #[.int .i64 (m : Int), .string s]
theorem Seg1.up {w w' : World} {g m : Nat} {s : ByteArray} (h : Seg1 w g m s) (hb : Below w.heap.size w w') : Seg1 w' g m s := Blk.up h hb
theorem Seg1.cells {w : World} {g m : Nat} {s : ByteArray} (h : Seg1 w g m s) : w.cell? ⟨g, 0, none⟩ = some (.int .i64 (m : Int)) ∧ w.cell? ⟨g, 1, none⟩ = some (.string s) := ⟨by rw [Blk.cell h]; rfl, by rw [Blk.cell h]; rfl⟩
theorem ba_nil (s : ByteArray) (h : s.size = 0) : s = ⟨#[]⟩ := by
  apply ByteArray.ext
  exact Array.eq_empty_of_size_eq_zero h
set_option maxRecDepth 100000 in
theorem said_any (g m : Nat) (s : ByteArray) (w : World) (h : Seg1 w g m s) (hs : s.size ≤ 2147483647) :
    Calls Tryd.prog 10 #[.slice (some ⟨g, 0, none⟩) 1 1] w fun e w' => e = .returned (.string s) ∧ Below w.heap.size w w' := by
  have HS := Lib.hid h
  clear h
  go_enter Tryd.func10, Tryd.ntmps10
  go_wp2_with fail
  go_loopw [3, 8] (fun tv iv wr => ∃ i : Nat, i ≤ 1 ∧ iv = .int .i64 (i : Int) ∧ tv = .string (if i = 0 then ⟨#[]⟩ else s) ∧ Hid (Below w.heap.size w wr)) (fun _ iv _ => 1 - (intOf iv).toNat)
  case atStart => exact ⟨0, by decide, rfl, rfl, Lib.hid (brf w)⟩
  case round =>
    obtain ⟨i, hi, rfl, rfl, HB⟩ := hrel
    rename World => wr
    have hi2 : i = 0 ∨ i = 1 := by omega
    rcases hi2 with hi0 | hi0
    · have hii : (i : Int) = 0 := by omega
      obtain ⟨c0, c1⟩ := (HS.out.up HB.out).cells
      rw [if_pos hi0, hii]
      clear hi0 hii
      go_wp2_with fail
      go_roundw
      case rel => exact ⟨1, by decide, rfl, by rw [if_neg (by decide)]; congr 1, Lib.hid (bal HB.out _)⟩
      case measure => simp [intOf]
    · have hii : (i : Int) = 1 := by omega
      rw [if_neg (by omega), hii]
      clear hi0 hii
      go_wp2_with fail
      go_ret
      exact ⟨rfl, HB.out⟩
theorem c40S_len : ∀ (vs : List Nat) (s : Nat) (t : List UInt8), c40S s vs = some t → vs.length ≤ 2 * t.length + 1 - (if s = 0 then 0 else 1) + 0
  | [], s, t, _ => by simp
  | x :: r, s, t, h => by
    rcases c40S_next h with ⟨rfl, hx, hr⟩ | ⟨t', rfl, _, _, hr, rfl⟩ | ⟨t', rfl, _, hr, rfl⟩ | ⟨t', rfl, _, hr, rfl⟩ | ⟨t', rfl, _, hr, rfl⟩
    · have ih := c40S_len r (x + 1) t hr
      rw [if_neg (by omega)] at ih
      rw [if_pos rfl, List.length_cons]
      omega
    · have ih := c40S_len r 0 t' hr
      rw [if_pos rfl] at ih
      rw [if_pos rfl, List.length_cons, List.length_cons]
      omega
    · have ih := c40S_len r 0 t' hr
      rw [if_pos rfl] at ih
      rw [if_neg (by decide), List.length_cons, List.length_cons]
      omega
    · have ih := c40S_len r 0 t' hr
      rw [if_pos rfl] at ih
      rw [if_neg (by decide), List.length_cons, List.length_cons]
      omega
    · have ih := c40S_len r 0 t' hr
      rw [if_pos rfl] at ih
      rw [if_neg (by decide), List.length_cons, List.length_cons]
      omega
/-- The words of one segment. -/
def ScrOf (m : Nat) (s : ByteArray) (l : List Nat) : Prop := (s.size = 0 ∧ l = []) ∨ (m = 1 ∧ C40Of s.data.toList l) ∨ (m = 4 ∧ l = 240 :: sixW (ediC s.data.toList))
theorem scr_len {m : Nat} {s : ByteArray} {l : List Nat} (h : ScrOf m s l) (hs : s.size ≤ 1555) (hc : ∀ c ∈ s.data.toList, c.toNat < 128) : l.length ≤ 1000000 ∧ ∀ x ∈ l, x < 256 := by
  have hsl : s.data.toList.length = s.size := by simp
  rcases h with ⟨_, rfl⟩ | ⟨_, rfl | ⟨t1, t2, vs, ht, h3, hcs, rfl⟩⟩ | ⟨_, rfl⟩
  · exact ⟨by simp, fun x hx => by cases hx⟩
  · have h1 := ascW_len _ s.data.toList (Nat.le_refl _)
    exact ⟨by omega, ascW_lt _ _ (Nat.le_refl _) hc⟩
  · have h40 := c40S_lt _ _ _ hcs
    have hl2 : t2.length ≤ 1555 := by rw [ht, List.length_append] at hsl; omega
    have hc2 : ∀ c ∈ t2, c.toNat < 128 := fun c h => hc c (by rw [ht]; exact List.mem_append.2 (.inr h))
    have hl1 : t1.length ≤ 1555 := by rw [ht, List.length_append] at hsl; omega
    have hvl : vs.length ≤ 3200 := by
      have := c40S_len vs 0 t1 hcs
      omega
    have h5 := tripW_len vs.length vs (Nat.le_refl _) h3
    have h6 := ascW_len _ t2 (Nat.le_refl _)
    refine ⟨by simp only [List.length_cons, List.length_append]; omega, fun x hx => ?_⟩
    rcases List.mem_cons.1 hx with rfl | hx
    · decide
    · rcases List.mem_append.1 hx with hx | hx
      · exact tripW_lt _ vs (Nat.le_refl _) h40 x hx
      · rcases List.mem_cons.1 hx with rfl | hx
        · decide
        · exact ascW_lt _ _ (Nat.le_refl _) hc2 x hx
  · obtain ⟨pad, h1, _, h3, h4⟩ := sixW_facts _ (ediC_lt s.data.toList)
    rw [ediC_len, hsl] at h3
    refine ⟨by rw [List.length_cons]; omega, fun x hx => ?_⟩
    rcases List.mem_cons.1 hx with rfl | hx
    · decide
    · exact h4 x hx
/-- With pads behind them they say the text. -/
theorem scr_said {m : Nat} {s : ByteArray} {l rest : List Nat} (h : ScrOf m s l) (hc : ∀ c ∈ s.data.toList, c.toNat < 128) (h4 : m = 4 → ∀ c ∈ s.data.toList, 32 ≤ c.toNat ∧ c.toNat ≤ 94) (hr : 2 ≤ rest.length) : Said 1 (l ++ 129 :: rest) s.data.toList := by
  rcases h with ⟨h0, rfl⟩ | ⟨_, rfl | ⟨t1, t2, vs, ht, h3, hcs, rfl⟩⟩ | ⟨h4', rfl⟩
  · have h1 : s.data.toList = [] := List.eq_nil_of_length_eq_zero (by simpa using h0)
    rw [h1]
    exact asc_said rest 0 [] (Nat.le_refl _) (fun c hc => by cases hc)
  · exact asc_said rest _ _ (Nat.le_refl _) hc
  · have h5 := c40_said vs t1 t2 rest h3 hcs (fun c h => hc c (by rw [ht]; exact List.mem_append.2 (.inr h)))
    rw [← ht] at h5
    simpa using h5
  · exact edi_said _ rest (h4 h4') hr
set_option maxRecDepth 100000 in
set_option maxHeartbeats 4000000 in
theorem script_any (g m : Nat) (s : ByteArray) (w : World) (h : Seg1 w g m s) (hm : m = 1 ∨ m = 4) (hs : s.size ≤ 1555) (hc : ∀ c ∈ s.data.toList, c.toNat < 128) :
    Calls Tryd.prog 12 #[.slice (some ⟨g, 0, none⟩) 1 1] w fun e w' => ∃ v l, e = .returned v ∧ RdT w' 5 v (wv8 l) ∧ ScrOf m s l ∧ Below w.heap.size w w' := by
  obtain ⟨i0, hi0, hz0, hz1, hz2⟩ := info_parts info_u8P
  have HS := Lib.hid h
  have HC := Lib.hid hc
  clear h hc
  go_enter Tryd.func12, Tryd.ntmps12
  go_wp2_with fail
  go_loopw [3, 8] (fun ov iv wr => ∃ (i n : Nat) (l : List Nat), i ≤ 1 ∧ iv = .int .i64 (i : Int) ∧ Hid (wr.ownsRow w.heap.size 5 1 ov n (wv8 l)) ∧ Hid ((i = 0 ∧ ov = .slice none 0 0 ∧ l = []) ∨ (i = 1 ∧ ScrOf m s l)) ∧ Hid (Below w.heap.size w wr)) (fun _ iv _ => 1 - (intOf iv).toNat)
  case atStart => exact ⟨0, 0, [], by decide, rfl, Lib.hid (own_nil _ _ _), Lib.hid (.inl ⟨rfl, rfl, rfl⟩), Lib.hid (brf w)⟩
  case round =>
    obtain ⟨i, n, l, hi, rfl, HO, HI, HB⟩ := hrel
    rename World => wr
    rcases HI.out with ⟨hi0, rfl, rfl⟩ | ⟨hi0, hscr⟩
    · have hii : (i : Int) = 0 := by omega
      obtain ⟨c0, c1⟩ := (HS.out.up HB.out).cells
      rw [hii]
      clear hi0 hii HI
      have hal := bal (brf wr) (.cells #[.int .i64 (m : Int), .string s] 24)
      have HBa := Lib.hid (bup HB.out hal)
      by_cases hz : s.size = 0
      · have hs0 := ba_nil s hz
        have HF : Hid (ScrOf m s []) := Lib.hid (.inl ⟨hz, rfl⟩)
        have HOa := Lib.hid (own_nil (wr.alloc (.cells #[.int .i64 (m : Int), .string s] 24)) w.heap.size 5)
        clear hz
        subst hs0
        go_wp2_with fail
        go_roundw
        case rel => exact ⟨1, 0, [], by decide, rfl, HOa, Lib.hid (.inr ⟨rfl, HF.out⟩), HBa⟩
        case measure => simp [intOf]
      · have hne : s.toList.isEmpty = false := by
          rw [Lib.toList_data]
          cases hl : s.data.toList with
          | nil => exact absurd (by have := congrArg List.length hl; simpa using this) hz
          | cons _ _ => rfl
        clear hz
        rcases hm with rfl | rfl
        · go_wp2_with fail
          refine (threes_any s _ hs HC.out).mono ?_
          rintro e wa ⟨v, l, rfl, hv, hco, hb⟩
          have HF : Hid (ScrOf 1 s l) := Lib.hid (.inr (.inl ⟨rfl, hco⟩))
          have hlen := scr_len HF.out hs HC.out
          have HV := Lib.hid hv
          have HBb : Hid (Below w.heap.size w wa) := Lib.hid (bup HBa.out hb)
          obtain ⟨N, hN⟩ : ∃ N, N = l.length := ⟨_, rfl⟩
          have hN1 : N ≤ 1000000 := by rw [hN]; exact hlen.1
          have HNN := Lib.hid hN
          clear hv hb hlen hN
          go_wp2_with (with_reducible refine stop_at (o := ⟨some 18, _, _, _, _, _⟩) ?_)
          refine Lib.hid ?_
          refine list_app_rd _ rfl _ _ _ rfl w.heap.size 5 i0 _ 1 Tryd.underlying27 hi0 hz0 hz1 hz2 rfl _ 0 [] rfl (own_nil _ _ _) _ _ (wv8 l) rfl HV.out.rd (wv8_one _) (by rw [wv8_len, ← HNN.out]; unfold maxLen; omega) (by rw [wv8_len, ← HNN.out]; omega) HBb.out.size ?_
          intro v2 w2 ho1 hg1
          rw [List.nil_append] at ho1
          have HB2 : Hid (Below w.heap.size w w2) := Lib.hid (below_grown HBb.out hg1 (own_nil _ w.heap.size 5) HBb.out.size)
          have HO2 := Lib.hid ho1
          clear ho1 hg1 HV HBb
          go_wp2_with fail
          go_roundw
          case rel => exact ⟨1, _, l, by decide, rfl, HO2, Lib.hid (.inr ⟨rfl, HF.out⟩), HB2⟩
          case measure => simp [intOf]
        · go_wp2_with fail
          refine (sixes_any s _ hs).mono ?_
          rintro e wa ⟨v, rfl, hv, hb⟩
          obtain ⟨l, hl⟩ : ∃ l, l = 240 :: sixW (ediC s.data.toList) := ⟨_, rfl⟩
          rw [← hl] at hv
          have HF : Hid (ScrOf 4 s l) := Lib.hid (.inr (.inr ⟨rfl, hl⟩))
          have hlen := scr_len HF.out hs HC.out
          clear hl
          have HV := Lib.hid hv
          have HBb : Hid (Below w.heap.size w wa) := Lib.hid (bup HBa.out hb)
          obtain ⟨N, hN⟩ : ∃ N, N = l.length := ⟨_, rfl⟩
          have hN1 : N ≤ 1000000 := by rw [hN]; exact hlen.1
          have HNN := Lib.hid hN
          clear hv hb hlen hN
          go_wp2_with (with_reducible refine stop_at (o := ⟨some 40, _, _, _, _, _⟩) ?_)
          refine Lib.hid ?_
          refine list_app_rd _ rfl _ _ _ rfl w.heap.size 5 i0 _ 1 Tryd.underlying27 hi0 hz0 hz1 hz2 rfl _ 0 [] rfl (own_nil _ _ _) _ _ (wv8 l) rfl HV.out.rd (wv8_one _) (by rw [wv8_len, ← HNN.out]; unfold maxLen; omega) (by rw [wv8_len, ← HNN.out]; omega) HBb.out.size ?_
          intro v2 w2 ho1 hg1
          rw [List.nil_append] at ho1
          have HB2 : Hid (Below w.heap.size w w2) := Lib.hid (below_grown HBb.out hg1 (own_nil _ w.heap.size 5) HBb.out.size)
          have HO2 := Lib.hid ho1
          clear ho1 hg1 HV HBb
          go_wp2_with fail
          go_roundw
          case rel => exact ⟨1, _, l, by decide, rfl, HO2, Lib.hid (.inr ⟨rfl, HF.out⟩), HB2⟩
          case measure => simp [intOf]
    · have hii : (i : Int) = 1 := by omega
      have HF := Lib.hid hscr
      rw [hii]
      clear hi0 hii hscr HI
      go_wp2_with fail
      go_ret
      exact ⟨_, l, rfl, RdT.of_own HO.out, HF.out, HB.out⟩
end Go.Proofs.YtjpcajecmfhppaaDoor
