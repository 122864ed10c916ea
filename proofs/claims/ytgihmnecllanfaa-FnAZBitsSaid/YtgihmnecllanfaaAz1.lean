/-
  WALKS: laws.azLayers, spec.AZSide, AZPlaces.
-/
import Derived.Test.YtgihmnecllanfaaNl
namespace Go.Proofs.Ytgihmnecllanfaa
open Go.RowKit

def layN (c : Bool) (n : Nat) : Nat := if c then 1 + n % 4 else 1 + n % 32
theorem layN_le (c : Bool) (n : Nat) : 1 ≤ layN c n ∧ layN c n ≤ 32 := by unfold layN; split <;> omega
theorem layN_c (n : Nat) : layN true n ≤ 4 := by unfold layN; simp; omega
def sideN (c : Bool) (L : Nat) : Nat := if c then 11 + 4 * L else 14 + 4 * L
def wholeN (c : Bool) (L : Nat) : Nat := if c then sideN c L else sideN c L + 1 + 2 * ((sideN c L / 2 - 1) / 15)
def placeN (c : Bool) (L i : Nat) : Nat :=
  if c then i else if i < sideN c L / 2 then wholeN c L / 2 - ((sideN c L / 2 - 1 - i) + (sideN c L / 2 - 1 - i) / 15) - 1 else wholeN c L / 2 + ((i - sideN c L / 2) + (i - sideN c L / 2) / 15) + 1
theorem placeN_lt (c : Bool) (L i : Nat) (hi : i < sideN c L) : placeN c L i < wholeN c L := by
  cases c
  · unfold placeN wholeN sideN at *; simp at *; split <;> omega
  · unfold placeN wholeN sideN at *; simp at *; omega
theorem sideN_le (c : Bool) (L : Nat) (h : L ≤ 32) : 11 ≤ sideN c L ∧ sideN c L ≤ 142 := by unfold sideN; split <;> omega
theorem wholeN_le (c : Bool) (L : Nat) (h : L ≤ 32) : 11 ≤ wholeN c L ∧ wholeN c L ≤ 161 := by
  have := sideN_le c L h
  unfold wholeN; split <;> omega
def placesL (c : Bool) (L : Nat) : List Nat := (List.range (sideN c L)).map (placeN c L)
theorem placesL_len (c : Bool) (L : Nat) : (placesL c L).length = sideN c L := by simp [placesL]
theorem placesL_at (c : Bool) (L i : Nat) (h : i < sideN c L) : (placesL c L).getD i 0 = placeN c L i := by simp [placesL, List.getD, h]
theorem eq_places (c : Bool) (L : Nat) (cur : List Nat) (hl : cur.length = sideN c L) (h : ∀ q, q < sideN c L → cur.getD q 0 = placeN c L q) : cur = placesL c L := by
  apply List.ext_getElem
  · rw [hl, placesL_len]
  · intro i h1 h2
    have := h i (by rw [← hl]; exact h1)
    rw [List.getD, List.getElem?_eq_getElem h1] at this
    simpa [placesL] using this
theorem layers_any (c : Bool) (n : Nat) (w : World) (hn : n < 256) : Calls Try.prog 7 #[.bool c, .int .u8 n] w fun e w' => e = .returned (.int .i64 (layN c n : Nat)) ∧ w' = w := by
  cases c
  · go_enter Try.func7, Try.ntmps7
    go_wp2
    go_ret
    exact ⟨ret_int (by unfold layN; simp), rfl⟩
  · go_enter Try.func7, Try.ntmps7
    go_wp2
    go_ret
    exact ⟨ret_int (by unfold layN; simp), rfl⟩
theorem azSide_any (c : Bool) (L : Nat) (w : World) (hL : L ≤ 32) : Calls Try.prog 26 #[.bool c, .int .i64 L] w fun e w' => e = .returned (.int .i64 (sideN c L : Nat)) ∧ w' = w := by
  cases c
  · go_enter Try.func26, Try.ntmps26
    go_wp2
    go_ret
    exact ⟨ret_int (by unfold sideN; simp), rfl⟩
  · go_enter Try.func26, Try.ntmps26
    go_wp2
    go_ret
    exact ⟨ret_int (by unfold sideN; simp), rfl⟩
set_option maxRecDepth 100000 in
set_option maxHeartbeats 1000000 in
theorem places_any (c : Bool) (L : Nat) (w : World) (hL1 : 1 ≤ L) (hL : L ≤ 32) : Calls Try.prog 8 #[.bool c, .int .i64 L] w fun e w' =>
    ∃ g, e = .returned (.tuple #[.slice (some ⟨g, 0, none⟩) (sideN c L) (sideN c L), .int .i64 (wholeN c L : Nat)]) ∧ Blk w' g 3 (nvl (placesL c L)).toArray ∧ w.heap.size ≤ g ∧ Below w.heap.size w w' := by
  have hsl := sideN_le c L hL
  have hmk := mk_ints (sideN c L) w (by omega)
  have HS := Lib.hid (azSide_any c L w hL)
  have HX := Lib.hid (Blk.fresh w 3 (nvl (List.replicate (sideN c L) 0)).toArray)
  have HB0 := Lib.hid (bal (brf w) (.cells (nvl (List.replicate (sideN c L) 0)).toArray 3))
  have hpl := eq_places c L
  have hpn : ∀ q, placeN c L q = placeN c L q := fun _ => rfl
  obtain ⟨wz, hwz⟩ : ∃ x, x = w.alloc (.cells (nvl (List.replicate (sideN c L) 0)).toArray 3) := ⟨_, rfl⟩
  rw [← hwz] at hmk HX HB0
  clear hwz hpn
  have HPL := Lib.hid hpl; clear hpl
  cases c
  · have hpN : ∀ q, placeN false L q = if q < sideN false L / 2 then wholeN false L / 2 - ((sideN false L / 2 - 1 - q) + (sideN false L / 2 - 1 - q) / 15) - 1 else wholeN false L / 2 + ((q - sideN false L / 2) + (q - sideN false L / 2) / 15) + 1 := fun q => by unfold placeN; simp
    have hwN : wholeN false L = sideN false L + 1 + 2 * ((sideN false L / 2 - 1) / 15) := by unfold wholeN; simp
    have hsp : sideN false L % 2 = 0 := by unfold sideN; simp; omega
    have HPN := Lib.hid (And.intro hpN hwN); clear hpN hwN
    generalize sideN false L = S at *
    generalize wholeN false L = N at *
    obtain ⟨h, hSh⟩ : ∃ h, S = 2 * h := ⟨S / 2, by omega⟩
    have hS1 : S ≤ 2 * h := by omega
    have hS2 : 2 * h ≤ S := by omega
    have hN2 : N / 2 = h + (h - 1) / 15 := by rw [HPN.out.2]; omega
    have hNi : (S : Int) + 1 + 2 * (((h : Int) - 1) / 15) = (N : Int) := by rw [HPN.out.2]; omega
    have hNl : N ≤ 400 := by rw [HPN.out.2]; omega
    have hNN : N = 2 * (N / 2) + 1 := by rw [hN2, HPN.out.2]; omega
    have hsi : (S : Int) / 2 = (h : Int) := by omega
    have hni : (N : Int) / 2 = ((N / 2 : Nat) : Int) := by omega
    have hpn : ∀ q, placeN false L q = if q < h then N / 2 - ((h - 1 - q) + (h - 1 - q) / 15) - 1 else N / 2 + ((q - h) + (q - h) / 15) + 1 := fun q => by rw [HPN.out.1 q, show S / 2 = h by omega]
    have HPQ := Lib.hid hpn; clear hpn hSh hNN hsp
    generalize hm : N / 2 = m at *
    have HM2 := Lib.hid hN2
    have hm1 : h + (h - 1) / 15 ≤ m := by omega
    have hm2 : m ≤ h + (h - 1) / 15 := by omega
    clear hm hN2
    go_enter Try.func8, Try.ntmps8
    go_wp2_with fail
    refine HS.out.mono ?_
    rintro e w ⟨rfl, rfl⟩
    go_wp2_with fail
    clear hmk hNi
    go_loopw [10] (fun iv wr => ∃ (i : Nat) (cur : List Nat), i ≤ h ∧ iv = .int .i64 i ∧ Hid (Blk wr w.heap.size 3 (nvl cur).toArray ∧ cur.length = S ∧ ∀ q, h ≤ q + i → q < h + i → cur.getD q 0 = placeN false L q) ∧ Hid (Below w.heap.size w wr)) (fun iv _ => h - (intOf iv).toNat)
    case atStart => exact ⟨0, List.replicate S 0, Nat.zero_le _, rfl, Lib.hid ⟨HX.out, List.length_replicate, fun q h1 h2 => by omega⟩, HB0⟩
    case round =>
      clear HX HB0
      obtain ⟨i, cur, hi, rfl, HC, HB⟩ := hrel
      by_cases hlt : i < h
      · have hc1 : h - 1 - i < cur.length := by rw [HC.out.2.1]; omega
        have hc2 : h + i < (cur.set (h - 1 - i) (m - (i + i / 15) - 1)).length := by rw [List.length_set, HC.out.2.1]; omega
        have q1 : placeN false L (h - 1 - i) = m - (i + i / 15) - 1 := by rw [HPQ.out, if_pos (by omega), show h - 1 - (h - 1 - i) = i by omega]
        have q2 : placeN false L (h + i) = m + (i + i / 15) + 1 := by rw [HPQ.out, if_neg (by omega), show h + i - h = i by omega]
        have c1 : wr.cell? ⟨w.heap.size, h - 1 - i, none⟩ = some (.int .i64 ((cur.getD (h - 1 - i) 0 : Nat) : Int)) := by rw [HC.out.1.cell]; exact nvl_getD cur _ hc1
        have f1 := HC.out.1.frozen (h - 1 - i)
        have hb2 := HC.out.1.put (h - 1 - i) (.int .i64 ((m - (i + i / 15) - 1 : Nat) : Int))
        rw [nvl_set] at hb2
        have c2 : (wr.setCell ⟨w.heap.size, h - 1 - i, none⟩ (.int .i64 ((m - (i + i / 15) - 1 : Nat) : Int))).cell? ⟨w.heap.size, h + i, none⟩ = some (.int .i64 (((cur.set (h - 1 - i) (m - (i + i / 15) - 1)).getD (h + i) 0 : Nat) : Int)) := by rw [hb2.cell]; exact nvl_getD _ _ hc2
        have f2 := hb2.frozen (h + i)
        have hb3 := hb2.put (h + i) (.int .i64 ((m + (i + i / 15) + 1 : Nat) : Int))
        rw [nvl_set] at hb3
        have HC2 : Hid (Blk ((wr.setCell ⟨w.heap.size, h - 1 - i, none⟩ (.int .i64 ((m - (i + i / 15) - 1 : Nat) : Int))).setCell ⟨w.heap.size, h + i, none⟩ (.int .i64 ((m + (i + i / 15) + 1 : Nat) : Int))) w.heap.size 3 (nvl ((cur.set (h - 1 - i) (m - (i + i / 15) - 1)).set (h + i) (m + (i + i / 15) + 1))).toArray ∧ ((cur.set (h - 1 - i) (m - (i + i / 15) - 1)).set (h + i) (m + (i + i / 15) + 1)).length = S ∧ ∀ q, h ≤ q + (i + 1) → q < h + (i + 1) → ((cur.set (h - 1 - i) (m - (i + i / 15) - 1)).set (h + i) (m + (i + i / 15) + 1)).getD q 0 = placeN false L q) :=
          Lib.hid ⟨hb3, by rw [List.length_set, List.length_set]; exact HC.out.2.1, fun q h1 h2 => by
            by_cases hq2 : q = h + i
            · subst hq2; rw [List.getD, List.getElem?_set_self hc2, q2]; rfl
            · rw [List.getD, List.getElem?_set_ne (by omega)]
              by_cases hq1 : q = h - 1 - i
              · subst hq1; rw [List.getElem?_set_self hc1, q1]; rfl
              · rw [List.getElem?_set_ne (by omega)]; exact HC.out.2.2 q (by omega) (by omega)⟩
        have HB2 := Lib.hid ((HB.out.setCell (p := ⟨w.heap.size, h - 1 - i, none⟩) (Nat.le_refl _) (.int .i64 ((m - (i + i / 15) - 1 : Nat) : Int))).setCell (p := ⟨w.heap.size, h + i, none⟩) (Nat.le_refl _) (.int .i64 ((m + (i + i / 15) + 1 : Nat) : Int)))
        have v1 : (m : Int) - ((i : Int) + (i : Int) / 15) - 1 = ((m - (i + i / 15) - 1 : Nat) : Int) := by omega
        have v2 : (m : Int) + ((i : Int) + (i : Int) / 15) + 1 = ((m + (i + i / 15) + 1 : Nat) : Int) := by omega
        have hne : ¬ h - 1 - i = h + i := by omega
        have hne2 : ¬ h + i = h - 1 - i := by omega
        have hti : ((h : Int) - (i : Int) - 1).toNat = h - 1 - i := by omega
        clear HC HB hb2 hb3 q1 q2 hc1 hc2
        generalize ((cur.set (h - 1 - i) (m - (i + i / 15) - 1)).set (h + i) (m + (i + i / 15) + 1)) = cur2 at *
        generalize (cur.set (h - 1 - i) (m - (i + i / 15) - 1)).getD (h + i) 0 = z2 at *
        generalize cur.getD (h - 1 - i) 0 = z at *
        generalize hz1 : m - (i + i / 15) - 1 = p1 at *
        generalize hz2 : m + (i + i / 15) + 1 = p2 at *
        clear hz1 hz2
        go_wp2
        go_roundw
        case rel => exact ⟨i + 1, cur2, by omega, by go_num, HC2, HB2⟩
        case measure => simp [intOf]; omega
      · obtain rfl : i = h := by omega
        have hcp := HPL.out cur HC.out.2.1 (fun q hq => HC.out.2.2 q (by omega) (by omega))
        have HCP := Lib.hid hcp; clear hcp
        go_wp2
        go_ret2
        exact ⟨w.heap.size, rfl, by rw [← HCP.out]; exact HC.out.1, Nat.le_refl _, HB.out⟩
  · have hpN : ∀ q, placeN true L q = q := fun q => by unfold placeN; simp
    have hwN : wholeN true L = sideN true L := by unfold wholeN; simp
    rw [hwN]
    have HPN := Lib.hid hpN; clear hpN hwN
    generalize sideN true L = S at *
    go_enter Try.func8, Try.ntmps8
    go_wp2_with fail
    refine HS.out.mono ?_
    rintro e w ⟨rfl, rfl⟩
    go_wp2_with fail
    clear hmk
    go_loopw [8] (fun iv wr => ∃ (i : Nat) (cur : List Nat), i ≤ S ∧ iv = .int .i64 i ∧ Hid (Blk wr w.heap.size 3 (nvl cur).toArray ∧ cur.length = S ∧ ∀ q, q < i → cur.getD q 0 = q) ∧ Hid (Below w.heap.size w wr)) (fun iv _ => S - (intOf iv).toNat)
    case atStart => exact ⟨0, List.replicate S 0, Nat.zero_le _, rfl, Lib.hid ⟨HX.out, List.length_replicate, fun q hq => absurd hq (Nat.not_lt_zero _)⟩, HB0⟩
    case round =>
      clear HX HB0
      obtain ⟨i, cur, hi, rfl, HC, HB⟩ := hrel
      by_cases hlt : i < S
      · have hci : i < cur.length := by rw [HC.out.2.1]; exact hlt
        have c1 : wr.cell? ⟨w.heap.size, i, none⟩ = some (.int .i64 ((cur.getD i 0 : Nat) : Int)) := by rw [HC.out.1.cell]; exact nvl_getD cur i hci
        have f1 := HC.out.1.frozen i
        have HC2 : Hid (Blk (wr.setCell ⟨w.heap.size, i, none⟩ (.int .i64 i)) w.heap.size 3 (nvl (cur.set i i)).toArray ∧ (cur.set i i).length = S ∧ ∀ q, q < i + 1 → (cur.set i i).getD q 0 = q) := Lib.hid ⟨by rw [← nvl_set]; exact HC.out.1.put _ _, by rw [List.length_set]; exact HC.out.2.1, fun q hq => by
          by_cases hqi : q = i
          · subst hqi; rw [List.getD, List.getElem?_set_self hci]; rfl
          · rw [List.getD, List.getElem?_set_ne (by omega)]; exact HC.out.2.2 q (by omega)⟩
        have HB2 := Lib.hid (HB.out.setCell (p := ⟨w.heap.size, i, none⟩) (Nat.le_refl _) (.int .i64 (i : Int)))
        clear HC HB hci
        generalize cur.getD i 0 = z at *
        go_wp2
        go_roundw
        case rel => exact ⟨i + 1, _, by omega, by go_num, HC2, HB2⟩
        case measure => simp [intOf]; omega
      · obtain rfl : i = S := by omega
        have hcp := HPL.out cur HC.out.2.1 (fun q hq => by rw [HPN.out]; exact HC.out.2.2 q hq)
        have HCP := Lib.hid hcp; clear hcp
        go_wp2
        go_ret2
        exact ⟨w.heap.size, rfl, by rw [← HCP.out]; exact HC.out.1, Nat.le_refl _, HB.out⟩
end Go.Proofs.Ytgihmnecllanfaa
