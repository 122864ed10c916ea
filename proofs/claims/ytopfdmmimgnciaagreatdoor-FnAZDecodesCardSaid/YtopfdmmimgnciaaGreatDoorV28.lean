/-
  WALKS: laws.azLayers, spec.AZSide, AZPlaces. PLAIN: the bits of the layers, in the order of the words. WALKS: gozxing.BitMatrix: Set, NewBitMatrix. WALKS: a BitMatrix of rows, and rows of a BitMatrix. PLAIN: bits set at their places, in any order. WALKS: the small parts of extractBits.
-/
import Derived.Test.YtopfdmmimgnciaaGreatDoorV04
import Derived.Test.YtopfdmmimgnciaaGreatDoorV02
import Derived.Test.YtopfdmmimgnciaaGreatDoorV14
namespace Go.Proofs.YtopfdmmimgnciaaGreatDoor
open Go.RowKit

def layN (c : Bool) (n : Nat) : Nat := if c then 1 + n % 4 else 1 + n % 32
theorem layN_le (c : Bool) (n : Nat) : 1 ≤ layN c n ∧ layN c n ≤ 32 := by unfold layN; split <;> omega
def sideN (c : Bool) (L : Nat) : Nat := if c then 11 + 4 * L else 14 + 4 * L
def wholeN (c : Bool) (L : Nat) : Nat := if c then sideN c L else sideN c L + 1 + 2 * ((sideN c L / 2 - 1) / 15)
def placeN (c : Bool) (L i : Nat) : Nat :=
  if c then i else if i < sideN c L / 2 then wholeN c L / 2 - ((sideN c L / 2 - 1 - i) + (sideN c L / 2 - 1 - i) / 15) - 1 else wholeN c L / 2 + ((i - sideN c L / 2) + (i - sideN c L / 2) / 15) + 1
theorem placeN_lt (c : Bool) (L i : Nat) (hi : i < sideN c L) : placeN c L i < wholeN c L := by
  cases c
  · unfold placeN wholeN sideN at *; simp at *; split <;> omega
  · unfold placeN wholeN sideN at *; simp at *; omega
theorem sideN_le (c : Bool) (L : Nat) (h : L ≤ 32) : 11 ≤ sideN c L ∧ sideN c L ≤ 142 := by unfold sideN; split <;> omega
theorem wholeN_le (c : Bool) (L : Nat) (h : L ≤ 32) : 11 ≤ wholeN c L ∧ wholeN c L ≤ 161 := by
  have := sideN_le c L h
  unfold wholeN; split <;> omega
def placesL (c : Bool) (L : Nat) : List Nat := (List.range (sideN c L)).map (placeN c L)
theorem placesL_len (c : Bool) (L : Nat) : (placesL c L).length = sideN c L := by simp [placesL]
theorem placesL_at (c : Bool) (L i : Nat) (h : i < sideN c L) : (placesL c L).getD i 0 = placeN c L i := by simp [placesL, List.getD, h]
theorem eq_places (c : Bool) (L : Nat) (cur : List Nat) (hl : cur.length = sideN c L) (h : ∀ q, q < sideN c L → cur.getD q 0 = placeN c L q) : cur = placesL c L := by
  apply List.ext_getElem
  · rw [hl, placesL_len]
  · intro i h1 h2
    have := h i (by rw [← hl]; exact h1)
    rw [List.getD, List.getElem?_eq_getElem h1] at this
    simpa [placesL] using this
theorem layers_any (c : Bool) (n : Nat) (w : World) (hn : n < 256) : Calls Tryz.prog 5 #[.bool c, .int .u8 n] w fun e w' => e = .returned (.int .i64 (layN c n : Nat)) ∧ w' = w := by
  cases c
  · go_enter Tryz.func5, Tryz.ntmps5
    go_wp2
    go_ret
    exact ⟨ret_int (by unfold layN; simp), rfl⟩
  · go_enter Tryz.func5, Tryz.ntmps5
    go_wp2
    go_ret
    exact ⟨ret_int (by unfold layN; simp), rfl⟩
theorem azSide_any (c : Bool) (L : Nat) (w : World) (hL : L ≤ 32) : Calls Tryz.prog 56 #[.bool c, .int .i64 L] w fun e w' => e = .returned (.int .i64 (sideN c L : Nat)) ∧ w' = w := by
  cases c
  · go_enter Tryz.func56, Tryz.ntmps56
    go_wp2
    go_ret
    exact ⟨ret_int (by unfold sideN; simp), rfl⟩
  · go_enter Tryz.func56, Tryz.ntmps56
    go_wp2
    go_ret
    exact ⟨ret_int (by unfold sideN; simp), rfl⟩
set_option maxRecDepth 100000 in
set_option maxHeartbeats 1000000 in
theorem places_any (c : Bool) (L : Nat) (w : World) (_hL1 : 1 ≤ L) (hL : L ≤ 32) : Calls Tryz.prog 25 #[.bool c, .int .i64 L] w fun e w' =>
    ∃ g, e = .returned (.tuple #[.slice (some ⟨g, 0, none⟩) (sideN c L) (sideN c L), .int .i64 (wholeN c L : Nat)]) ∧ Blk w' g 3 (nvl (placesL c L)).toArray ∧ w.heap.size ≤ g ∧ Below w.heap.size w w' := by
  have hsl := sideN_le c L hL
  have hmk := mkl_ints (sideN c L) w (by omega)
  have HS := Lib.hid (azSide_any c L w hL)
  have HX := Lib.hid (Blk.fresh w 3 (nvl (List.replicate (sideN c L) 0)).toArray)
  have HB0 := Lib.hid (bal (brf w) (.cells (nvl (List.replicate (sideN c L) 0)).toArray 3))
  have hpl := eq_places c L
  have hpn : ∀ q, placeN c L q = placeN c L q := fun _ => rfl
  obtain ⟨wz, hwz⟩ : ∃ x, x = w.alloc (.cells (nvl (List.replicate (sideN c L) 0)).toArray 3) := ⟨_, rfl⟩
  rw [← hwz] at hmk HX HB0
  clear hwz hpn
  have HPL := Lib.hid hpl; clear hpl
  cases c
  · have hpN : ∀ q, placeN false L q = if q < sideN false L / 2 then wholeN false L / 2 - ((sideN false L / 2 - 1 - q) + (sideN false L / 2 - 1 - q) / 15) - 1 else wholeN false L / 2 + ((q - sideN false L / 2) + (q - sideN false L / 2) / 15) + 1 := fun q => by unfold placeN; simp
    have hwN : wholeN false L = sideN false L + 1 + 2 * ((sideN false L / 2 - 1) / 15) := by unfold wholeN; simp
    have hsp : sideN false L % 2 = 0 := by unfold sideN; simp; omega
    have HPN := Lib.hid (And.intro hpN hwN); clear hpN hwN
    generalize sideN false L = S at *
    generalize wholeN false L = N at *
    obtain ⟨h, hSh⟩ : ∃ h, S = 2 * h := ⟨S / 2, by omega⟩
    have hS1 : S ≤ 2 * h := by omega
    have hS2 : 2 * h ≤ S := by omega
    have hN2 : N / 2 = h + (h - 1) / 15 := by rw [HPN.out.2]; omega
    have hNi : (S : Int) + 1 + 2 * (((h : Int) - 1) / 15) = (N : Int) := by rw [HPN.out.2]; omega
    have hNl : N ≤ 400 := by rw [HPN.out.2]; omega
    have hNN : N = 2 * (N / 2) + 1 := by rw [hN2, HPN.out.2]; omega
    have hsi : (S : Int) / 2 = (h : Int) := by omega
    have hni : (N : Int) / 2 = ((N / 2 : Nat) : Int) := by omega
    have hpn : ∀ q, placeN false L q = if q < h then N / 2 - ((h - 1 - q) + (h - 1 - q) / 15) - 1 else N / 2 + ((q - h) + (q - h) / 15) + 1 := fun q => by rw [HPN.out.1 q, show S / 2 = h by omega]
    have HPQ := Lib.hid hpn; clear hpn hSh hNN hsp
    generalize hm : N / 2 = m at *
    have HM2 := Lib.hid hN2
    have hm1 : h + (h - 1) / 15 ≤ m := by omega
    have hm2 : m ≤ h + (h - 1) / 15 := by omega
    clear hm hN2
    go_enter Tryz.func25, Tryz.ntmps25
    go_wp2_with fail
    refine HS.out.mono ?_
    rintro e w ⟨rfl, rfl⟩
    go_wp2_with fail
    clear hmk hNi
    go_loopw [10] (fun iv wr => ∃ (i : Nat) (cur : List Nat), i ≤ h ∧ iv = .int .i64 i ∧ Hid (Blk wr w.heap.size 3 (nvl cur).toArray ∧ cur.length = S ∧ ∀ q, h ≤ q + i → q < h + i → cur.getD q 0 = placeN false L q) ∧ Hid (Below w.heap.size w wr)) (fun iv _ => h - (intOf iv).toNat)
    case atStart => exact ⟨0, List.replicate S 0, Nat.zero_le _, rfl, Lib.hid ⟨HX.out, List.length_replicate, fun q h1 h2 => by omega⟩, HB0⟩
    case round =>
      clear HX HB0
      obtain ⟨i, cur, hi, rfl, HC, HB⟩ := hrel
      by_cases hlt : i < h
      · have hc1 : h - 1 - i < cur.length := by rw [HC.out.2.1]; omega
        have hc2 : h + i < (cur.set (h - 1 - i) (m - (i + i / 15) - 1)).length := by rw [List.length_set, HC.out.2.1]; omega
        have q1 : placeN false L (h - 1 - i) = m - (i + i / 15) - 1 := by rw [HPQ.out, if_pos (by omega), show h - 1 - (h - 1 - i) = i by omega]
        have q2 : placeN false L (h + i) = m + (i + i / 15) + 1 := by rw [HPQ.out, if_neg (by omega), show h + i - h = i by omega]
        have c1 : wr.cell? ⟨w.heap.size, h - 1 - i, none⟩ = some (.int .i64 ((cur.getD (h - 1 - i) 0 : Nat) : Int)) := by rw [HC.out.1.cell]; exact nvl_getD cur _ hc1
        have f1 := HC.out.1.frozen (h - 1 - i)
        have hb2 := HC.out.1.put (h - 1 - i) (.int .i64 ((m - (i + i / 15) - 1 : Nat) : Int))
        rw [nvl_set] at hb2
        have c2 : (wr.setCell ⟨w.heap.size, h - 1 - i, none⟩ (.int .i64 ((m - (i + i / 15) - 1 : Nat) : Int))).cell? ⟨w.heap.size, h + i, none⟩ = some (.int .i64 (((cur.set (h - 1 - i) (m - (i + i / 15) - 1)).getD (h + i) 0 : Nat) : Int)) := by rw [hb2.cell]; exact nvl_getD _ _ hc2
        have f2 := hb2.frozen (h + i)
        have hb3 := hb2.put (h + i) (.int .i64 ((m + (i + i / 15) + 1 : Nat) : Int))
        rw [nvl_set] at hb3
        have HC2 : Hid (Blk ((wr.setCell ⟨w.heap.size, h - 1 - i, none⟩ (.int .i64 ((m - (i + i / 15) - 1 : Nat) : Int))).setCell ⟨w.heap.size, h + i, none⟩ (.int .i64 ((m + (i + i / 15) + 1 : Nat) : Int))) w.heap.size 3 (nvl ((cur.set (h - 1 - i) (m - (i + i / 15) - 1)).set (h + i) (m + (i + i / 15) + 1))).toArray ∧ ((cur.set (h - 1 - i) (m - (i + i / 15) - 1)).set (h + i) (m + (i + i / 15) + 1)).length = S ∧ ∀ q, h ≤ q + (i + 1) → q < h + (i + 1) → ((cur.set (h - 1 - i) (m - (i + i / 15) - 1)).set (h + i) (m + (i + i / 15) + 1)).getD q 0 = placeN false L q) :=
          Lib.hid ⟨hb3, by rw [List.length_set, List.length_set]; exact HC.out.2.1, fun q h1 h2 => by
            by_cases hq2 : q = h + i
            · subst hq2; rw [List.getD, List.getElem?_set_self hc2, q2]; rfl
            · rw [List.getD, List.getElem?_set_ne (by omega)]
              by_cases hq1 : q = h - 1 - i
              · subst hq1; rw [List.getElem?_set_self hc1, q1]; rfl
              · rw [List.getElem?_set_ne (by omega)]; exact HC.out.2.2 q (by omega) (by omega)⟩
        have HB2 := Lib.hid ((HB.out.setCell (p := ⟨w.heap.size, h - 1 - i, none⟩) (Nat.le_refl _) (.int .i64 ((m - (i + i / 15) - 1 : Nat) : Int))).setCell (p := ⟨w.heap.size, h + i, none⟩) (Nat.le_refl _) (.int .i64 ((m + (i + i / 15) + 1 : Nat) : Int)))
        have v1 : (m : Int) - ((i : Int) + (i : Int) / 15) - 1 = ((m - (i + i / 15) - 1 : Nat) : Int) := by omega
        have v2 : (m : Int) + ((i : Int) + (i : Int) / 15) + 1 = ((m + (i + i / 15) + 1 : Nat) : Int) := by omega
        have hne : ¬ h - 1 - i = h + i := by omega
        have hne2 : ¬ h + i = h - 1 - i := by omega
        have hti : ((h : Int) - (i : Int) - 1).toNat = h - 1 - i := by omega
        clear HC HB hb2 hb3 q1 q2 hc1 hc2
        generalize ((cur.set (h - 1 - i) (m - (i + i / 15) - 1)).set (h + i) (m + (i + i / 15) + 1)) = cur2 at *
        generalize (cur.set (h - 1 - i) (m - (i + i / 15) - 1)).getD (h + i) 0 = z2 at *
        generalize cur.getD (h - 1 - i) 0 = z at *
        generalize hz1 : m - (i + i / 15) - 1 = p1 at *
        generalize hz2 : m + (i + i / 15) + 1 = p2 at *
        clear hz1 hz2
        go_wp2
        go_roundw
        case rel => exact ⟨i + 1, cur2, by omega, by go_num, HC2, HB2⟩
        case measure => simp [intOf]; omega
      · obtain rfl : i = h := by omega
        have hcp := HPL.out cur HC.out.2.1 (fun q hq => HC.out.2.2 q (by omega) (by omega))
        have HCP := Lib.hid hcp; clear hcp
        go_wp2
        go_ret2
        exact ⟨w.heap.size, rfl, by rw [← HCP.out]; exact HC.out.1, Nat.le_refl _, HB.out⟩
  · have hpN : ∀ q, placeN true L q = q := fun q => by unfold placeN; simp
    have hwN : wholeN true L = sideN true L := by unfold wholeN; simp
    rw [hwN]
    have HPN := Lib.hid hpN; clear hpN hwN
    generalize sideN true L = S at *
    go_enter Tryz.func25, Tryz.ntmps25
    go_wp2_with fail
    refine HS.out.mono ?_
    rintro e w ⟨rfl, rfl⟩
    go_wp2_with fail
    clear hmk
    go_loopw [8] (fun iv wr => ∃ (i : Nat) (cur : List Nat), i ≤ S ∧ iv = .int .i64 i ∧ Hid (Blk wr w.heap.size 3 (nvl cur).toArray ∧ cur.length = S ∧ ∀ q, q < i → cur.getD q 0 = q) ∧ Hid (Below w.heap.size w wr)) (fun iv _ => S - (intOf iv).toNat)
    case atStart => exact ⟨0, List.replicate S 0, Nat.zero_le _, rfl, Lib.hid ⟨HX.out, List.length_replicate, fun q hq => absurd hq (Nat.not_lt_zero _)⟩, HB0⟩
    case round =>
      clear HX HB0
      obtain ⟨i, cur, hi, rfl, HC, HB⟩ := hrel
      by_cases hlt : i < S
      · have hci : i < cur.length := by rw [HC.out.2.1]; exact hlt
        have c1 : wr.cell? ⟨w.heap.size, i, none⟩ = some (.int .i64 ((cur.getD i 0 : Nat) : Int)) := by rw [HC.out.1.cell]; exact nvl_getD cur i hci
        have f1 := HC.out.1.frozen i
        have HC2 : Hid (Blk (wr.setCell ⟨w.heap.size, i, none⟩ (.int .i64 i)) w.heap.size 3 (nvl (cur.set i i)).toArray ∧ (cur.set i i).length = S ∧ ∀ q, q < i + 1 → (cur.set i i).getD q 0 = q) := Lib.hid ⟨by rw [← nvl_set]; exact HC.out.1.put _ _, by rw [List.length_set]; exact HC.out.2.1, fun q hq => by
          by_cases hqi : q = i
          · subst hqi; rw [List.getD, List.getElem?_set_self hci]; rfl
          · rw [List.getD, List.getElem?_set_ne (by omega)]; exact HC.out.2.2 q (by omega)⟩
        have HB2 := Lib.hid (HB.out.setCell (p := ⟨w.heap.size, i, none⟩) (Nat.le_refl _) (.int .i64 (i : Int)))
        clear HC HB hci
        generalize cur.getD i 0 = z at *
        go_wp2
        go_roundw
        case rel => exact ⟨i + 1, _, by omega, by go_num, HC2, HB2⟩
        case measure => simp [intOf]; omega
      · obtain rfl : i = S := by omega
        have hcp := HPL.out cur HC.out.2.1 (fun q hq => by rw [HPN.out]; exact HC.out.2.2 q hq)
        have HCP := Lib.hid hcp; clear hcp
        go_wp2
        go_ret2
        exact ⟨w.heap.size, rfl, by rw [← HCP.out]; exact HC.out.1, Nat.le_refl _, HB.out⟩
end Go.Proofs.YtopfdmmimgnciaaGreatDoor
namespace Go.Proofs.YtopfdmmimgnciaaGreatDoor
open Go.RowKit

def longN (c : Bool) (L i : Nat) : Nat := 4 * (L - i) + (if c then 9 else 12)
def nearN (c : Bool) (L i j : Nat) : Nat := placeN c L (2 * i + j % 2)
def farN (c : Bool) (L i j : Nat) : Nat := placeN c L (sideN c L - 1 - 2 * i - j % 2)
def alongN (c : Bool) (L i j : Nat) : Nat := placeN c L (2 * i + j / 2)
def backN (c : Bool) (L i j : Nat) : Nat := placeN c L (sideN c L - 1 - 2 * i - j / 2)
/-- Bit j of side k of layer i. -/
def bitZ (c : Bool) (L : Nat) (f : Nat → Nat → Bool) (i k j : Nat) : Bool :=
  match k with
  | 0 => f (nearN c L i j) (alongN c L i j)
  | 1 => f (alongN c L i j) (farN c L i j)
  | 2 => f (farN c L i j) (backN c L i j)
  | _ => f (backN c L i j) (nearN c L i j)
def sideL (c : Bool) (L : Nat) (f : Nat → Nat → Bool) (i k : Nat) : List Bool := (List.range (2 * longN c L i)).map (bitZ c L f i k)
def layU (c : Bool) (L : Nat) (f : Nat → Nat → Bool) (i k : Nat) : List Bool := (List.range k).flatMap (sideL c L f i)
def takU (c : Bool) (L : Nat) (f : Nat → Nat → Bool) (n : Nat) : List Bool := (List.range n).flatMap fun i => layU c L f i 4
section
variable (c : Bool) (L : Nat) (f : Nat → Nat → Bool)
theorem longN_le (i : Nat) (hL : L ≤ 32) : longN c L i ≤ 140 := by unfold longN; split <;> omega
theorem long_side (i : Nat) (hi : i < L) : longN c L i + 2 * i + 2 * i + 2 = sideN c L := by
  cases c
  · show 4 * (L - i) + 12 + 2 * i + 2 * i + 2 = 14 + 4 * L
    omega
  · show 4 * (L - i) + 9 + 2 * i + 2 * i + 2 = 11 + 4 * L
    omega
theorem sideL_len (i k : Nat) : (sideL c L f i k).length = 2 * longN c L i := by simp [sideL]
theorem layU_succ (i k : Nat) : layU c L f i (k + 1) = layU c L f i k ++ sideL c L f i k := by simp [layU, List.range_succ]
theorem layU_len (i k : Nat) : (layU c L f i k).length = k * (2 * longN c L i) := by
  induction k with
  | zero => simp [layU]
  | succ k ih => rw [layU_succ, List.length_append, ih, sideL_len, Nat.add_mul, Nat.one_mul]
theorem takU_succ (n : Nat) : takU c L f (n + 1) = takU c L f n ++ layU c L f n 4 := by simp [takU, List.range_succ]
theorem takU_len_le (n : Nat) (hL : L ≤ 32) : (takU c L f n).length ≤ 1120 * n := by
  induction n with
  | zero => simp [takU]
  | succ n ih =>
    have h := longN_le c L n hL
    rw [takU_succ, List.length_append, layU_len]; omega
theorem takU_len_f (g : Nat → Nat → Bool) (n : Nat) : (takU c L f n).length = (takU c L g n).length := by
  induction n with
  | zero => simp [takU]
  | succ n ih => rw [takU_succ, takU_succ, List.length_append, List.length_append, layU_len, layU_len, ih]
/-- How many bits the first n layers have. -/
def offN (n : Nat) : Nat := (takU c L (fun _ _ => false) n).length
theorem takU_len (n : Nat) : (takU c L f n).length = offN c L n := takU_len_f c L f _ n
theorem offN_succ (n : Nat) : offN c L (n + 1) = offN c L n + 8 * longN c L n := by
  unfold offN; rw [takU_succ, List.length_append, layU_len]; omega
theorem offN_le (n : Nat) (hL : L ≤ 32) : offN c L n ≤ 1120 * n := takU_len_le c L _ n hL
theorem offN_mono (n m : Nat) (h : n ≤ m) : offN c L n ≤ offN c L m := by
  induction m with
  | zero => rw [show n = 0 by omega]; exact Nat.le_refl _
  | succ m ih =>
    rcases Nat.lt_or_ge n (m + 1) with h1 | h1
    · have := ih (by omega); rw [offN_succ]; omega
    · rw [show n = m + 1 by omega]; exact Nat.le_refl _
theorem offN_all : offN c L L = (if c then 88 + 16 * L else 112 + 16 * L) * L := by
  have key : ∀ n, n ≤ L → offN c L n + (if c then 88 + 16 * (L - n) else 112 + 16 * (L - n)) * (L - n) = (if c then 88 + 16 * L else 112 + 16 * L) * L := by
    intro n
    induction n with
    | zero => intro _; simp [offN, takU]
    | succ n ih =>
      intro hn
      rw [← ih (by omega), offN_succ]
      obtain ⟨m, hm⟩ : ∃ m, L - n = m + 1 := ⟨L - n - 1, by omega⟩
      have hm2 : L - (n + 1) = m := by omega
      have hl : longN c L n = 4 * (m + 1) + (if c then 9 else 12) := by unfold longN; rw [hm]
      rw [hm, hm2, hl]
      cases c
      · simp only [Bool.false_eq_true, if_false]
        have e1 : (112 + 16 * (m + 1)) * (m + 1) = 112 * m + 112 + 16 * (m * m) + 32 * m + 16 := by
          rw [Nat.add_mul, Nat.mul_assoc, Nat.add_mul m 1 (m + 1), Nat.mul_add m m 1]; omega
        have e2 : (112 + 16 * m) * m = 112 * m + 16 * (m * m) := by rw [Nat.add_mul, Nat.mul_assoc]
        rw [e1, e2]; omega
      · simp only [if_true]
        have e1 : (88 + 16 * (m + 1)) * (m + 1) = 88 * m + 88 + 16 * (m * m) + 32 * m + 16 := by
          rw [Nat.add_mul, Nat.mul_assoc, Nat.add_mul m 1 (m + 1), Nat.mul_add m m 1]; omega
        have e2 : (88 + 16 * m) * m = 88 * m + 16 * (m * m) := by rw [Nat.add_mul, Nat.mul_assoc]
        rw [e1, e2]; omega
  have := key L (Nat.le_refl _)
  simpa using this
/-- The bit at its place. -/
theorem takU_at (i k j n : Nat) (hi : i < n) (hk : k < 4) (hj : j < 2 * longN c L i) : (takU c L f n)[offN c L i + k * (2 * longN c L i) + j]? = some (bitZ c L f i k j) := by
  induction n with
  | zero => omega
  | succ n ih =>
    rw [takU_succ]
    rcases Nat.lt_or_ge i n with h | h
    · have h1 := ih h
      have h2 := (List.getElem?_eq_some_iff.1 h1).1
      rw [List.getElem?_append_left h2]; exact h1
    · obtain rfl : i = n := by omega
      rw [List.getElem?_append_right (by rw [takU_len]; omega), takU_len, show offN c L i + k * (2 * longN c L i) + j - offN c L i = k * (2 * longN c L i) + j by omega]
      have key : ∀ m, k < m → (layU c L f i m)[k * (2 * longN c L i) + j]? = some (bitZ c L f i k j) := by
        intro m
        induction m with
        | zero => intro h; omega
        | succ m ihm =>
          intro hm
          rw [layU_succ]
          rcases Nat.lt_or_ge k m with h | h
          · have h1 := ihm h
            have h2 := (List.getElem?_eq_some_iff.1 h1).1
            rw [List.getElem?_append_left h2]; exact h1
          · obtain rfl : k = m := by omega
            rw [List.getElem?_append_right (by rw [layU_len]; omega), layU_len, Nat.add_sub_cancel_left]
            simp [sideL, hj]
      exact key 4 hk
/-- Each place is a bit's. -/
theorem place_of (n p : Nat) (hp : p < offN c L n) : ∃ i k j, i < n ∧ k < 4 ∧ j < 2 * longN c L i ∧ p = offN c L i + k * (2 * longN c L i) + j := by
  induction n with
  | zero => exact absurd hp (Nat.not_lt_zero _)
  | succ n ih =>
    rcases Nat.lt_or_ge p (offN c L n) with h | h
    · obtain ⟨i, k, j, h1, h2⟩ := ih h
      exact ⟨i, k, j, by omega, h2⟩
    · rw [offN_succ] at hp
      have hl0 : 0 < 2 * longN c L n := by unfold longN; split <;> omega
      generalize hl : 2 * longN c L n = l at *
      refine ⟨n, (p - offN c L n) / l, (p - offN c L n) % l, by omega, ?_, ?_, ?_⟩
      · rw [Nat.div_lt_iff_lt_mul hl0]; omega
      · rw [hl]; exact Nat.mod_lt _ hl0
      · rw [hl]
        have := Nat.div_add_mod (p - offN c L n) l
        rw [Nat.mul_comm] at this
        omega
end
end Go.Proofs.YtopfdmmimgnciaaGreatDoor
namespace Go.Proofs.YtopfdmmimgnciaaGreatDoor
open Go.RowKit

theorem matSet_any (p g W H x y : Nat) (f : Nat → Nat → Bool) (w : World) (h : MatAt w p g W H f) (hx : x < W) (hy : y < H) (hW : W ≤ 4096) (hH : H ≤ 4096) :
    Calls Tryz.prog 62 #[.pointer (some ⟨p, 0, none⟩), .int .i64 x, .int .i64 y] w fun e w' => ∃ i u, e = .returned (.tuple #[]) ∧ w' = w.setCell ⟨g, i, none⟩ u ∧
      MatAt w' p g W H (fun a b => f a b || (decide (a = x) && decide (b = y))) := by
  obtain ⟨ws, h, hf⟩ := h
  have hr : x / 32 < (W + 31) / 32 := by omega
  have hpl := place_lt hr hy
  rw [← h.len] at hpl
  have c0 : w.cell? ⟨p, 2, none⟩ = some (.int .i64 ((W + 31) / 32 : Nat)) := by rw [h.head.cell]; rfl
  have c1 : w.cell? ⟨p, 3, none⟩ = some (.slice (some ⟨g, 0, none⟩) ws.length ws.length) := by rw [h.head.cell]; rfl
  have c4 : w.cell? ⟨g, y * ((W + 31) / 32) + x / 32, none⟩ = some (.int .u32 ((ws[y * ((W + 31) / 32) + x / 32] : Nat) : Int)) := by rw [h.rows.cell, wv_at _ _ hpl]
  have f4 := h.rows.frozen (y * ((W + 31) / 32) + x / 32)
  have hv := h.lt _ (List.getElem_mem hpl)
  have hlen : ws.length ≤ 129 * 4096 := by rw [h.len]; exact Nat.mul_le_mul (by omega) hH
  have hg0 : ws.getD (y * ((W + 31) / 32) + x / 32) 0 = ws[y * ((W + 31) / 32) + x / 32] := by rw [List.getD, List.getElem?_eq_getElem hpl]; rfl
  have hM : MatAt (w.setCell ⟨g, y * ((W + 31) / 32) + x / 32, none⟩ (.int .u32 ((ws[y * ((W + 31) / 32) + x / 32] ||| 2 ^ (x % 32) : Nat) : Int))) p g W H (fun a b => f a b || (decide (a = x) && decide (b = y))) := by
    refine ⟨setM ws ((W + 31) / 32) x y, ⟨by rw [setM_len]; exact h.head.far h.apart _, ?_, setM_lt h.lt, by rw [setM_len]; exact h.len, h.apart⟩, fun a b ha hb => ?_⟩
    · unfold setM
      rw [← wv_set, hg0]
      exact h.rows.put _ _
    · rw [setM_bit ws _ x y a b H h.len hr hy (by omega), hf a b ha hb]
  have HM := Lib.hid hM
  clear hM hg0 h hf
  generalize ws[y * ((W + 31) / 32) + x / 32] = v at *
  generalize ws.length = n at *
  have hrs : (W + 31) / 32 ≤ 129 := by omega
  generalize (W + 31) / 32 = rs at *
  have e1 : (y : Int) * (rs : Int) = ((y * rs : Nat) : Int) := by simp
  generalize y * rs = m at *
  have e2 : bits .or .u32 (v : Int) ((2 : Int) ^ (x % 32) % 4294967296) = ((v ||| 2 ^ (x % 32) : Nat) : Int) := by
    rw [pow32 _ (Nat.mod_lt _ (by decide))]
    exact u32_or _ _ hv (Nat.pow_lt_pow_right (n := 32) (by decide) (Nat.mod_lt _ (by decide)))
  generalize (v ||| 2 ^ (x % 32)) = z at *
  go_enter Tryz.func62, Tryz.ntmps62
  go_wp2
  refine bodyPost_end (results_none rfl _ _ _) rfl ?_
  exact ⟨_, _, rfl, rfl, HM.out⟩

theorem bitM_rep (n rs x y : Nat) : bitM (List.replicate n 0) rs x y = false := by
  unfold bitM
  rw [List.getD]
  rcases Nat.lt_or_ge (y * rs + x / 32) n with h | h
  · rw [List.getElem?_replicate_of_lt h]; simp
  · rw [List.getElem?_eq_none (by simpa using h)]; simp
set_option maxRecDepth 100000 in
theorem newMat_any (W H : Nat) (w : World) (hW1 : 1 ≤ W) (hH1 : 1 ≤ H) (hW : W ≤ 4096) (hH : H ≤ 4096) :
    Calls Tryz.prog 61 #[.int .i64 W, .int .i64 H] w fun e w' => ∃ p g, e = .returned (.tuple #[.pointer (some ⟨p, 0, none⟩), .nilIface]) ∧ MatAt w' p g W H (fun _ _ => false) ∧ w.heap.size ≤ p ∧ w.heap.size ≤ g ∧ Below w.heap.size w w' := by
  have hrs : (W + 31) / 32 ≤ 129 := by omega
  have hdiv : ((W : Int) + 31) / 32 = (((W + 31) / 32 : Nat) : Int) := by omega
  have hmul : (((W + 31) / 32 : Nat) : Int) * (H : Int) = (((W + 31) / 32 * H : Nat) : Int) := by simp
  have hn : (W + 31) / 32 * H ≤ 129 * 4096 := Nat.mul_le_mul hrs hH
  have hmk := run_mk (P := Tryz.prog) 154 157 (.int .u32 0) 4 Tryz.underlying154 (by kernel_rfl) rfl ((W + 31) / 32 * H) (by omega) (by omega) w
  have hl : ((List.replicate ((W + 31) / 32 * H) 0 : List Nat)).length = (W + 31) / 32 * H := List.length_replicate
  have hM : ∀ a, Blk a w.heap.size 157 (wv (List.replicate ((W + 31) / 32 * H) 0)).toArray → ∀ p, p ≠ w.heap.size → Blk a p 156 #[.int .i64 W, .int .i64 H, .int .i64 ((W + 31) / 32 : Nat), .slice (some ⟨w.heap.size, 0, none⟩) ((W + 31) / 32 * H) ((W + 31) / 32 * H)] →
      MatAt a p w.heap.size W H (fun _ _ => false) := fun a h1 p hp h2 =>
    ⟨List.replicate ((W + 31) / 32 * H) 0, ⟨by rw [hl]; exact h2, h1, fun x hx => by rw [List.eq_of_mem_replicate hx]; decide, hl, hp⟩, fun x y _ _ => bitM_rep _ _ _ _⟩
  have HM := Lib.hid hM; clear hM hl
  rw [wv_rep] at HM
  have hX := Blk.fresh w 157 (rep ((W + 31) / 32 * H) (.int .u32 0))
  have hB := bal (brf w) (.cells (rep ((W + 31) / 32 * H) (.int .u32 0)) 157)
  generalize rep ((W + 31) / 32 * H) (.int .u32 0) = z at *
  generalize (W + 31) / 32 * H = m at *
  generalize (W + 31) / 32 = rs at *
  have HX := Lib.hid (And.intro hX hB); clear hX hB
  go_enter Tryz.func61, Tryz.ntmps61
  go_wp2
  go_ret2
  refine ⟨_, _, rfl, HM.out _ (HX.out.1.alloc _) _ ?_ (Blk.fresh' (by simp)), ?_, Nat.le_refl _, bal HX.out.2 _⟩
  · simp
  · simp
end Go.Proofs.YtopfdmmimgnciaaGreatDoor
namespace Go.Proofs.YtopfdmmimgnciaaGreatDoor
open Go.RowKit

/-- The bit of rows at column x and row y. -/
def bitOf (rows : List (List Bool)) (x y : Nat) : Bool := (rows.getD y []).getD x false
theorem MatAt.congr {w : World} {p g W H : Nat} {f f' : Nat → Nat → Bool} (h : MatAt w p g W H f) (he : ∀ x y, x < W → y < H → f x y = f' x y) : MatAt w p g W H f' := by
  obtain ⟨ws, h1, h2⟩ := h
  exact ⟨ws, h1, fun x y hx hy => (h2 x y hx hy).trans (he x y hx hy)⟩

set_option maxRecDepth 100000 in
set_option maxHeartbeats 2000000 in
/-- ParseBoolMapToBitMatrix, of rows of one length. -/
theorem parseRows_any (W H : Nat) (v : Value) (rows : List (List Bool)) (w : World) (hv : RowsT w v rows) (hH : rows.length = H) (hr : ∀ r ∈ rows, r.length = W) (hW1 : 1 ≤ W) (hH1 : 1 ≤ H) (hW4 : W ≤ 4096) (hH4 : H ≤ 4096) :
    Calls Tryz.prog 37 #[v] w fun e w' => ∃ p g, e = .returned (.tuple #[.pointer (some ⟨p, 0, none⟩), .nilIface]) ∧ MatAt w' p g W H (bitOf rows) ∧ w.heap.size ≤ p ∧ w.heap.size ≤ g ∧ Below w.heap.size w w' := by
  obtain ⟨b, o, cap, rfl, h1, h2, HR⟩ := hv.at_ (by omega)
  clear hv
  rw [hH] at HR h1 ⊢
  have hrl : ∀ i, i < H → (rows.getD i []).length = W := fun i hi => by
    rw [List.getD, List.getElem?_eq_getElem (by omega), Option.getD_some]; exact hr _ (List.getElem_mem _)
  have HRL := Lib.hid hrl; clear hrl hr
  have HH := Lib.hid hH; clear hH
  obtain ⟨u0, hc0, hu0⟩ := HR.out 0 (by omega)
  obtain ⟨b0, o0, c0', rfl, _, _, _⟩ := row_at hu0 (by rw [HRL.out 0 (by omega)]; omega)
  rw [HRL.out 0 (by omega), Nat.add_zero] at hc0
  clear hu0
  go_enter Tryz.func37, Tryz.ntmps37
  go_wp2_with fail
  refine (newMat_any W H _ hW1 hH1 hW4 hH4).mono ?_
  rintro e w1 ⟨p, g, rfl, hm, hp, hg, hb1⟩
  have HM := Lib.hid hm; have HB := Lib.hid hb1; clear hm hb1 hc0
  go_wp2_with fail
  go_loopw [8] (fun yv wr => ∃ (y : Nat), y ≤ H ∧ yv = .int .i64 y ∧ Hid (MatAt wr p g W H (fun a c => decide (c < y) && bitOf rows a c)) ∧ Hid (Below w.heap.size w wr)) (fun yv _ => H - (intOf yv).toNat)
  case atStart => exact ⟨0, Nat.zero_le _, rfl, Lib.hid (HM.out.congr (fun x y _ _ => by simp)), HB⟩
  case round =>
    clear HM HB
    obtain ⟨y, hy, rfl, HM, HB⟩ := hrel
    by_cases hlt : y < H
    · obtain ⟨u, hc, hu⟩ := HR.out y hlt
      obtain ⟨by_, oy, cy, rfl, hcy1, hcy2, HC⟩ := row_at hu (by rw [HRL.out y hlt]; omega)
      rw [HRL.out y hlt] at hc hcy1 HC
      have cY := cell_up hc HB.out
      clear hc hu
      go_wp2_with fail
      go_loopw [10] (fun xv wi => ∃ (x : Nat), x ≤ W ∧ xv = .int .i64 x ∧ Hid (MatAt wi p g W H (fun a c => (decide (c < y) || (decide (c = y) && decide (a < x))) && bitOf rows a c)) ∧ Hid (Below w.heap.size w wi)) (fun xv _ => W - (intOf xv).toNat)
      case atStart => exact ⟨0, Nat.zero_le _, rfl, Lib.hid (HM.out.congr (fun x y _ _ => by simp)), HB⟩
      case round =>
        rename World => wi
        clear HM HB
        obtain ⟨x, hx, rfl, HM, HB⟩ := hrel
        by_cases hxl : x < W
        · have cX := cell_up (HC.out x hxl) HB.out
          have hbit : (rows.getD y []).getD x false = bitOf rows x y := rfl
          rw [hbit] at cX
          rcases hbv : bitOf rows x y with _ | _
          · have HM2 : Hid (MatAt wi p g W H (fun a c => (decide (c < y) || (decide (c = y) && decide (a < x + 1))) && bitOf rows a c)) := Lib.hid (HM.out.congr (fun a c _ _ => by
              by_cases hac : c = y ∧ a = x
              · obtain ⟨rfl, rfl⟩ := hac; rw [hbv]; simp
              · have e : (decide (c = y) && decide (a < x)) = (decide (c = y) && decide (a < x + 1)) := by
                  rw [Bool.eq_iff_iff]; simp; omega
                rw [e]))
            rw [hbv] at cX
            clear hbv hbit HM
            go_wp2
            go_roundw
            case rel => exact ⟨x + 1, by omega, by go_num, HM2, HB⟩
            case measure => simp [intOf]; omega
          · rw [hbv] at cX
            have HBV := Lib.hid hbv; clear hbv hbit
            go_wp2_with fail
            refine (matSet_any p g W H x y _ _ HM.out hxl hlt hW4 hH4).mono ?_
            rintro e w2 ⟨i, u, rfl, rfl, hm2⟩
            have HM2 : Hid (MatAt (wi.setCell ⟨g, i, none⟩ u) p g W H (fun a c => (decide (c < y) || (decide (c = y) && decide (a < x + 1))) && bitOf rows a c)) := Lib.hid (hm2.congr (fun a c _ _ => by
              by_cases hac : c = y ∧ a = x
              · obtain ⟨rfl, rfl⟩ := hac; rw [HBV.out]; simp
              · have e : (decide (c = y) && decide (a < x)) = (decide (c = y) && decide (a < x + 1)) := by
                  rw [Bool.eq_iff_iff]; simp; omega
                have e2 : (decide (a = x) && decide (c = y)) = false := by
                  rw [Bool.eq_false_iff]; simp; omega
                rw [e, e2, Bool.or_false]))
            have HB2 := Lib.hid (HB.out.setCell (p := ⟨g, i, none⟩) hg u)
            clear hm2 HM HBV cX
            go_wp2
            go_roundw
            case rel => exact ⟨x + 1, by omega, by go_num, HM2, HB2⟩
            case measure => simp [intOf]; omega
        · obtain rfl : x = W := by omega
          have HM2 : Hid (MatAt wi p g x H (fun a c => decide (c < y + 1) && bitOf rows a c)) := Lib.hid (HM.out.congr (fun a c ha _ => by
            have e : (decide (c < y) || (decide (c = y) && decide (a < x))) = decide (c < y + 1) := by
              rw [Bool.eq_iff_iff]; simp; omega
            rw [e]))
          go_wp2
          go_roundw
          case rel => exact ⟨y + 1, by omega, by go_num, HM2, HB⟩
          case measure => simp [intOf]; omega
    · obtain rfl : y = H := by omega
      go_wp2
      go_ret2
      exact ⟨p, g, rfl, HM.out.congr (fun a c _ hc => by simp [hc]), hp, hg, HB.out⟩

/-- impl.grid. -/
theorem grid_any (W H : Nat) (v : Value) (rows : List (List Bool)) (w : World) (hv : RowsT w v rows) (hH : rows.length = H) (hr : ∀ r ∈ rows, r.length = W) (hW1 : 1 ≤ W) (hH1 : 1 ≤ H) (hW4 : W ≤ 4096) (hH4 : H ≤ 4096) :
    Calls Tryz.prog 20 #[v] w fun e w' => ∃ p g, e = .returned (.tuple #[.pointer (some ⟨p, 0, none⟩), .nilIface]) ∧ MatAt w' p g W H (bitOf rows) ∧ w.heap.size ≤ p ∧ w.heap.size ≤ g ∧ Below w.heap.size w w' := by
  go_enter Tryz.func20, Tryz.ntmps20
  go_wp2_with fail
  refine (parseRows_any W H v rows _ hv hH hr hW1 hH1 hW4 hH4).mono ?_
  rintro e w1 ⟨p, g, rfl, hm, hp, hg, hb1⟩
  have HM := Lib.hid hm; have HB := Lib.hid hb1; clear hm hb1 hv hr hH
  go_wp2
  go_ret2
  exact ⟨p, g, rfl, HM.out, hp, hg, HB.out⟩
end Go.Proofs.YtopfdmmimgnciaaGreatDoor
namespace Go.Proofs.YtopfdmmimgnciaaGreatDoor
open Go.RowKit

/-- Bits that agree with T below n, and at the first m places of the four sides behind n. -/
def Ag (T cur : List Bool) (n l m : Nat) : Prop := cur.length = T.length ∧ (∀ p, p < n → cur[p]? = T[p]?) ∧ ∀ s q, s < 4 → q < m → cur[n + s * l + q]? = T[n + s * l + q]?
theorem Ag.zero (T : List Bool) (l : Nat) : Ag T (List.replicate T.length false) 0 l 0 := ⟨List.length_replicate, fun _ hp => absurd hp (Nat.not_lt_zero _), fun _ _ _ hq => absurd hq (Nat.not_lt_zero _)⟩
theorem set_ag {T cur : List Bool} {p : Nat} {b : Bool} (hb : T[p]? = some b) (hl : cur.length = T.length) (q : Nat) (h : q = p ∨ cur[q]? = T[q]?) : (cur.set p b)[q]? = T[q]? := by
  have hp := (List.getElem?_eq_some_iff.1 hb).1
  by_cases he : q = p
  · subst he; rw [List.getElem?_set_self (by omega), hb]
  · rw [List.getElem?_set_ne (by omega)]
    rcases h with h | h
    · exact absurd h he
    · exact h
theorem Ag.step {T cur : List Bool} {n l m p0 p1 p2 p3 : Nat} {b0 b1 b2 b3 : Bool} (h : Ag T cur n l m) (e0 : p0 = n + m) (e1 : p1 = n + l + m) (e2 : p2 = n + 2 * l + m) (e3 : p3 = n + 3 * l + m)
    (h0 : T[p0]? = some b0) (h1 : T[p1]? = some b1) (h2 : T[p2]? = some b2) (h3 : T[p3]? = some b3) :
    Ag T ((((cur.set p0 b0).set p1 b1).set p2 b2).set p3 b3) n l (m + 1) := by
  obtain ⟨hl, ha, hs⟩ := h
  have hl0 : (cur.set p0 b0).length = T.length := by rw [List.length_set]; exact hl
  have hl1 : ((cur.set p0 b0).set p1 b1).length = T.length := by rw [List.length_set]; exact hl0
  have hl2 : (((cur.set p0 b0).set p1 b1).set p2 b2).length = T.length := by rw [List.length_set]; exact hl1
  have key : ∀ q, (q = p0 ∨ q = p1 ∨ q = p2 ∨ q = p3 ∨ cur[q]? = T[q]?) → ((((cur.set p0 b0).set p1 b1).set p2 b2).set p3 b3)[q]? = T[q]? := fun q hq => by
    refine set_ag h3 hl2 q ?_
    by_cases q3 : q = p3
    · exact Or.inl q3
    refine Or.inr (set_ag h2 hl1 q ?_)
    by_cases q2 : q = p2
    · exact Or.inl q2
    refine Or.inr (set_ag h1 hl0 q ?_)
    by_cases q1 : q = p1
    · exact Or.inl q1
    refine Or.inr (set_ag h0 hl q ?_)
    by_cases q0 : q = p0
    · exact Or.inl q0
    rcases hq with h | h | h | h | h
    · exact absurd h q0
    · exact absurd h q1
    · exact absurd h q2
    · exact absurd h q3
    · exact Or.inr h
  refine ⟨by rw [List.length_set]; exact hl2, fun p hp => key p (Or.inr (Or.inr (Or.inr (Or.inr (ha p hp))))), fun s q hs4 hq => ?_⟩
  rcases Nat.lt_or_ge q m with hqm | hqm
  · exact key _ (Or.inr (Or.inr (Or.inr (Or.inr (hs s q hs4 hqm)))))
  · obtain rfl : q = m := by omega
    have hsc : s = 0 ∨ s = 1 ∨ s = 2 ∨ s = 3 := by omega
    rcases hsc with rfl | rfl | rfl | rfl
    · exact key _ (Or.inl (by omega))
    · exact key _ (Or.inr (Or.inl (by omega)))
    · exact key _ (Or.inr (Or.inr (Or.inl (by omega))))
    · exact key _ (Or.inr (Or.inr (Or.inr (Or.inl (by omega)))))
theorem Ag.layer {T cur : List Bool} {n l n2 l2 : Nat} (h : Ag T cur n l l) (e : n2 = n + 4 * l) : Ag T cur n2 l2 0 := by
  obtain ⟨hl, ha, hs⟩ := h
  refine ⟨hl, fun p hp => ?_, fun _ _ _ hq => absurd hq (Nat.not_lt_zero _)⟩
  rcases Nat.lt_or_ge p n with hpn | hpn
  · exact ha p hpn
  · rcases Nat.lt_or_ge p (n + l) with h1 | h1
    · have := hs 0 (p - n) (by omega) (by omega); rwa [show n + 0 * l + (p - n) = p by omega] at this
    rcases Nat.lt_or_ge p (n + 2 * l) with h2 | h2
    · have := hs 1 (p - n - l) (by omega) (by omega); rwa [show n + 1 * l + (p - n - l) = p by omega] at this
    rcases Nat.lt_or_ge p (n + 3 * l) with h3 | h3
    · have := hs 2 (p - n - 2 * l) (by omega) (by omega); rwa [show n + 2 * l + (p - n - 2 * l) = p by omega] at this
    · have := hs 3 (p - n - 3 * l) (by omega) (by omega); rwa [show n + 3 * l + (p - n - 3 * l) = p by omega] at this
theorem Ag.full {T cur : List Bool} {n l m : Nat} (h : Ag T cur n l m) (e : T.length ≤ n) : cur = T := by
  apply List.ext_getElem?
  intro i
  rcases Nat.lt_or_ge i T.length with hi | hi
  · exact h.2.1 i (by omega)
  · rw [List.getElem?_eq_none hi, List.getElem?_eq_none (by rw [h.1]; exact hi)]
theorem Ag.none {T cur : List Bool} {n l l2 : Nat} (h : Ag T cur n l 0) : Ag T cur n l2 0 := ⟨h.1, h.2.1, fun _ _ _ hq => absurd hq (Nat.not_lt_zero _)⟩

theorem MatAt.below {w w' : World} {p g W H B : Nat} {f : Nat → Nat → Bool} (h : MatAt w p g W H f) (hb : Below B w w') (hp : p < B) (hg : g < B) : MatAt w' p g W H f := by
  obtain ⟨ws, h1, h2⟩ := h
  exact ⟨ws, ⟨h1.head.below hb hp, h1.rows.below hb hg, h1.lt, h1.len, h1.apart⟩, h2⟩
theorem MatAt.blt {w : World} {p g W H : Nat} {f : Nat → Nat → Bool} (h : MatAt w p g W H f) : p < w.heap.size ∧ g < w.heap.size := by
  obtain ⟨ws, h1, _⟩ := h; exact ⟨h1.head.lt, h1.rows.lt⟩
theorem nums3 (n y cj k N : Nat) (x : Int) (hx : x = (y : Int)) (hb : n + y + cj + k < N) (hN : N ≤ 1000000) : ∃ B A P : Nat, Hid (B = n + y ∧ A = B + cj ∧ P = A + k) ∧ P < N ∧ IntKind.i64.wrap x = x ∧ IntKind.i64.wrap (B : Int) = (B : Int) ∧ (n : Int) + x = (B : Int) ∧
    IntKind.i64.wrap (A : Int) = (A : Int) ∧ (B : Int) + (cj : Int) = (A : Int) ∧ IntKind.i64.wrap (P : Int) = (P : Int) ∧ (A : Int) + (k : Int) = (P : Int) := by
  subst hx
  refine ⟨n + y, n + y + cj, n + y + cj + k, Lib.hid ⟨rfl, rfl, rfl⟩, hb, ?_, ?_, ?_, ?_, ?_, ?_, ?_⟩ <;> (try rw [IntKind.wrap_i64]) <;> omega
theorem nums2 (n cj k N : Nat) (hb : n + cj + k < N) (hN : N ≤ 1000000) : ∃ A P : Nat, Hid (A = n + cj ∧ P = A + k) ∧ P < N ∧
    IntKind.i64.wrap (A : Int) = (A : Int) ∧ (n : Int) + (cj : Int) = (A : Int) ∧ IntKind.i64.wrap (P : Int) = (P : Int) ∧ (A : Int) + (k : Int) = (P : Int) := by
  refine ⟨n + cj, n + cj + k, Lib.hid ⟨rfl, rfl⟩, hb, ?_, ?_, ?_, ?_⟩ <;> (try rw [IntKind.wrap_i64]) <;> omega
theorem numAdd (a b S : Nat) (h : a + b < S) (hS : S ≤ 1000000) : ∃ I : Nat, Hid (I = a + b) ∧ I < S ∧ IntKind.i64.wrap (I : Int) = (I : Int) ∧ (a : Int) + (b : Int) = (I : Int) := by
  refine ⟨a + b, Lib.hid rfl, h, ?_, ?_⟩ <;> (try rw [IntKind.wrap_i64]) <;> omega
theorem numSub (a b S : Nat) (hb : b ≤ a) (h : a < S) (hS : S ≤ 1000000) : ∃ I : Nat, Hid (I = a - b) ∧ I < S ∧ IntKind.i64.wrap (I : Int) = (I : Int) ∧ (a : Int) - (b : Int) = (I : Int) := by
  refine ⟨a - b, Lib.hid rfl, by omega, ?_, ?_⟩ <;> (try rw [IntKind.wrap_i64]) <;> omega
theorem round_ag {c : Bool} {L : Nat} {f : Nat → Nat → Bool} {T C : List Bool} {n l i j k S lo hh I0 I1 I2 I3 P0 P1 P2 P3 : Nat} {b0 b1 b2 b3 : Bool}
    (HTT : ∀ k q, k < 4 → q < 2 * l → T[n + k * (2 * l) + q]? = some (bitZ c L f i k q)) (hS : sideN c L = S) (hlo : lo = i * 2) (hhh : hh = S - 1 - lo)
    (e0 : I0 = lo + k) (e1 : I1 = lo + j) (e2 : I2 = hh - k) (e3 : I3 = hh - j) (p0 : P0 = n + j * 2 + k) (p1 : P1 = n + 2 * l + j * 2 + k) (p2 : P2 = n + 4 * l + j * 2 + k) (p3 : P3 = n + 6 * l + j * 2 + k)
    (hj : j < l) (hk : k < 2) (hA : Ag T C n (2 * l) (2 * j + k)) (hb0 : b0 = f (placeN c L I0) (placeN c L I1)) (hb1 : b1 = f (placeN c L I1) (placeN c L I2)) (hb2 : b2 = f (placeN c L I2) (placeN c L I3)) (hb3 : b3 = f (placeN c L I3) (placeN c L I0)) :
    Ag T ((((C.set P0 b0).set P1 b1).set P2 b2).set P3 b3) n (2 * l) (2 * j + (k + 1)) := by
  have i0 : 2 * i + k = I0 := by omega
  have i1 : 2 * i + j = I1 := by omega
  have i2 : S - 1 - 2 * i - k = I2 := by omega
  have i3 : S - 1 - 2 * i - j = I3 := by omega
  have hm2 : (2 * j + k) % 2 = k := by omega
  have hd2 : (2 * j + k) / 2 = j := by omega
  have hm : 2 * j + k < 2 * l := by omega
  refine hA.step (m := 2 * j + k) (by omega) (by omega) (by omega) (by omega) ?_ ?_ ?_ ?_
  · rw [show P0 = n + 0 * (2 * l) + (2 * j + k) by omega, HTT 0 _ (by omega) hm, hb0]; show some (f (placeN c L (2 * i + (2 * j + k) % 2)) (placeN c L (2 * i + (2 * j + k) / 2))) = _; rw [hm2, hd2, i0, i1]
  · rw [show P1 = n + 1 * (2 * l) + (2 * j + k) by omega, HTT 1 _ (by omega) hm, hb1]; show some (f (placeN c L (2 * i + (2 * j + k) / 2)) (placeN c L (sideN c L - 1 - 2 * i - (2 * j + k) % 2))) = _; rw [hm2, hd2, hS, i1, i2]
  · rw [show P2 = n + 2 * (2 * l) + (2 * j + k) by omega, HTT 2 _ (by omega) hm, hb2]; show some (f (placeN c L (sideN c L - 1 - 2 * i - (2 * j + k) % 2)) (placeN c L (sideN c L - 1 - 2 * i - (2 * j + k) / 2))) = _; rw [hm2, hd2, hS, i2, i3]
  · rw [show P3 = n + 3 * (2 * l) + (2 * j + k) by omega, HTT 3 _ (by omega) hm, hb3]; show some (f (placeN c L (sideN c L - 1 - 2 * i - (2 * j + k) / 2)) (placeN c L (2 * i + (2 * j + k) % 2))) = _; rw [hm2, hd2, hS, i3, i0]

theorem totalBits_any (c : Bool) (L : Nat) (w : World) (hL : L ≤ 32) : Calls Tryz.prog 65 #[.int .i64 L, .bool c] w fun e w' => e = .returned (.int .i64 (offN c L L : Nat)) ∧ w' = w := by
  have hle := offN_le c L L hL
  have ho := offN_all c L
  generalize offN c L L = N at *
  cases c
  · have e : ((112 : Int) + 16 * (L : Int)) * (L : Int) = (N : Int) := by rw [ho]; simp
    clear ho
    go_enter Tryz.func65, Tryz.ntmps65
    go_wp2
    go_ret
    exact ⟨rfl, rfl⟩
  · have e : ((88 : Int) + 16 * (L : Int)) * (L : Int) = (N : Int) := by rw [ho]; simp
    clear ho
    go_enter Tryz.func65, Tryz.ntmps65
    go_wp2
    go_ret
    exact ⟨rfl, rfl⟩
theorem isCompact_any (c : Bool) (r : Nat) (w : World) (h : w.cell? ⟨r, 1, none⟩ = some (.bool c)) : Calls Tryz.prog 63 #[.pointer (some ⟨r, 0, none⟩)] w fun e w' => e = .returned (.bool c) ∧ w' = w := by
  go_enter Tryz.func63, Tryz.ntmps63
  go_wp2
  go_ret
  exact ⟨rfl, rfl⟩
theorem nbLayers_any (L r : Nat) (w : World) (h : w.cell? ⟨r, 3, none⟩ = some (.int .i64 (L : Nat))) : Calls Tryz.prog 64 #[.pointer (some ⟨r, 0, none⟩)] w fun e w' => e = .returned (.int .i64 (L : Nat)) ∧ w' = w := by
  go_enter Tryz.func64, Tryz.ntmps64
  go_wp2
  go_ret
  exact ⟨rfl, rfl⟩
end Go.Proofs.YtopfdmmimgnciaaGreatDoor
