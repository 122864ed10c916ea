/-
  PLAIN: the modules of a finder pattern that the reader of a picture looks at; their pixels. WALKS: util.MathUtils_Round of a small whole float; gozxing.NewNotFoundException. PLAIN: what a picture of a symbol is to the reader. WALK: QRCodeReader.extractPureBits, of a picture of a symbol.
-/
import Derived.Test.YtcldipbboidjbaaWy2
import Derived.Test.YtcldipbboidjbaaRqC
import Derived.Test.YtcldipbboidjbaaRqB
import Derived.Laws.Cover2
namespace Go.Proofs.Ytcldipbboidjbaa
open Go.RowKit

/-- How many changes of colour there are up to a module of the diagonal. -/
def tabK (j : Nat) : Nat := [0, 1, 2, 2, 2, 3, 4, 5].getD j 0
/-- .. up to the pixel ahead of pixel i. -/
def kOf (s i : Nat) : Nat := if i = 0 then 0 else tabK ((i - 1) / s)
theorem kOf_succ (s i : Nat) : kOf s (i + 1) = tabK (i / s) := by
  unfold kOf
  rw [if_neg (by omega), Nat.add_sub_cancel]
theorem kOf_all : ∀ s, s < 7 → 0 < s → (∀ i, i < 7 * s + 1 → kOf s i ≤ 4) ∧ (∀ i, i < 7 * s → kOf s (i + 1) = kOf s i ∨ kOf s (i + 1) = kOf s i + 1) ∧ kOf s (7 * s) = 4 ∧ kOf s (7 * s + 1) = 5 := by
  decide +kernel
/-- What is asked of the modules of a symbol. -/
structure ModOk (n : Nat) (G : Nat → Nat → Bool) : Prop where
  n21 : 21 ≤ n
  n177 : n ≤ 177
  diag : ∀ j, j < 8 → G j j = decide (tabK j % 2 = 0)
  low : G 1 (n - 1) = true
theorem farM_diag (n j : Nat) (h : 21 ≤ n) (hj : j < 8) : farM (n : Int) (j : Int) (j : Int) = max ((j : Int) - 3) (3 - (j : Int)) := by
  unfold farM farI
  omega
theorem pat_diag (v l m j : Nat) (h1 : 1 ≤ v) (hj : j < 8) : givB v j j = true ∧ patB v l m j j = decide (tabK j % 2 = 0) := by
  have hgv : givenB v (17 + 4 * v) (cenOf v) j j = true := decide_eq_true (by unfold givenP; omega)
  refine ⟨hgv, ?_⟩
  unfold patB
  rw [hgv, Bool.true_and]
  have hf : ¬ 0 ≤ fmtI ((17 + 4 * v : Nat) : Int) (j : Int) (j : Int) := by
    unfold fmtI
    split <;> (try split) <;> (try split) <;> (try split) <;> (try split) <;> (try split) <;> (try split) <;> omega
  have hd := farM_diag (17 + 4 * v) j (by omega) hj
  unfold pattnB
  rw [if_neg hf, if_neg (by omega), if_pos (by rw [hd]; omega), hd]
  have hc : j = 0 ∨ j = 1 ∨ j = 2 ∨ j = 3 ∨ j = 4 ∨ j = 5 ∨ j = 6 ∨ j = 7 := by omega
  rcases hc with rfl | rfl | rfl | rfl | rfl | rfl | rfl | rfl <;> rfl
theorem pat_low (v l m : Nat) (h1 : 1 ≤ v) : givB v 1 (17 + 4 * v - 1) = true ∧ patB v l m 1 (17 + 4 * v - 1) = true := by
  have hgv : givenB v (17 + 4 * v) (cenOf v) (17 + 4 * v - 1) 1 = true := decide_eq_true (by unfold givenP; omega)
  refine ⟨hgv, ?_⟩
  unfold patB
  rw [hgv, Bool.true_and]
  have hf : ¬ 0 ≤ fmtI ((17 + 4 * v : Nat) : Int) ((17 + 4 * v - 1 : Nat) : Int) ((1 : Nat) : Int) := by
    unfold fmtI
    split <;> (try split) <;> (try split) <;> (try split) <;> (try split) <;> (try split) <;> (try split) <;> omega
  have hd : farM ((17 + 4 * v : Nat) : Int) ((17 + 4 * v - 1 : Nat) : Int) ((1 : Nat) : Int) = 3 := by unfold farM farI; omega
  unfold pattnB
  rw [if_neg hf, if_neg (by omega), if_pos (by rw [hd]; decide), hd]
  rfl
theorem pat_right (v l m : Nat) (h1 : 1 ≤ v) : givB v (17 + 4 * v - 1) 1 = true ∧ patB v l m (17 + 4 * v - 1) 1 = true := by
  have hgv : givenB v (17 + 4 * v) (cenOf v) 1 (17 + 4 * v - 1) = true := decide_eq_true (by unfold givenP; omega)
  refine ⟨hgv, ?_⟩
  unfold patB
  rw [hgv, Bool.true_and]
  have hf : ¬ 0 ≤ fmtI ((17 + 4 * v : Nat) : Int) ((1 : Nat) : Int) ((17 + 4 * v - 1 : Nat) : Int) := by
    unfold fmtI
    split <;> (try split) <;> (try split) <;> (try split) <;> (try split) <;> (try split) <;> (try split) <;> omega
  have hd : farM ((17 + 4 * v : Nat) : Int) ((1 : Nat) : Int) ((17 + 4 * v - 1 : Nat) : Int) = 3 := by unfold farM farI; omega
  unfold pattnB
  rw [if_neg hf, if_neg (by omega), if_pos (by rw [hd]; decide), hd]
  rfl
theorem modOk (v l m : Nat) (bits : List Bool) (h1 : 1 ≤ v) (h40 : v ≤ 40) : ModOk (17 + 4 * v) (modF v l m bits) :=
  ⟨by omega, by omega, fun j hj => by rw [modF_given _ _ _ _ _ _ (pat_diag v l m j h1 hj).1]; exact (pat_diag v l m j h1 hj).2,
    by rw [modF_given _ _ _ _ _ _ (pat_low v l m h1).1]; exact (pat_low v l m h1).2⟩
theorem modOk_turned (v l m : Nat) (bits : List Bool) (h1 : 1 ≤ v) (h40 : v ≤ 40) : ModOk (17 + 4 * v) (fun x y => modF v l m bits y x) :=
  ⟨by omega, by omega, fun j hj => by
      show modF v l m bits j j = _
      rw [modF_given _ _ _ _ _ _ (pat_diag v l m j h1 hj).1]; exact (pat_diag v l m j h1 hj).2,
    by
      show modF v l m bits (17 + 4 * v - 1) 1 = _
      rw [modF_given _ _ _ _ _ _ (pat_right v l m h1).1]; exact (pat_right v l m h1).2⟩
/-- The last place where something holds. -/
theorem last_true (g : Nat → Bool) : ∀ n, (∃ x, x < n ∧ g x = true) → ∃ x, x < n ∧ g x = true ∧ ∀ y, x < y → y < n → g y = false
  | 0, ⟨x, hx, _⟩ => absurd hx (Nat.not_lt_zero _)
  | n + 1, ⟨x, hx, hg⟩ => by
    rcases hb : g n with _ | _
    · have hxn : x ≠ n := fun he => by rw [he, hb] at hg; cases hg
      obtain ⟨z, hz, h1, h2⟩ := last_true g n ⟨x, by omega, hg⟩
      refine ⟨z, by omega, h1, fun y hy hn => ?_⟩
      rcases Nat.lt_or_ge y n with h | h
      · exact h2 y hy h
      · obtain rfl : y = n := by omega
        exact hb
    · exact ⟨n, by omega, hb, fun y hy hn => by omega⟩
section
variable {sc le to n : Nat} {G : Nat → Nat → Bool}
theorem pic_at {x y : Nat} (hx : x < sc * n) (hy : y < sc * n) : picF sc le to n G (le + x) (to + y) = G (x / sc) (y / sc) := by
  unfold picF
  rw [decide_eq_true (by omega), Bool.true_and, show le + x - le = x by omega, show to + y - to = y by omega]
theorem pic_off {x y : Nat} (h : ¬ (to ≤ y ∧ y < to + sc * n ∧ le ≤ x ∧ x < le + sc * n)) : picF sc le to n G x y = false := by
  unfold picF
  rw [decide_eq_false h, Bool.false_and]
end
end Go.Proofs.Ytcldipbboidjbaa
namespace Go.Proofs.Ytcldipbboidjbaa
open Go.RowKit

set_option maxRecDepth 100000 in
theorem order_float_all : (List.range 178).all (fun k => (FloatKind.f64.format.order (floatOfInt .f64 (k : Int)) 0 == some .lt) == false) = true := by
  decide +kernel
theorem order_float (k : Nat) (hk : k < 178) : (FloatKind.f64.format.order (floatOfInt .f64 (k : Int)) 0 == some .lt) = false :=
  beq_iff_eq.1 (List.all_eq_true.1 order_float_all k (List.mem_range.2 hk))
theorem round_any (k : Nat) (hk : k < 178) (w : World) : Calls Try.prog 88 #[.float .f64 (floatOfInt .f64 (k : Int))] w fun e w' => w' = w ∧ e = .returned (.int .i64 (k : Int)) := by
  obtain ⟨r, hr1, hr2⟩ := near_float k hk
  have ho := order_float k hk
  have h1 := run_float_arith (P := Try.prog) w .add 141 .f64 _ _ _ hr1
  have h2 := run_convert_float_int (P := Try.prog) w 141 3 .f64 .i64 r k (by kernel_rfl) (by kernel_rfl) hr2
  clear hr1 hr2
  generalize floatOfInt .f64 (k : Int) = d at *
  go_enter Try.func88, Try.ntmps88
  go_wp2_with fail
  go_ret
  exact ⟨rfl, rfl⟩
theorem newNo_any (s : ByteArray) (v : Value) (w : World) : Calls Try.prog 95 #[.string s, v] w fun e w' => e = .returned (.agg #[.string s, .nilIface]) ∧ Below w.heap.size w w' := by
  go_enter Try.func95, Try.ntmps95
  go_wp2
  go_returns
  exact ⟨rfl, by go_grown⟩
theorem notFoundE_any (v : Value) (w : World) : Calls Try.prog 86 #[v] w fun e w' => (∃ t x, e = .returned (.iface t x)) ∧ Below w.heap.size w w' := by
  go_enter Try.func86, Try.ntmps86
  go_wp2_with fail
  refine (newNo_any _ _ _).mono ?_
  rintro e w1 ⟨rfl, hb⟩
  go_wp2
  go_ret
  exact ⟨⟨_, _, rfl⟩, hb⟩
/-- A picture of a symbol: what the reader's steps lean on. -/
structure PicOk (W H x0 y0 s n bb xr : Nat) (f F : Nat → Nat → Bool) : Prop where
  s1 : 1 ≤ s
  s6 : s ≤ 6
  n21 : 21 ≤ n
  n177 : n ≤ 177
  W2 : x0 + s * n < W
  H2 : y0 + s * n < H
  bb1 : bb + 1 = y0 + s * n
  W3 : W ≤ 2000
  H3 : H ≤ 2000
  first : f x0 y0 = true
  first1 : ∀ x y, y < y0 → x < W → f x y = false
  first2 : ∀ x, x < x0 → f x y0 = false
  x1 : x0 ≤ xr
  x2 : xr < x0 + s * n
  xl : x0 < xr
  last : f xr bb = true
  last1 : ∀ x y, bb < y → y < H → x < W → f x y = false
  last2 : ∀ x, xr < x → x < W → f x bb = false
  diag : ∀ i, i ≤ 7 * s → f (x0 + i) (y0 + i) = decide (kOf s (i + 1) % 2 = 0)
  mod_ : ∀ i j, i < n → j < n → f (x0 + s / 2 + j * s) (y0 + s / 2 + i * s) = F j i
theorem mul_lt_of {a n s k : Nat} (h : a < n) (hk : k < s) : k + a * s < s * n := by
  have h1 : (a + 1) * s ≤ n * s := Nat.mul_le_mul_right s h
  rw [Nat.add_mul, Nat.one_mul, Nat.mul_comm n s] at h1
  omega
theorem div_mod_of {a s k : Nat} (hk : k < s) : (k + a * s) / s = a := by
  rw [Nat.add_mul_div_right _ _ (by omega), Nat.div_eq_of_lt hk, Nat.zero_add]
/-- The picture of a symbol's modules is one. -/
theorem picOk {sc le to ri bo n : Nat} {G : Nat → Nat → Bool} (hG : ModOk n G) (s1 : 1 ≤ sc) (s6 : sc ≤ 6) (hle : le ≤ 100) (hto : to ≤ 100) (hri : ri ≤ 100) (hbo : bo ≤ 100) (r1 : 1 ≤ ri) (b1 : 1 ≤ bo) :
    ∃ bb xr, PicOk (le + sc * n + ri) (to + sc * n + bo) le to sc n bb xr (picF sc le to n G) G := by
  have h21 := hG.n21
  have h177 := hG.n177
  have hsn : sc * n ≤ 6 * 177 := Nat.mul_le_mul s6 h177
  have hsn2 : sc * 21 ≤ sc * n := Nat.mul_le_mul_left sc h21
  have hz : G 0 0 = true := by rw [hG.diag 0 (by decide)]; rfl
  have e1 : (sc * n - 1) / sc = n - 1 := by
    have h9 : sc * n - 1 = (sc - 1) + (n - 1) * sc := by
      obtain ⟨m, rfl⟩ : ∃ m, n = m + 1 := ⟨n - 1, by omega⟩
      rw [Nat.add_sub_cancel, Nat.mul_add, Nat.mul_comm m sc]; omega
    rw [h9]; exact div_mod_of (by omega)
  have hd : picF sc le to n G (le + sc) (to + (sc * n - 1)) = true := by
    rw [pic_at (by omega) (by omega), e1, Nat.div_self (by omega)]
    exact hG.low
  obtain ⟨xr, x1, x2, x3⟩ := last_true (fun x => picF sc le to n G x (to + (sc * n - 1))) (le + sc * n + ri) ⟨le + sc, by omega, hd⟩
  have hx1 : le + sc ≤ xr := by
    rcases Nat.lt_or_ge xr (le + sc) with h | h
    · have h9 := x3 (le + sc) h (by omega)
      rw [hd] at h9
      cases h9
    · exact h
  have hx2 : xr < le + sc * n := by
    rcases Nat.lt_or_ge xr (le + sc * n) with h | h
    · exact h
    · rw [pic_off (by omega)] at x2
      cases x2
  refine ⟨to + (sc * n - 1), xr, ?_⟩
  constructor
  case s1 => exact s1
  case s6 => exact s6
  case n21 => exact h21
  case n177 => exact h177
  case W2 => omega
  case H2 => omega
  case bb1 => omega
  case W3 => omega
  case H3 => omega
  case first =>
    have h9 := pic_at (sc := sc) (le := le) (to := to) (n := n) (G := G) (x := 0) (y := 0) (by omega) (by omega)
    rw [Nat.add_zero, Nat.add_zero, Nat.zero_div] at h9
    rw [h9]; exact hz
  case first1 => exact fun x y hy _ => pic_off (by omega)
  case first2 => exact fun x hx => pic_off (by omega)
  case x1 => omega
  case x2 => exact hx2
  case xl => omega
  case last => exact x2
  case last1 => exact fun x y hy _ _ => pic_off (by omega)
  case last2 => exact x3
  case diag =>
    intro i hi
    rw [pic_at (by omega) (by omega), hG.diag _ (Nat.div_lt_of_lt_mul (by omega)), kOf_succ]
  case mod_ =>
    intro i j hi hj
    rw [Nat.add_assoc, Nat.add_assoc, pic_at (mul_lt_of hj (by omega)) (mul_lt_of hi (by omega)), div_mod_of (by omega), div_mod_of (by omega)]
end Go.Proofs.Ytcldipbboidjbaa
namespace Go.Proofs.Ytcldipbboidjbaa
open Go.RowKit

set_option maxRecDepth 100000 in
set_option maxHeartbeats 4000000 in
theorem extract_any (q : Value) (p g W H x0 y0 s n bb xr : Nat) (f F : Nat → Nat → Bool) (w : World) (h : MatZ w p g W H f) (hp : PicOk W H x0 y0 s n bb xr f F) :
    Calls Try.prog 45 #[q, .pointer (some ⟨p, 0, none⟩)] w fun e w' => ∃ p2 g2, e = .returned (.tuple #[.pointer (some ⟨p2, 0, none⟩), .nilIface]) ∧ MatAt w' p2 g2 n n F ∧ Below w.heap.size w w' := by
  have s1 := hp.s1
  have s6 := hp.s6
  have n21 := hp.n21
  have n177 := hp.n177
  have W2 := hp.W2
  have H2 := hp.H2
  have W3 := hp.W3
  have H3 := hp.H3
  have bb1 := hp.bb1
  have x1 := hp.x1
  have x2 := hp.x2
  have xl := hp.xl
  have hsn : s * 21 ≤ s * n := Nat.mul_le_mul_left s n21
  have hTL := topLeft_any p g W H x0 y0 f w h W3 H3 (by omega) (by omega) hp.first hp.first1 hp.first2
  have HBR := Lib.hid (fun w' (hm : MatZ w' p g W H f) => bottomRight_any p g W H xr bb f w' hm W3 H3 (by omega) (by omega) hp.last hp.last1 hp.last2)
  have HMS := Lib.hid (fun w' b (hm : MatAt w' p g W H f) (hb : Blk w' b 3 #[.int .i64 x0, .int .i64 y0]) =>
    moduleSize_any q p g W H x0 y0 (7 * s) b _ (kOf s) f w' hm hb W3 H3 (by omega) (by omega) rfl (fun i hi => (kOf_all s (by omega) s1).1 i (by omega)) (kOf_all s (by omega) s1).2.1 (kOf_all s (by omega) s1).2.2.1 (kOf_all s (by omega) s1).2.2.2 (size_float s s1 s6) hp.diag)
  have HMOD := Lib.hid hp.mod_
  obtain ⟨S, hS⟩ : ∃ S, S = s * n := ⟨_, rfl⟩
  rw [← hS] at W2 H2 bb1 x2 hsn
  have hquo : floatBits .quo .f64 (floatOfInt .f64 (S : Int)) (floatOfInt .f64 (s : Int)) = some (floatOfInt .f64 (n : Int)) := by
    have h9 := quo_float n (s - 1) (by omega) (by omega)
    rw [show s - 1 + 1 = s by omega] at h9
    rw [hS, Nat.mul_comm]; exact h9
  obtain ⟨rh, hr1, hr2⟩ := half_float s s1 s6
  obtain ⟨S1, hS1⟩ : ∃ S1, S = S1 + 1 := ⟨S - 1, by omega⟩
  obtain ⟨n1, hn1⟩ : ∃ n1, n = n1 + 1 := ⟨n - 1, by omega⟩
  obtain ⟨hml1, hml2⟩ := mul_float n1 s (by omega) (by omega)
  obtain ⟨sh, hsh⟩ : ∃ sh, sh = s / 2 := ⟨_, rfl⟩
  rw [← hsh] at hr2 HMOD
  obtain ⟨ns, hns⟩ : ∃ ns, ns = n1 * s := ⟨_, rfl⟩
  have hns2 : ns + s = S := by rw [hns, hS, hn1, Nat.mul_comm s, Nat.add_mul, Nat.one_mul]
  rw [← hns] at hml1 hml2
  have HFY : Hid (∀ k, k < n → floatBits .mul .f64 (floatOfInt .f64 (k : Int)) (floatOfInt .f64 (s : Int)) = some (floatOfInt .f64 ((k * s : Nat) : Int)) ∧ floatToIntVal .f64 (floatOfInt .f64 ((k * s : Nat) : Int)) .i64 = some ((k * s : Nat) : Int)) := Lib.hid (fun k hk => mul_float k s (by omega) (by omega))
  have HKS : Hid (∀ k, k < n → k * s ≤ ns) := Lib.hid (fun k hk => by rw [hns]; exact Nat.mul_le_mul_right s (by omega))
  have HM := Lib.hid h
  clear hS hns hp h
  have hq1 := fun w' => run_float_arith (P := Try.prog) w' .quo 141 .f64 _ _ _ hquo
  have hh1 := fun w' => run_float_arith (P := Try.prog) w' .quo 141 .f64 _ _ _ hr1
  have hh2 := fun w' => run_convert_float_int (P := Try.prog) w' 141 3 .f64 .i64 rh _ (by kernel_rfl) (by kernel_rfl) hr2
  have hm1 := fun w' => run_float_arith (P := Try.prog) w' .mul 141 .f64 _ _ _ hml1
  have hm2 := fun w' => run_convert_float_int (P := Try.prog) w' 141 3 .f64 .i64 _ _ (by kernel_rfl) (by kernel_rfl) hml2
  clear hquo hr1 hr2 hml1 hml2
  have Hq1 := Lib.hid hq1; have Hh1 := Lib.hid hh1; have Hh2 := Lib.hid hh2; have Hm1 := Lib.hid hm1; have Hm2 := Lib.hid hm2
  clear hq1 hh1 hh2 hm1 hm2
  have hnil := fun w' b => Lib.run_eql_slice_nil (P := Try.prog) w' 87 3 (some ⟨b, 0, none⟩) 2 2 0 0 Try.underlying87
  go_enter Try.func45, Try.ntmps45
  go_wp2_with fail
  refine hTL.mono ?_
  rintro e w1 ⟨b1, rfl, hb1, hw1⟩
  have hbr := HBR.out w1 (HM.out.up hw1)
  have HB1 := Lib.hid hw1; have HK1 := Lib.hid hb1
  clear hTL hb1 hw1 HBR
  go_wp2_with fail
  refine hbr.mono ?_
  rintro e w2 ⟨b2, rfl, hb2, hw2⟩
  have HB2 := Lib.hid (bup HB1.out hw2)
  have HK2 := Lib.hid hb2
  have HK12 := Lib.hid (HK1.out.up hw2)
  have hms := HMS.out w2 b1 (HM.out.up HB2.out).at_ HK12.out
  clear hbr hb2 hw2 HMS HK1 HB1
  go_wp2_with fail
  refine hms.mono ?_
  rintro e w3 ⟨rfl, rfl⟩
  clear hms hnil
  have c0 : w3.cell? ⟨b1, 0, none⟩ = some (.int .i64 x0) := by rw [HK12.out.cell]; rfl
  have c1 : w3.cell? ⟨b1, 1, none⟩ = some (.int .i64 y0) := by rw [HK12.out.cell]; rfl
  have c2 : w3.cell? ⟨b2, 0, none⟩ = some (.int .i64 xr) := by rw [HK2.out.cell]; rfl
  have c3 : w3.cell? ⟨b2, 1, none⟩ = some (.int .i64 bb) := by rw [HK2.out.cell]; rfl
  have e1 : (bb : Int) - (y0 : Int) = (S1 : Int) := by omega
  obtain ⟨xs, hxs⟩ : ∃ xs, xs = xr - x0 := ⟨_, rfl⟩
  obtain ⟨rr, hrr⟩ : ∃ rr, rr = x0 + S1 := ⟨_, rfl⟩
  have e2 : (xr : Int) - (x0 : Int) = (xs : Int) := by omega
  have e3 : (x0 : Int) + (S1 : Int) = (rr : Int) := by omega
  have e4 : (rr : Int) - (x0 : Int) = (S1 : Int) := by omega
  have e5 : (S1 : Int) + 1 = (S : Int) := by omega
  have e6 : (n : Int) - 1 = (n1 : Int) := by omega
  have g1 : rr < W := by omega
  have g2 : S1 ≤ 2000 := by omega
  have g3 : n1 < n := by omega
  have g4 : S ≤ 2000 := by omega
  have HQS := Lib.hid (And.intro hS1 (And.intro hn1 (And.intro hxs (And.intro hrr (And.intro bb1 (And.intro hns2 (And.intro W2 (And.intro H2 x1))))))))
  have g5 : ns ≤ S := by omega
  have g6 : bb ≤ 2000 := by omega
  have g7 : xr ≤ 2000 := by omega
  have g8 : xs ≤ 2000 := by omega
  have g9 : sh ≤ 3 := by omega
  have g11 : sh + 1 ≤ s := by omega
  have g10 : x0 < xr ∧ y0 < bb := by omega
  have HX := Lib.hid x2
  clear hS1 hn1 hxs hrr bb1 hns2 hsn x2 x1 xl W2 H2 hsh
  by_cases hx : xs = S1
  · have hne : ((S1 : Int) != (xs : Int)) = false := by rw [hx]; simp
    have e7 : (xs : Int) + 1 = (S : Int) := by omega
    have f1 : x0 + sh + ns ≤ xr := by have := HQS.out; omega
    have f2 : y0 + sh + ns ≤ bb := by have := HQS.out; omega
    clear hx
    have hq1 := Hq1.out
    go_wp2_with fail
    refine (round_any n (by omega) _).mono ?_
    rintro e w2 ⟨rfl, rfl⟩
    go_wp2_with fail
    refine (round_any n (by omega) _).mono ?_
    rintro e w3 ⟨rfl, rfl⟩
    have hh1 := Hh1.out
    have hh2 := Hh2.out
    have hm1 := Hm1.out
    have hm2 := Hm2.out
    go_wp2_with fail
    refine (newMat_any n n _ (by omega) (by omega) (by omega) (by omega)).mono ?_
    rintro e w2 ⟨p2, g2, rfl, hm0, hp2, hg2, hw2⟩
    have HB3 := Lib.hid (bup HB2.out hw2)
    have HMB := Lib.hid hm0
    have hg2' : w.heap.size ≤ g2 := Nat.le_trans HB2.out.size hg2
    clear hh1 hh2 hm1 hm2 hq1 HB2 HK2 HK12 c0 c1 c2 c3 e1 e2 e3 e4 e5 e6 hm0 hw2 hne hg2 hp2
    go_wp2_with fail
    obtain ⟨wb, rfl⟩ : ∃ wo : World, wo = w2 := ⟨_, rfl⟩
    go_loopw [21] (fun yv wr => ∃ (y : Nat), y ≤ n ∧ yv = .int .i64 y ∧ Hid (MatAt wr p2 g2 n n (fun a c => decide (c < y) && F a c)) ∧ Hid (Below w.heap.size w wr)) (fun yv _ => n - (intOf yv).toNat)
    case atStart => exact ⟨0, Nat.zero_le _, rfl, Lib.hid (HMB.out.congr (fun x y _ _ => by simp)), HB3⟩
    case round =>
      clear HMB HB3
      obtain ⟨y, hy, rfl, HMB, HB⟩ := hrel
      by_cases hlt : y < n
      · obtain ⟨hy1, hy2⟩ := HFY.out y hlt
        have hks := HKS.out y hlt
        obtain ⟨ys, hys⟩ : ∃ ys, ys = y * s := ⟨_, rfl⟩
        rw [← hys] at hy1 hy2 hks
        have HYS := Lib.hid hys
        clear hys
        have hm1 := fun w' => run_float_arith (P := Try.prog) w' .mul 141 .f64 _ _ _ hy1
        have hm2 := fun w' => run_convert_float_int (P := Try.prog) w' 141 3 .f64 .i64 _ _ (by kernel_rfl) (by kernel_rfl) hy2
        clear hy1 hy2
        go_wp2_with fail
        clear hm1 hm2
        go_loopw [23] (fun xv wi => ∃ (x : Nat), x ≤ n ∧ xv = .int .i64 x ∧ Hid (MatAt wi p2 g2 n n (fun a c => (decide (c < y) || (decide (c = y) && decide (a < x))) && F a c)) ∧ Hid (Below w.heap.size w wi)) (fun xv _ => n - (intOf xv).toNat)
        case atStart => exact ⟨0, Nat.zero_le _, rfl, Lib.hid (HMB.out.congr (fun x y _ _ => by simp)), HB⟩
        case round =>
          rename World => wi
          clear HMB HB
          obtain ⟨x, hx, rfl, HMB, HB⟩ := hrel
          by_cases hxl : x < n
          · obtain ⟨hx1, hx2⟩ := HFY.out x hxl
            have hkx := HKS.out x hxl
            have hbit := HMOD.out y x hlt hxl
            obtain ⟨xs, hxs⟩ : ∃ xs, xs = x * s := ⟨_, rfl⟩
            rw [← hxs] at hx1 hx2 hkx hbit
            rw [← HYS.out] at hbit
            clear hxs
            have hm1 := fun w' => run_float_arith (P := Try.prog) w' .mul 141 .f64 _ _ _ hx1
            have hm2 := fun w' => run_convert_float_int (P := Try.prog) w' 141 3 .f64 .i64 _ _ (by kernel_rfl) (by kernel_rfl) hx2
            clear hx1 hx2
            obtain ⟨X, hX⟩ : ∃ X, X = x0 + sh + xs := ⟨_, rfl⟩
            obtain ⟨Y, hY⟩ : ∃ Y, Y = y0 + sh + ys := ⟨_, rfl⟩
            have hXW : X < W := by have := HQS.out; have := HX.out; omega
            have hYH : Y < H := by have := HQS.out; omega
            have d1 : (x0 : Int) + (sh : Int) + (xs : Int) = (X : Int) := by omega
            have d2 : (y0 : Int) + (sh : Int) + (ys : Int) = (Y : Int) := by omega
            have hG := matGet_any p g W H X Y f wi (HM.out.up HB.out).at_ hXW hYH (by omega) (by omega)
            rw [← hX, ← hY] at hbit
            rw [hbit] at hG
            clear hX hY hbit
            go_wp2_with fail
            rcases hbv : F x y with _ | _
            · have HM2 : Hid (MatAt wi p2 g2 n n (fun a c => (decide (c < y) || (decide (c = y) && decide (a < x + 1))) && F a c)) := Lib.hid (HMB.out.congr (fun a c _ _ => by
                by_cases hac : c = y ∧ a = x
                · obtain ⟨rfl, rfl⟩ := hac; rw [hbv]; simp
                · have e : (decide (c = y) && decide (a < x)) = (decide (c = y) && decide (a < x + 1)) := by
                    rw [Bool.eq_iff_iff]; simp; omega
                  rw [e]))
              rw [hbv] at hG
              clear hbv HMB hm1 hm2 d1 d2
              refine hG.mono ?_
              rintro e wi ⟨rfl, rfl⟩
              clear hG
              go_wp2_with fail
              go_roundw
              case rel => exact ⟨x + 1, by omega, by go_num, HM2, HB⟩
              case measure => simp [intOf]; omega
            · rw [hbv] at hG
              have HBV := Lib.hid hbv
              clear hbv hm1 hm2 d1 d2
              refine hG.mono ?_
              rintro e wi ⟨rfl, rfl⟩
              clear hG
              go_wp2_with fail
              refine (matSet_any p2 g2 n n x y _ _ HMB.out hxl hlt (by omega) (by omega)).mono ?_
              rintro e w2 ⟨i, u, rfl, rfl, hm2⟩
              have HM2 : Hid (MatAt (wi.setCell ⟨g2, i, none⟩ u) p2 g2 n n (fun a c => (decide (c < y) || (decide (c = y) && decide (a < x + 1))) && F a c)) := Lib.hid (hm2.congr (fun a c _ _ => by
                by_cases hac : c = y ∧ a = x
                · obtain ⟨rfl, rfl⟩ := hac; rw [HBV.out]; simp
                · have e : (decide (c = y) && decide (a < x)) = (decide (c = y) && decide (a < x + 1)) := by
                    rw [Bool.eq_iff_iff]; simp; omega
                  have e2 : (decide (a = x) && decide (c = y)) = false := by
                    rw [Bool.eq_false_iff]; simp; omega
                  rw [e, e2, Bool.or_false]))
              have HB2 := Lib.hid (HB.out.setCell (p := ⟨g2, i, none⟩) hg2' u)
              clear hm2 HMB HBV
              go_wp2_with fail
              go_roundw
              case rel => exact ⟨x + 1, by omega, by go_num, HM2, HB2⟩
              case measure => simp [intOf]; omega
          · obtain rfl : x = n := by omega
            have HM2 : Hid (MatAt wi p2 g2 x x (fun a c => decide (c < y + 1) && F a c)) := Lib.hid (HMB.out.congr (fun a c ha _ => by
              have e : (decide (c < y) || (decide (c = y) && decide (a < x))) = decide (c < y + 1) := by
                rw [Bool.eq_iff_iff]; simp; omega
              rw [e]))
            go_wp2_with fail
            go_roundw
            case rel => exact ⟨y + 1, by omega, by go_num, HM2, HB⟩
            case measure => simp [intOf]; omega
      · obtain rfl : y = n := by omega
        go_wp2_with fail
        go_ret2
        exact ⟨p2, g2, rfl, HMB.out.congr (fun a c _ hc => by simp [hc]), HB.out⟩
  · have hne : ((S1 : Int) != (xs : Int)) = true := by simp; omega
    have f1 : x0 + sh + ns ≤ rr := by have := HQS.out; omega
    have f2 : y0 + sh + ns ≤ bb := by have := HQS.out; omega
    clear hx
    go_wp2_with fail
    refine (matWidth_any p g W H f _ (HM.out.up HB2.out).at_).mono ?_
    rintro e w4 ⟨rfl, rfl⟩
    have hq1 := Hq1.out
    go_wp2_with fail
    refine (round_any n (by omega) _).mono ?_
    rintro e w2 ⟨rfl, rfl⟩
    go_wp2_with fail
    refine (round_any n (by omega) _).mono ?_
    rintro e w3 ⟨rfl, rfl⟩
    have hh1 := Hh1.out
    have hh2 := Hh2.out
    have hm1 := Hm1.out
    have hm2 := Hm2.out
    go_wp2_with fail
    refine (newMat_any n n _ (by omega) (by omega) (by omega) (by omega)).mono ?_
    rintro e w2 ⟨p2, g2, rfl, hm0, hp2, hg2, hw2⟩
    have HB3 := Lib.hid (bup HB2.out hw2)
    have HMB := Lib.hid hm0
    have hg2' : w.heap.size ≤ g2 := Nat.le_trans HB2.out.size hg2
    clear hh1 hh2 hm1 hm2 hq1 HB2 HK2 HK12 c0 c1 c2 c3 e1 e2 e3 e4 e5 e6 hm0 hw2 hne hg2 hp2
    go_wp2_with fail
    obtain ⟨wb, rfl⟩ : ∃ wo : World, wo = w2 := ⟨_, rfl⟩
    go_loopw [21] (fun yv wr => ∃ (y : Nat), y ≤ n ∧ yv = .int .i64 y ∧ Hid (MatAt wr p2 g2 n n (fun a c => decide (c < y) && F a c)) ∧ Hid (Below w.heap.size w wr)) (fun yv _ => n - (intOf yv).toNat)
    case atStart => exact ⟨0, Nat.zero_le _, rfl, Lib.hid (HMB.out.congr (fun x y _ _ => by simp)), HB3⟩
    case round =>
      clear HMB HB3
      obtain ⟨y, hy, rfl, HMB, HB⟩ := hrel
      by_cases hlt : y < n
      · obtain ⟨hy1, hy2⟩ := HFY.out y hlt
        have hks := HKS.out y hlt
        obtain ⟨ys, hys⟩ : ∃ ys, ys = y * s := ⟨_, rfl⟩
        rw [← hys] at hy1 hy2 hks
        have HYS := Lib.hid hys
        clear hys
        have hm1 := fun w' => run_float_arith (P := Try.prog) w' .mul 141 .f64 _ _ _ hy1
        have hm2 := fun w' => run_convert_float_int (P := Try.prog) w' 141 3 .f64 .i64 _ _ (by kernel_rfl) (by kernel_rfl) hy2
        clear hy1 hy2
        go_wp2_with fail
        clear hm1 hm2
        go_loopw [23] (fun xv wi => ∃ (x : Nat), x ≤ n ∧ xv = .int .i64 x ∧ Hid (MatAt wi p2 g2 n n (fun a c => (decide (c < y) || (decide (c = y) && decide (a < x))) && F a c)) ∧ Hid (Below w.heap.size w wi)) (fun xv _ => n - (intOf xv).toNat)
        case atStart => exact ⟨0, Nat.zero_le _, rfl, Lib.hid (HMB.out.congr (fun x y _ _ => by simp)), HB⟩
        case round =>
          rename World => wi
          clear HMB HB
          obtain ⟨x, hx, rfl, HMB, HB⟩ := hrel
          by_cases hxl : x < n
          · obtain ⟨hx1, hx2⟩ := HFY.out x hxl
            have hkx := HKS.out x hxl
            have hbit := HMOD.out y x hlt hxl
            obtain ⟨xs, hxs⟩ : ∃ xs, xs = x * s := ⟨_, rfl⟩
            rw [← hxs] at hx1 hx2 hkx hbit
            rw [← HYS.out] at hbit
            clear hxs
            have hm1 := fun w' => run_float_arith (P := Try.prog) w' .mul 141 .f64 _ _ _ hx1
            have hm2 := fun w' => run_convert_float_int (P := Try.prog) w' 141 3 .f64 .i64 _ _ (by kernel_rfl) (by kernel_rfl) hx2
            clear hx1 hx2
            obtain ⟨X, hX⟩ : ∃ X, X = x0 + sh + xs := ⟨_, rfl⟩
            obtain ⟨Y, hY⟩ : ∃ Y, Y = y0 + sh + ys := ⟨_, rfl⟩
            have hXW : X < W := by have := HQS.out; have := HX.out; omega
            have hYH : Y < H := by have := HQS.out; omega
            have d1 : (x0 : Int) + (sh : Int) + (xs : Int) = (X : Int) := by omega
            have d2 : (y0 : Int) + (sh : Int) + (ys : Int) = (Y : Int) := by omega
            have hG := matGet_any p g W H X Y f wi (HM.out.up HB.out).at_ hXW hYH (by omega) (by omega)
            rw [← hX, ← hY] at hbit
            rw [hbit] at hG
            clear hX hY hbit
            go_wp2_with fail
            rcases hbv : F x y with _ | _
            · have HM2 : Hid (MatAt wi p2 g2 n n (fun a c => (decide (c < y) || (decide (c = y) && decide (a < x + 1))) && F a c)) := Lib.hid (HMB.out.congr (fun a c _ _ => by
                by_cases hac : c = y ∧ a = x
                · obtain ⟨rfl, rfl⟩ := hac; rw [hbv]; simp
                · have e : (decide (c = y) && decide (a < x)) = (decide (c = y) && decide (a < x + 1)) := by
                    rw [Bool.eq_iff_iff]; simp; omega
                  rw [e]))
              rw [hbv] at hG
              clear hbv HMB hm1 hm2 d1 d2
              refine hG.mono ?_
              rintro e wi ⟨rfl, rfl⟩
              clear hG
              go_wp2_with fail
              go_roundw
              case rel => exact ⟨x + 1, by omega, by go_num, HM2, HB⟩
              case measure => simp [intOf]; omega
            · rw [hbv] at hG
              have HBV := Lib.hid hbv
              clear hbv hm1 hm2 d1 d2
              refine hG.mono ?_
              rintro e wi ⟨rfl, rfl⟩
              clear hG
              go_wp2_with fail
              refine (matSet_any p2 g2 n n x y _ _ HMB.out hxl hlt (by omega) (by omega)).mono ?_
              rintro e w2 ⟨i, u, rfl, rfl, hm2⟩
              have HM2 : Hid (MatAt (wi.setCell ⟨g2, i, none⟩ u) p2 g2 n n (fun a c => (decide (c < y) || (decide (c = y) && decide (a < x + 1))) && F a c)) := Lib.hid (hm2.congr (fun a c _ _ => by
                by_cases hac : c = y ∧ a = x
                · obtain ⟨rfl, rfl⟩ := hac; rw [HBV.out]; simp
                · have e : (decide (c = y) && decide (a < x)) = (decide (c = y) && decide (a < x + 1)) := by
                    rw [Bool.eq_iff_iff]; simp; omega
                  have e2 : (decide (a = x) && decide (c = y)) = false := by
                    rw [Bool.eq_false_iff]; simp; omega
                  rw [e, e2, Bool.or_false]))
              have HB2 := Lib.hid (HB.out.setCell (p := ⟨g2, i, none⟩) hg2' u)
              clear hm2 HMB HBV
              go_wp2_with fail
              go_roundw
              case rel => exact ⟨x + 1, by omega, by go_num, HM2, HB2⟩
              case measure => simp [intOf]; omega
          · obtain rfl : x = n := by omega
            have HM2 : Hid (MatAt wi p2 g2 x x (fun a c => decide (c < y + 1) && F a c)) := Lib.hid (HMB.out.congr (fun a c ha _ => by
              have e : (decide (c < y) || (decide (c = y) && decide (a < x))) = decide (c < y + 1) := by
                rw [Bool.eq_iff_iff]; simp; omega
              rw [e]))
            go_wp2_with fail
            go_roundw
            case rel => exact ⟨y + 1, by omega, by go_num, HM2, HB⟩
            case measure => simp [intOf]; omega
      · obtain rfl : y = n := by omega
        go_wp2_with fail
        go_ret2
        exact ⟨p2, g2, rfl, HMB.out.congr (fun a c _ hc => by simp [hc]), HB.out⟩
end Go.Proofs.Ytcldipbboidjbaa
