/-
  WALKS: impl.QRRead of a great symbol; laws.qrTells; the law FnQRVersionCopies.
-/
import Derived.Test.YtfgajbhgkdkmbaaVc5
import Derived.Test.YtfgajbhgkdkmbaaVc1
namespace Go.Proofs.Ytfgajbhgkdkmbaa
open Go.RowKit

theorem bitOf_rowsF (W H : Nat) (f : Nat → Nat → Bool) (x y : Nat) (hx : x < W) (hy : y < H) : bitOf (rowsF W H f) x y = f x y := by
  unfold bitOf
  rw [rowsF_at _ _ _ _ hy, List.getD, List.getElem?_eq_getElem (by rw [rowF_len]; exact hx), Option.getD_some, rowF_at]
theorem rowsF_all (W H : Nat) (f : Nat → Nat → Bool) : ∀ r ∈ rowsF W H f, r.length = W := fun r hr => by
  unfold rowsF at hr
  obtain ⟨y, _, rfl⟩ := List.mem_map.1 hr
  simp
set_option maxRecDepth 100000 in
theorem apart18_any (a b : Nat) (w : World) (ha : a < 262144) (hb : b < 262144) :
    Calls Try.prog 49 #[.int .i64 a, .int .i64 b] w fun e w' => e = .returned (.int .i64 (pc (a ^^^ b) : Nat)) ∧ w' = w := by
  have hx := i64_xor a b (by omega) (by omega)
  have hl : a ^^^ b < 262144 := Nat.xor_lt_two_pow (n := 18) ha hb
  generalize a ^^^ b = y at *
  go_enter Try.func49, Try.ntmps49
  go_wp2
  go_loop [5, 6] (fun nv zv => ∃ (n z : Nat), z < 262144 ∧ n ≤ 18 ∧ nv = .int .i64 n ∧ zv = .int .i64 z ∧ Hid (n + pc z = pc y)) (fun _ zv => (intOf zv).toNat)
  case atStart => exact ⟨0, y, hl, by omega, rfl, rfl, Lib.hid (by omega)⟩
  case round =>
    obtain ⟨n, z, hz, hn, rfl, rfl, HN⟩ := hrel
    by_cases h0 : z = 0
    · subst h0
      go_wp2
      go_ret
      exact ⟨by have := HN.out; rw [pc_zero] at this; rw [← this]; rfl, rfl⟩
    · have hs := pc_step18 z hz h0
      have hand := i64_and z (z - 1) (by omega) (by omega)
      have hc : ((z - 1 : Nat) : Int) = (z : Int) - 1 := by omega
      rw [hc] at hand
      have hle : z &&& (z - 1) ≤ z - 1 := Nat.and_le_right
      have hne : ((z : Int) != 0) = true := by rw [bne_iff_ne]; omega
      have hpl := pc_le y
      have hn2 : n + 1 ≤ 18 := by have := HN.out; omega
      have HN2 : Hid (n + 1 + pc (z &&& (z - 1)) = pc y) := Lib.hid (by have := HN.out; omega)
      clear hs HN hc hpl
      generalize z &&& (z - 1) = z2 at *
      go_wp2
      go_round
      case rel => exact ⟨n + 1, z2, by omega, hn2, by go_num, rfl, HN2⟩
      case measure => simp [intOf]; omega
theorem tells_any (x v : Nat) (w : World) (hx : x < 262144) (hv : v ≤ 40) : Calls Try.prog 21 #[.int .i64 x, .int .i64 v] w fun e w' => e = .returned (.bool (decide (dV x v ≤ 3))) ∧ w' = w := by
  have h1 := versionBits_any v w hv
  have h2 := apart18_any x (verBits v) w hx (verBits_lt v hv)
  have h3 : pc (x ^^^ verBits v) = dV x v := rfl
  rw [h3] at h2
  have h4 : dV x v ≤ 18 := pc_le _
  clear h3
  generalize verBits v = V at *
  generalize dV x v = d at *
  go_enter Try.func21, Try.ntmps21
  go_wp2_with fail
  refine h1.mono ?_
  rintro e w ⟨rfl, rfl⟩
  go_wp2_with fail
  refine h2.mono ?_
  rintro e w ⟨rfl, rfl⟩
  go_wp2
  go_ret
  exact ⟨ret_bool (by rw [Bool.eq_iff_iff]; simp; omega), rfl⟩
set_option maxRecDepth 100000 in
set_option maxHeartbeats 4000000 in
theorem qrRead_hi (n v a b k0 : Nat) (F : Nat → Nat → Bool) (s : Value) (w : World) (hs : RowsT w s (rowsF n n F)) (hn : n = 17 + 4 * v) (hv7 : 7 ≤ v) (hv40 : v ≤ 40) (hk0 : k0 < 32)
    (ha : a < 262144) (hb : b < 262144) (hA : ∀ k, k < 18 → F (n - 11 + k % 3) (k / 3) = bitN a (k : Int)) (hB : ∀ k, k < 18 → F (k / 3) (n - 11 + k % 3) = bitN b (k : Int))
    (hf : ∀ c r k : Nat, c < n → r < n → fmtI n r c = (k : Int) → F c r = bitN (fmtT k0) (k : Int)) :
    Calls Try.prog 20 #[s] w fun e w' => Below w.heap.size w w' ∧
      (((dV a v ≤ 3 ∨ dV b v ≤ 3) ∧ e = .returned (.tuple #[.int .i64 v, .int .i64 ((k0 / 8 : Nat) : Int), .int .i64 ((k0 % 8 : Nat) : Int), .bool true])) ∨
       (¬ (dV a v ≤ 3 ∨ dV b v ≤ 3) ∧ e = .returned (.tuple #[.int .i64 0, .int .i64 0, .int .i64 0, .bool false]))) := by
  have hp := parser_any n s (rowsF n n F) w hs (rowsF_len _ _ _) (rowsF_all _ _ _) (by omega) (by omega) (by omega)
  have HX := Lib.hid (And.intro hn (And.intro hv7 (And.intro hv40 (And.intro hk0 (And.intro ha (And.intro hb (And.intro hA (And.intro hB hf))))))))
  have h8 : k0 / 8 < 4 := by omega
  have h88 : k0 % 8 < 8 := by omega
  clear hs hn hk0 ha hb hA hB hf
  go_enter Try.func20, Try.ntmps20
  go_wp2_with fail
  refine hp.mono ?_
  rintro e w1 ⟨p, m, g, rfl, hp1, hm1, hlp, hlm, hlg, hb1⟩
  obtain ⟨xn, xv, xw, xk, xa, xb, xA, xB, xf⟩ := HX.out
  have hm2 : MatAt w1 m g n n F := hm1.congr (fun x y hx hy => bitOf_rowsF n n F x y hx hy)
  have hrv := readVersion_hi p m g w.heap.size v n a b (.pointer none) F w1 hp1 hm2 xn xv xw hlp xa xb xA xB
  have HRF : Hid (∀ w2 q, ParA w2 p m (.pointer (some ⟨q, 0, none⟩)) (.pointer none) → MatAt w2 m g n n F → _) := Lib.hid (fun w2 q h1 h2 => readFormat_any p m g w.heap.size n k0 (.pointer (some ⟨q, 0, none⟩)) F w2 h1 h2 (by omega) (by omega) hlp xk xf)
  have HB1 := Lib.hid hb1
  clear xn xv xw xk xa xb xA xB xf HX hp1 hm1 hm2 hlm hlg hb1 hp
  go_wp2_with fail
  refine hrv.mono ?_
  rintro e w2 (⟨hnear, q, rfl, hq, hp2, hm2, hb2⟩ | ⟨hno, t, u, rfl, hb2⟩)
  · have HB2 := Lib.hid (HB1.out.trans hb2)
    have HNr := Lib.hid hnear
    have hrf := HRF.out w2 q hp2 hm2
    have HQ := Lib.hid hq
    clear hb2 hnear hp2 hm2 hq HRF HB1 hrv
    go_wp2_with fail
    refine hrf.mono ?_
    rintro e w3 ⟨q3, rfl, hfi, hp3, hm3, hver, hb3⟩
    have hv3 := hver q v HQ.out
    have HB3 := Lib.hid (HB2.out.trans hb3)
    clear hver hb3 hp3 hm3 hrf HQ HB2
    obtain ⟨l, hl⟩ : ∃ l, l = k0 / 8 := ⟨_, rfl⟩
    obtain ⟨mk, hmk⟩ : ∃ mk, mk = k0 % 8 := ⟨_, rfl⟩
    rw [← hl, ← hmk] at hfi
    rw [← hl] at h8
    rw [← hmk] at h88
    have HLM := Lib.hid (And.intro hl hmk)
    clear hl hmk
    have g1 := verNumber_any q v w3 hv3
    have g2 := fiLevel_any q3 _ _ w3 hfi
    have g3 := lvBits_any (l : Int) w3
    have g4 := fiMask_any q3 _ _ w3 hfi
    clear hfi hv3
    go_wp2_with fail
    refine g1.mono ?_
    rintro e w3 ⟨rfl, rfl⟩
    go_wp2_with fail
    refine g2.mono ?_
    rintro e w3 ⟨rfl, rfl⟩
    go_wp2_with fail
    refine g3.mono ?_
    rintro e w3 ⟨rfl, rfl⟩
    go_wp2_with fail
    refine g4.mono ?_
    rintro e w3 ⟨rfl, rfl⟩
    clear g1 g2 g3 g4
    go_wp2
    go_returns
    exact ⟨HB3.out, .inl ⟨HNr.out, by rw [← HLM.out.1, ← HLM.out.2]⟩⟩
  · have HB2 := Lib.hid (HB1.out.trans hb2)
    have HNo := Lib.hid hno
    clear hb2 hno HRF HB1 hrv
    go_wp2_with fail
    go_returns
    exact ⟨HB2.out, .inr ⟨HNo.out, rfl⟩⟩
end Go.Proofs.Ytfgajbhgkdkmbaa
