/-
  THE WALK OF THE LAW FnQRParses.
-/
import Derived.Test.YtjkfkkenaiodoaaPq16
namespace Go.Proofs.Ytjkfkkenaiodoaa
open Go.RowKit

theorem pqLevel_any (a : Nat) (w : World) (h : a < 256) : Calls Try.prog 5 #[.int .u8 a] w fun e w' => e = .returned (.int .i64 ((a % 4 : Nat) : Int)) ∧ w' = w := by
  have t1 : Int.tmod (a : Int) 4 = ((a % 4 : Nat) : Int) := by rw [Int.tmod_eq_emod_of_nonneg (by omega)]; simp
  have t2 : (a : Int) % 4 = ((a % 4 : Nat) : Int) := by omega
  generalize a % 4 = r at *
  go_enter Try.func5, Try.ntmps5
  go_wp2
  go_ret
  exact ⟨rfl, rfl⟩
theorem rdG_nil (w : World) : RdG w (.slice none 0 0) [] := ⟨none, 0, rfl, Nat.le_refl _, by decide, fun h => absurd h (by simp)⟩
set_option maxRecDepth 100000 in
set_option maxHeartbeats 4000000 in
theorem parses_walk (v : Value) (bs : List Nat) (a b : Nat) (w : World) (hv : Rd w w.heap.size v (wv8 bs)) (hbs : ∀ x ∈ bs, x < 256) (ha : a < 256) (hb : b < 256) :
    Calls Try.prog 3 #[v, .int .u8 a, .int .u8 b] w fun e w' => e = .returned (.bool true) ∧ Below w.heap.size w w' := by
  obtain ⟨A, c, hvf, -, hcm⟩ := hv.form
  rw [wv8_len] at hvf
  subst hvf
  have HD := Lib.hid hv
  have HBS := Lib.hid hbs
  have hver := fun w' => qrVersion_any a w' ha
  have hlev := fun w' => pqLevel_any b w' hb
  obtain ⟨ver, hve⟩ : ∃ x, x = 1 + a % 40 := ⟨_, rfl⟩
  obtain ⟨lv, hlv⟩ : ∃ x, x = b % 4 := ⟨_, rfl⟩
  rw [← hve] at hver
  rw [← hlv] at hlev
  have hv1 : 1 ≤ ver ∧ ver ≤ 40 ∧ lv < 4 := by omega
  clear hv hbs hve hlv ha hb hcm
  by_cases hl : bs.length ≤ 2147483647
  · have hli : ¬ (2147483647 : Int) < (bs.length : Int) := by omega
    obtain ⟨R, hR⟩ : ∃ R, segsF bs ver (8 * bs.length + 1) 0 [] = R := ⟨_, rfl⟩
    have HR := Lib.hid hR
    clear hR
    go_enter Try.func3, Try.ntmps3
    go_wp2_with fail
    refine (hver _).mono ?_
    rintro e w ⟨rfl, rfl⟩
    go_wp2_with fail
    refine (hlev _).mono ?_
    rintro e w ⟨rfl, rfl⟩
    clear hver hlev
    go_wp2_with fail
    refine (qrRead_any _ bs ver R w HD.out HBS.out hl HR.out).mono ?_
    rintro e w1 ⟨hb1, ⟨h0, s, rfl, hg⟩ | ⟨h1, rfl⟩ | ⟨h2, rfl⟩⟩
    · have hRe : R = (0, R.2) := by rw [← h0]
      have hsz := segsF_text bs ver (8 * bs.length + 1) 0 [] R.2 (by rw [HR.out]; exact hRe) (Nat.le_refl _) (Nat.le_refl _) (fun s hs => by cases hs) (Nat.zero_le _)
      have hT : (textOf R.2).length ≤ 100000000000 := by omega
      have hsg : R.2.length ≤ 100000000000 := by omega
      have HB1 := Lib.hid hb1
      have HG1 := Lib.hid hg
      have H0 := Lib.hid h0
      clear hb1 hg hsz hRe h0
      go_wp2_with fail
      refine (qrSaidAll_any _ R.2 _ HG1.out hT).mono ?_
      rintro e w2 ⟨hb2, ⟨ht, rfl⟩ | ⟨hf, rfl⟩⟩
      · have HB2 := Lib.hid (bup HB1.out hb2)
        have HG2 := Lib.hid (HG1.out.up hb2)
        have HA := Lib.hid ht
        clear hb2 ht HB1 HG1
        go_wp2_with fail
        refine (qrParse_any _ bs ver lv R w2 (HD.out.up HB2.out) HBS.out hl hv1.1 hv1.2.1 hv1.2.2 HR.out (by rw [H0.out]; decide)).mono ?_
        rintro e w3 ⟨hb3, ⟨h1, rfl⟩ | ⟨-, raw, segs, rfl, hraw, hsegs⟩⟩
        · rw [H0.out] at h1; cases h1
        · obtain ⟨Ar, cr, hvr, -, -⟩ := hraw.rd.form
          obtain ⟨lr, hlr⟩ : ∃ x, x = (wv8 bs).length := ⟨_, rfl⟩
          rw [← hlr] at hvr
          subst hvr
          obtain ⟨As, cs, hvs, -⟩ := hsegs.cells
          obtain ⟨ls, hls⟩ : ∃ x, x = (byteTs R.2).length := ⟨_, rfl⟩
          rw [← hls] at hvs
          subst hvs
          have HRA := Lib.hid hraw
          have HSE := Lib.hid hsegs
          have HB3 := Lib.hid (bup HB2.out hb3)
          have HG3 := Lib.hid (HG2.out.up hb3)
          have HD3 := Lib.hid (HD.out.up HB3.out)
          clear hb3 hraw hsegs HB2 HG2 HD hlr hls
          unfold impC
          go_wp2_with fail
          refine (qrBytes_any _ _ bs _ (HRA.out.up (bal (brf w3) _)) (HD3.out.up (bal (brf w3) _)) (by omega)).mono ?_
          rintro e w4 ⟨rfl, hb4⟩
          have hb5 := bup (bal (brf w3) _) hb4
          have hz : Blk w4 w3.heap.size 31 #[.string (ofL (textOf R.2)), .slice Ar lr cr, .slice As ls cs, .string (lvS lv), .int .i64 0, .int .i64 (-1), .int .i64 (-1), .int .i64 1] := Blk.up (Blk.fresh w3 _ _) hb4
          have HB4 := Lib.hid (bup HB3.out hb5)
          have HG4 := Lib.hid (HG3.out.up hb5)
          have HS4 := Lib.hid (HSE.out.up hb5)
          have c0 : w4.cell? ⟨w3.heap.size, 0, none⟩ = some (.string (ofL (textOf R.2))) := by rw [hz.cell]; rfl
          have c1 : w4.cell? ⟨w3.heap.size, 1, none⟩ = some (.slice Ar lr cr) := by rw [hz.cell]; rfl
          have c2 : w4.cell? ⟨w3.heap.size, 2, none⟩ = some (.slice As ls cs) := by rw [hz.cell]; rfl
          have c3 : w4.cell? ⟨w3.heap.size, 3, none⟩ = some (.string (lvS lv)) := by rw [hz.cell]; rfl
          have c4 : w4.cell? ⟨w3.heap.size, 4, none⟩ = some (.int .i64 0) := by rw [hz.cell]; rfl
          have c5 : w4.cell? ⟨w3.heap.size, 5, none⟩ = some (.int .i64 (-1)) := by rw [hz.cell]; rfl
          have c6 : w4.cell? ⟨w3.heap.size, 6, none⟩ = some (.int .i64 (-1)) := by rw [hz.cell]; rfl
          have c7 : w4.cell? ⟨w3.heap.size, 7, none⟩ = some (.int .i64 1) := by rw [hz.cell]; rfl
          clear hb4 hb5 hz HB3 HG3 HSE HRA HD3
          go_wp2_with fail
          refine (qrSays_any R.2 Ar As lr cr ls cs lv _ w4 hv1.2.2 HG4.out HS4.out hT HA.out hsg).mono ?_
          rintro e w5 ⟨rfl, hb6⟩
          have HB5 := Lib.hid (bup HB4.out hb6)
          clear hb6 c0 c1 c2 c3 c4 c5 c6 c7
          go_wp2_with fail
          go_ret
          exact ⟨rfl, HB5.out⟩
      · have HB2 := Lib.hid (bup HB1.out hb2)
        clear hb2 hf HB1 HG1
        go_wp2_with fail
        go_ret
        exact ⟨rfl, HB2.out⟩
    · have HB1 := Lib.hid hb1
      have H1 := Lib.hid h1
      clear hb1 h1
      go_wp2_with fail
      refine (qrSaidAll_any _ [] _ (rdG_nil _) (by decide)).mono ?_
      rintro e w2 ⟨hb2, ⟨ht, rfl⟩ | ⟨hf, rfl⟩⟩
      · have HB2 := Lib.hid (bup HB1.out hb2)
        clear hb2 ht HB1
        go_wp2_with fail
        refine (qrParse_any _ bs ver lv R w2 (HD.out.up HB2.out) HBS.out hl hv1.1 hv1.2.1 hv1.2.2 HR.out (by rw [H1.out]; decide)).mono ?_
        rintro e w3 ⟨hb3, ⟨-, rfl⟩ | ⟨h0, raw, segs, rfl, hraw, hsegs⟩⟩
        · have HB3 := Lib.hid (bup HB2.out hb3)
          clear hb3 HB2
          unfold zImp
          go_wp2_with fail
          go_ret
          exact ⟨rfl, by have h := HB3.out; go_grown; exact h.size⟩
        · rw [H1.out] at h0; cases h0
      · simp [ascT, textOf] at hf
    · have HB1 := Lib.hid hb1
      clear hb1 h2
      go_wp2_with fail
      refine (qrSaidAll_any _ [] _ (rdG_nil _) (by decide)).mono ?_
      rintro e w2 ⟨hb2, ⟨ht, rfl⟩ | ⟨hf, rfl⟩⟩
      · have HB2 := Lib.hid (bup HB1.out hb2)
        clear hb2 ht HB1
        go_wp2_with fail
        go_ret
        exact ⟨rfl, HB2.out⟩
      · simp [ascT, textOf] at hf
  · have hli : (2147483647 : Int) < (bs.length : Int) := by omega
    go_enter Try.func3, Try.ntmps3
    go_wp2
    go_ret
    exact ⟨rfl, brf _⟩
end Go.Proofs.Ytjkfkkenaiodoaa
