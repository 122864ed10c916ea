/-
  WALKS: spec.AZWidth, AZField, AZBits, AZSymbol.
-/
import Derived.Test.YtpjaehljgpopmaaZs1
import Derived.Test.YtpjaehljgpopmaaRf3
namespace Go.Proofs.Ytpjaehljgpopmaa
open Go.RowKit

/-- The field of a symbol's words. -/
def fdL (L : Nat) : Gf.Fd := if L ≤ 2 then ⟨67, 6, 1⟩ else if L ≤ 8 then ⟨301, 8, 1⟩ else if L ≤ 22 then ⟨1033, 10, 1⟩ else ⟨4201, 12, 1⟩
theorem clsL (L : Nat) : (widN L = 6 ∧ fdL L = ⟨67, 6, 1⟩ ∧ L ≤ 2) ∨ (widN L = 8 ∧ fdL L = ⟨301, 8, 1⟩ ∧ 2 < L ∧ L ≤ 8) ∨ (widN L = 10 ∧ fdL L = ⟨1033, 10, 1⟩ ∧ 8 < L ∧ L ≤ 22) ∨ (widN L = 12 ∧ fdL L = ⟨4201, 12, 1⟩ ∧ 22 < L) := by
  unfold widN fdL
  by_cases h2 : L ≤ 2
  · left; rw [if_pos h2, if_pos h2]; exact ⟨rfl, rfl, h2⟩
  · right
    rw [if_neg h2, if_neg h2]
    by_cases h8 : L ≤ 8
    · left; rw [if_pos h8, if_pos h8]; exact ⟨rfl, rfl, by omega, h8⟩
    · right
      rw [if_neg h8, if_neg h8]
      by_cases h22 : L ≤ 22
      · left; rw [if_pos h22, if_pos h22]; exact ⟨rfl, rfl, by omega, h22⟩
      · right; rw [if_neg h22, if_neg h22]; exact ⟨rfl, rfl, by omega⟩
theorem fdL_facts (L : Nat) : Gf.Ok (fdL L) ∧ (fdL L).m = widN L ∧ (fdL L).b = 1 ∧ (fdL L).m ≤ 12 := by
  rcases clsL L with ⟨h1, h2, _⟩ | ⟨h1, h2, _⟩ | ⟨h1, h2, _⟩ | ⟨h1, h2, _⟩ <;> rw [h1, h2] <;> exact ⟨Gf.ok_of_mem (by simp [Gf.fields]), rfl, rfl, by decide⟩
theorem fdL_s (L : Nat) : (fdL L).s = 2 ^ widN L := by
  have h := (fdL_facts L).2.1
  unfold Gf.Fd.s
  rw [h]
/-- How many bits a symbol's layers have. -/
def capN (c : Bool) (L : Nat) : Nat := ((if c then 88 else 112) + 16 * L) * L
theorem capN_all : ∀ L, L < 33 → 0 < L → (∀ c, c = true ∨ c = false → capN c L / widN L < 2 ^ widN L ∧ capN c L ≤ 19968 ∧ capN c L / widN L ≤ 1664 ∧ 8 ≤ capN c L / widN L) := by
  intro L hL h0 c hc
  have h : ∀ L, L < 33 → 0 < L → (capN true L / widN L < 2 ^ widN L ∧ capN true L ≤ 19968 ∧ capN true L / widN L ≤ 1664 ∧ 8 ≤ capN true L / widN L) ∧ (capN false L / widN L < 2 ^ widN L ∧ capN false L ≤ 19968 ∧ capN false L / widN L ≤ 1664 ∧ 8 ≤ capN false L / widN L) := by decide +kernel
  rcases hc with rfl | rfl
  · exact (h L hL h0).1
  · exact (h L hL h0).2
theorem azWidth_any (L : Nat) (w : World) (h : L ≤ 32) : Calls Try.prog 5 #[.int .i64 L] w fun e w' => e = .returned (.int .i64 (widN L : Nat)) ∧ w' = w := by
  rcases clsL L with ⟨h1, _, h2⟩ | ⟨h1, _, h2, h3⟩ | ⟨h1, _, h2, h3⟩ | ⟨h1, _, h2⟩
  all_goals
    rw [h1]
    clear h1
    go_enter Try.func5, Try.ntmps5
    go_wp2
    go_ret
    exact ⟨rfl, rfl⟩
theorem azBits_any (c : Bool) (L : Nat) (w : World) (h : L ≤ 32) : Calls Try.prog 11 #[.bool c, .int .i64 L] w fun e w' => e = .returned (.int .i64 (capN c L : Nat)) ∧ w' = w := by
  obtain ⟨s, hs⟩ : ∃ s, s = 16 * L := ⟨_, rfl⟩
  have e1 : (16 : Int) * (L : Int) = (s : Int) := by omega
  have hs2 : s ≤ 512 := by omega
  cases c
  · obtain ⟨a, ha⟩ : ∃ a, a = 112 + s := ⟨_, rfl⟩
    have e2 : (112 : Int) + (s : Int) = (a : Int) := by omega
    have e3 : (a : Int) * (L : Int) = (capN false L : Int) := by unfold capN; rw [ha, hs]; simp
    have hc : capN false L ≤ 624 * 32 := by unfold capN; exact Nat.mul_le_mul (by simp; omega) h
    have ha2 : a ≤ 624 := by omega
    generalize capN false L = cap at *
    clear hs ha
    go_enter Try.func11, Try.ntmps11
    go_wp2
    go_ret
    exact ⟨rfl, rfl⟩
  · obtain ⟨a, ha⟩ : ∃ a, a = 88 + s := ⟨_, rfl⟩
    have e2 : (88 : Int) + (s : Int) = (a : Int) := by omega
    have e3 : (a : Int) * (L : Int) = (capN true L : Int) := by unfold capN; rw [ha, hs]; simp
    have hc : capN true L ≤ 600 * 32 := by unfold capN; exact Nat.mul_le_mul (by simp; omega) h
    have ha2 : a ≤ 600 := by omega
    generalize capN true L = cap at *
    clear hs ha
    go_enter Try.func11, Try.ntmps11
    go_wp2
    go_ret
    exact ⟨rfl, rfl⟩
set_option maxRecDepth 100000 in
theorem azField_any (L : Nat) (w : World) : Calls Try.prog 13 #[.int .i64 (widN L : Nat)] w fun e w' => e = .returned (.agg #[.int .i64 (fdL L).p, .int .i64 (fdL L).s, .int .i64 (fdL L).b]) ∧ Below w.heap.size w w' := by
  rcases clsL L with ⟨h1, h2, _⟩ | ⟨h1, h2, _⟩ | ⟨h1, h2, _⟩ | ⟨h1, h2, _⟩
  · rw [h1, h2]
    clear h1 h2
    have hk := Blk.fresh w 40 #[.int .i64 67, .int .i64 64, .int .i64 1]
    have q0 : (w.alloc (.cells #[.int .i64 67, .int .i64 64, .int .i64 1] 40)).cell? ⟨w.heap.size, 0, none⟩ = some (.int .i64 67) := by rw [hk.cell]; rfl
    have q1 : (w.alloc (.cells #[.int .i64 67, .int .i64 64, .int .i64 1] 40)).cell? ⟨w.heap.size, 1, none⟩ = some (.int .i64 64) := by rw [hk.cell]; rfl
    have q2 : (w.alloc (.cells #[.int .i64 67, .int .i64 64, .int .i64 1] 40)).cell? ⟨w.heap.size, 2, none⟩ = some (.int .i64 1) := by rw [hk.cell]; rfl
    clear hk
    go_enter Try.func13, Try.ntmps13
    go_wp2
    refine bodyPost_ret (v := .agg #[.int .i64 67, .int .i64 64, .int .i64 1]) (by simp [results, loadVar]; go_simp; first | done | simp [q0, q1, q2]) rfl ?_
    exact ⟨rfl, bal (brf w) _⟩
  · rw [h1, h2]
    clear h1 h2
    have hk := Blk.fresh w 40 #[.int .i64 301, .int .i64 256, .int .i64 1]
    have q0 : (w.alloc (.cells #[.int .i64 301, .int .i64 256, .int .i64 1] 40)).cell? ⟨w.heap.size, 0, none⟩ = some (.int .i64 301) := by rw [hk.cell]; rfl
    have q1 : (w.alloc (.cells #[.int .i64 301, .int .i64 256, .int .i64 1] 40)).cell? ⟨w.heap.size, 1, none⟩ = some (.int .i64 256) := by rw [hk.cell]; rfl
    have q2 : (w.alloc (.cells #[.int .i64 301, .int .i64 256, .int .i64 1] 40)).cell? ⟨w.heap.size, 2, none⟩ = some (.int .i64 1) := by rw [hk.cell]; rfl
    clear hk
    go_enter Try.func13, Try.ntmps13
    go_wp2
    refine bodyPost_ret (v := .agg #[.int .i64 301, .int .i64 256, .int .i64 1]) (by simp [results, loadVar]; go_simp; first | done | simp [q0, q1, q2]) rfl ?_
    exact ⟨rfl, bal (brf w) _⟩
  · rw [h1, h2]
    clear h1 h2
    have hk := Blk.fresh w 40 #[.int .i64 1033, .int .i64 1024, .int .i64 1]
    have q0 : (w.alloc (.cells #[.int .i64 1033, .int .i64 1024, .int .i64 1] 40)).cell? ⟨w.heap.size, 0, none⟩ = some (.int .i64 1033) := by rw [hk.cell]; rfl
    have q1 : (w.alloc (.cells #[.int .i64 1033, .int .i64 1024, .int .i64 1] 40)).cell? ⟨w.heap.size, 1, none⟩ = some (.int .i64 1024) := by rw [hk.cell]; rfl
    have q2 : (w.alloc (.cells #[.int .i64 1033, .int .i64 1024, .int .i64 1] 40)).cell? ⟨w.heap.size, 2, none⟩ = some (.int .i64 1) := by rw [hk.cell]; rfl
    clear hk
    go_enter Try.func13, Try.ntmps13
    go_wp2
    refine bodyPost_ret (v := .agg #[.int .i64 1033, .int .i64 1024, .int .i64 1]) (by simp [results, loadVar]; go_simp; first | done | simp [q0, q1, q2]) rfl ?_
    exact ⟨rfl, bal (brf w) _⟩
  · rw [h1, h2]
    clear h1 h2
    have hk := Blk.fresh w 40 #[.int .i64 4201, .int .i64 4096, .int .i64 1]
    have q0 : (w.alloc (.cells #[.int .i64 4201, .int .i64 4096, .int .i64 1] 40)).cell? ⟨w.heap.size, 0, none⟩ = some (.int .i64 4201) := by rw [hk.cell]; rfl
    have q1 : (w.alloc (.cells #[.int .i64 4201, .int .i64 4096, .int .i64 1] 40)).cell? ⟨w.heap.size, 1, none⟩ = some (.int .i64 4096) := by rw [hk.cell]; rfl
    have q2 : (w.alloc (.cells #[.int .i64 4201, .int .i64 4096, .int .i64 1] 40)).cell? ⟨w.heap.size, 2, none⟩ = some (.int .i64 1) := by rw [hk.cell]; rfl
    clear hk
    go_enter Try.func13, Try.ntmps13
    go_wp2
    refine bodyPost_ret (v := .agg #[.int .i64 4201, .int .i64 4096, .int .i64 1]) (by simp [results, loadVar]; go_simp; first | done | simp [q0, q1, q2]) rfl ?_
    exact ⟨rfl, bal (brf w) _⟩
set_option maxRecDepth 100000 in
set_option maxHeartbeats 4000000 in
theorem azSymbol_any (v : Value) (D : List Nat) (c : Bool) (L : Nat) (w : World) (hv : RdT w 3 v (nv D)) (hD : ∀ x ∈ D, x < 2 ^ widN L) (hl : D.length ≤ 200) (h1 : 1 ≤ L) (h2 : L ≤ 32) :
    Calls Try.prog 6 #[v, .bool c, .int .i64 L] w fun e w' => Below w.heap.size w w' ∧
      ((0 < D.length ∧ D.length + 2 ≤ capN c L / widN L ∧ ∃ v', e = .returned (.tuple #[v', .bool true]) ∧ RdT w' 3 v' (nv (Gf.enc (fdL L) (capN c L / widN L - D.length) D))) ∨
       (¬ (0 < D.length ∧ D.length + 2 ≤ capN c L / widN L) ∧ e = .returned (.tuple #[.slice none 0 0, .bool false]))) := by
  have hWd := azWidth_any L w h2
  have hCp := fun w' => azBits_any c L w' h2
  have hFd := fun w' => azField_any L w'
  obtain ⟨c1, c2, c3, c4⟩ := capN_all L (by omega) h1 c (by cases c <;> simp)
  obtain ⟨hF, hFm, hFb, hF12⟩ := fdL_facts L
  have hwd := widN_le L
  rw [← fdL_s] at hD c1
  obtain ⟨wd, hwdv⟩ : ∃ x, x = widN L := ⟨_, rfl⟩
  obtain ⟨cap, hcapv⟩ : ∃ x, x = capN c L := ⟨_, rfl⟩
  rw [← hwdv] at hWd hwd hFd hFm c1 c3 c4 ⊢
  rw [← hcapv] at hCp c1 c2 c3 c4 ⊢
  clear hwdv hcapv
  obtain ⟨al, hal⟩ : ∃ x, x = cap / wd := ⟨_, rfl⟩
  rw [← hal] at c1 c3 c4 ⊢
  have t1 : Int.tdiv (cap : Int) (wd : Int) = (al : Int) := by rw [Int.tdiv_eq_ediv_of_nonneg (by omega), hal]; simp
  have t2 : (cap : Int) / (wd : Int) = (al : Int) := by rw [hal]; simp
  have t3 : ¬ ((wd : Int) = 0) := by omega
  have HRS := Lib.hid (fun w' (ha : Rd w' w'.heap.size v (nv D)) (h0 : 0 < D.length) (hn : D.length + 2 ≤ al) => rsEncode_any (fdL L) hF hF12 (by omega) v D (al - D.length) w' ha hD h0 (by omega) (by omega) (by omega))
  generalize fdL L = F at *
  have HV := Lib.hid hv
  obtain ⟨A, cp, rfl, k1, k2, -⟩ := hv
  have hnl : (nv D).length = D.length := by simp [nv]
  rw [hnl] at k1 HV HRS ⊢
  unfold maxLen at k2
  clear hD hnl hal c1 hF hFm hFb hF12
  by_cases hok : 0 < D.length ∧ D.length + 2 ≤ al
  · obtain ⟨m, hm⟩ : ∃ x, x = al - D.length := ⟨_, rfl⟩
    have e1 : (al : Int) - (D.length : Int) = (m : Int) := by omega
    obtain ⟨o1, o2⟩ := hok
    have hne : ((D.length : Int) == 0) = false := by rw [beq_eq_false_iff_ne]; omega
    have hne2 : decide ((al : Int) < (D.length : Int) + 2) = false := decide_eq_false (by omega)
    have hrs := HRS.out
    rw [← hm] at hrs ⊢
    have HRS2 := Lib.hid hrs
    clear hrs HRS hm
    go_enter Try.func6, Try.ntmps6
    go_wp2_with fail
    refine hWd.mono ?_
    rintro e w0 ⟨rfl, rfl⟩
    clear hWd
    go_wp2_with fail
    refine (hCp _).mono ?_
    rintro e w1 ⟨rfl, rfl⟩
    clear hCp
    go_wp2_with fail
    refine (hFd _).mono ?_
    rintro e w2 ⟨rfl, hb2⟩
    have HB2 := Lib.hid hb2
    have hrs := HRS2.out w2 (HV.out.up hb2).rd o1 o2
    clear hFd hb2
    go_wp2_with fail
    refine hrs.mono ?_
    rintro e w3 ⟨v3, rfl, hv3, hb3⟩
    have HV3 := Lib.hid hv3
    have HB3 := Lib.hid (bup HB2.out hb3)
    clear hrs hv3 hb3
    go_wp2_with fail
    go_ret2
    exact ⟨HB3.out, .inl ⟨o1, o2, v3, rfl, HV3.out⟩⟩
  · go_enter Try.func6, Try.ntmps6
    go_wp2_with fail
    refine hWd.mono ?_
    rintro e w0 ⟨rfl, rfl⟩
    clear hWd
    go_wp2_with fail
    refine (hCp _).mono ?_
    rintro e w1 ⟨rfl, rfl⟩
    clear hCp
    by_cases h0 : D.length = 0
    · have h0i : ((D.length : Int) == 0) = true := by rw [h0]; rfl
      go_wp2_with fail
      go_ret2
      exact ⟨brf _, .inr ⟨hok, rfl⟩⟩
    · have h3 : ¬ D.length + 2 ≤ al := fun h => hok ⟨by omega, h⟩
      have hp : 0 < D.length := by omega
      have hne : ((D.length : Int) == 0) = false := by rw [beq_eq_false_iff_ne]; omega
      have hne2 : decide ((al : Int) < (D.length : Int) + 2) = true := decide_eq_true (by omega)
      have HOK := Lib.hid hok
      clear hok
      go_wp2_with fail
      go_ret2
      exact ⟨brf _, .inr ⟨HOK.out, rfl⟩⟩
end Go.Proofs.Ytpjaehljgpopmaa
