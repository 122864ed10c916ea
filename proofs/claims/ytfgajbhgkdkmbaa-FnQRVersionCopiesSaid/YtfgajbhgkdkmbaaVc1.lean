/-
  WALK: spec.QRVersions: two copies of 18 bits are written into modules.
-/
import Derived.Test.YtfgajbhgkdkmbaaQp5
namespace Go.Proofs.Ytfgajbhgkdkmbaa
open Go.RowKit

/-- The first k bits of both copies are written. -/
def verK (n a b : Nat) (F : Nat → Nat → Bool) : Nat → Nat → Nat → Bool
  | 0 => F
  | k + 1 => fun x y => if x = k / 3 ∧ y = n - 11 + k % 3 then bitN b k else if x = n - 11 + k % 3 ∧ y = k / 3 then bitN a k else verK n a b F k x y
theorem verK_at (n a b : Nat) (F : Nat → Nat → Bool) (hn : 40 ≤ n) (x y : Nat) : ∀ k, k ≤ 18 → verK n a b F k x y =
    if n ≤ x + 11 ∧ x + 8 < n ∧ y * 3 + (x - (n - 11)) < k then bitN a ((y * 3 + (x - (n - 11)) : Nat) : Int) else
    if n ≤ y + 11 ∧ y + 8 < n ∧ x * 3 + (y - (n - 11)) < k then bitN b ((x * 3 + (y - (n - 11)) : Nat) : Int) else F x y
  | 0, _ => by
    rw [if_neg (by omega), if_neg (by omega)]; rfl
  | k + 1, hk => by
    unfold verK
    rw [verK_at n a b F hn x y k (by omega)]
    by_cases h1 : x = k / 3 ∧ y = n - 11 + k % 3
    · rw [if_pos h1, if_neg (by omega), if_pos (by omega)]
      congr 2; omega
    · rw [if_neg h1]
      by_cases h2 : x = n - 11 + k % 3 ∧ y = k / 3
      · rw [if_pos h2, if_pos (by omega)]
        congr 2; omega
      · rw [if_neg h2]
        by_cases h3 : n ≤ x + 11 ∧ x + 8 < n ∧ y * 3 + (x - (n - 11)) < k
        · rw [if_pos h3, if_pos (by omega)]
        · rw [if_neg h3]
          by_cases h4 : n ≤ y + 11 ∧ y + 8 < n ∧ x * 3 + (y - (n - 11)) < k
          · have h5 : ¬ (n ≤ x + 11 ∧ x + 8 < n ∧ y * 3 + (x - (n - 11)) < k + 1) := by omega
            rw [if_pos h4, if_neg h5, if_pos (by omega)]
          · have h5 : ¬ (n ≤ x + 11 ∧ x + 8 < n ∧ y * 3 + (x - (n - 11)) < k + 1) := by omega
            rw [if_neg h4, if_neg h5, if_neg (by omega)]
set_option maxRecDepth 100000 in
set_option maxHeartbeats 4000000 in
theorem versions_any (g n a b : Nat) (bs : List Nat) (F : Nat → Nat → Bool) (w : World) (h : MkR w g n n bs F) (hl : bs.length = n) (h1 : 40 ≤ n) (h2 : n ≤ 177) (ha : a < 262144) (hb : b < 262144) :
    Calls Try.prog 19 #[.slice (some ⟨g, 0, none⟩) n n, .int .i64 a, .int .i64 b] w fun e w' => e = .returned (.tuple #[]) ∧ MkR w' g n n bs (verK n a b F 18) ∧ Below g w w' := by
  have HL := Lib.hid hl
  have H0 := Lib.hid h
  clear h hl
  go_enter Try.func19, Try.ntmps19
  go_wp2_with fail
  go_loopw [10] (fun kv wr => ∃ (k : Nat), k ≤ 18 ∧ kv = .int .i64 k ∧ Hid (MkR wr g n n bs (verK n a b F k)) ∧ Hid (Below g w wr)) (fun kv _ => 18 - (intOf kv).toNat)
  case atStart => exact ⟨0, by omega, rfl, H0, Lib.hid (Below.refl _ _)⟩
  case round =>
    clear H0
    obtain ⟨k, hk, rfl, HM, HB⟩ := hrel
    by_cases hlt : k < 18
    · have q1 : Int.tdiv (k : Int) 3 = ((k / 3 : Nat) : Int) := by rw [Int.tdiv_eq_ediv_of_nonneg (by omega)]; simp
      have r1 : Int.tmod (k : Int) 3 = ((k % 3 : Nat) : Int) := by rw [Int.tmod_eq_emod_of_nonneg (by omega)]; simp
      have ba := bitN_at a k (by omega)
      have bb := bitN_at b k (by omega)
      obtain ⟨q, hq⟩ : ∃ q, q = k / 3 := ⟨_, rfl⟩
      obtain ⟨r, hr⟩ : ∃ r, r = k % 3 := ⟨_, rfl⟩
      obtain ⟨m, hm⟩ : ∃ m, m = n - 11 := ⟨_, rfl⟩
      obtain ⟨z, hz⟩ : ∃ z, z = m + r := ⟨_, rfl⟩
      have hv : verK n a b F (k + 1) = fun x y => if x = q ∧ y = z then bitN b k else if x = z ∧ y = q then bitN a k else verK n a b F k x y := by
        rw [hz, hm, hq, hr]; rfl
      have q2 : (k : Int) / 3 = (q : Int) := by omega
      have r2 : (k : Int) % 3 = (r : Int) := by omega
      rw [← hq] at q1
      rw [← hr] at r1
      have hqn : q < n := by omega
      have hzn : z < n := by omega
      have e1 : (n : Int) - 11 = (m : Int) := by omega
      have e2 : (m : Int) + (r : Int) = (z : Int) := by omega
      have e3 : IntKind.i64.wrap (m : Int) = (m : Int) := by rw [IntKind.wrap_i64]; omega
      have e4 : IntKind.i64.wrap (z : Int) = (z : Int) := by rw [IntKind.wrap_i64]; omega
      have e5 : IntKind.i64.wrap (q : Int) = (q : Int) := by rw [IntKind.wrap_i64]; omega
      have e6 : IntKind.i64.wrap (r : Int) = (r : Int) := by rw [IntKind.wrap_i64]; omega
      have HV := Lib.hid hv
      have hbq : q < bs.length := by rw [HL.out]; exact hqn
      have hbz : z < bs.length := by rw [HL.out]; exact hzn
      have hm1 := HM.out.put q z (bitN a k) hbq hzn
      have c1 : wr.cell? ⟨g, q, none⟩ = some (.slice (some ⟨bs.getD q 0, 0, none⟩) n n) := HM.out.at_ q hbq
      have c2 := HM.out.bit q z hbq hzn
      have f2 := HM.out.free q z hbq
      have hg1 := HM.out.above q hbq
      have hg2 := HM.out.above z hbz
      have hB1 := HB.out.setCell (p := ⟨bs.getD q 0, z, none⟩) (by show g ≤ bs.getD q 0; omega) (.bool (bitN a k))
      generalize bitN a k = ua at *
      generalize bitN b k = ub at *
      have hm2 := hm1.put z q ub hbz hqn
      have d1 : (wr.setCell ⟨bs.getD q 0, z, none⟩ (.bool ua)).drew.cell? ⟨g, z, none⟩ = some (.slice (some ⟨bs.getD z 0, 0, none⟩) n n) := hm1.at_ z hbz
      have d2 := hm1.drew.bit z q hbz hqn
      have f3 := hm1.drew.free z q hbz
      have hB2 := hB1.setCell (p := ⟨bs.getD z 0, q, none⟩) (by show g ≤ bs.getD z 0; omega) (.bool ub)
      have HN : Hid (MkR (((wr.setCell ⟨bs.getD q 0, z, none⟩ (.bool ua)).drew.setCell ⟨bs.getD z 0, q, none⟩ (.bool ub)).drew) g n n bs (verK n a b F (k + 1))) := Lib.hid (by rw [HV.out]; exact ⟨hm2.out, hm2.rows, hm2.above, hm2.inc⟩)
      have HNB : Hid (Below g w (((wr.setCell ⟨bs.getD q 0, z, none⟩ (.bool ua)).drew.setCell ⟨bs.getD z 0, q, none⟩ (.bool ub)).drew)) := Lib.hid ((HB.out.setCell (p := ⟨bs.getD q 0, z, none⟩) (by show g ≤ bs.getD q 0; omega) (.bool ua)).drew.setCell (p := ⟨bs.getD z 0, q, none⟩) (by show g ≤ bs.getD z 0; omega) (.bool ub)).drew
      clear hm1 hm2 hB1 hB2 HM HB hv HV hg1 hg2 hbq hbz hq hr hm hz
      generalize bs.getD q 0 = Q at *
      generalize bs.getD z 0 = Z at *
      generalize verK n a b F k z q = v2 at *
      generalize (if q = z ∧ z = q then ua else verK n a b F k q z) = v3 at *
      go_wp2_with fail
      refine Can.wp_region_can (fun w' => w'.cell? ⟨g, q, none⟩ = some (.slice (some ⟨Q, 0, none⟩) n n) ∧ w'.cell? ⟨Q, z, none⟩ = some (.bool v2) ∧ w'.frozen? ⟨Q, z, none⟩ = false) 16 [0, 1, 2, 3, 4, 5, 6, 7, 8, 9, 10, 11, 12, 13, 14, 15, 16] (by kernel_rfl) (by kernel_rfl) (fun _ _ d _ _ h => by cases d <;> exact h) ⟨c1, c2, f2⟩ (fun hHeld => ?_)
      repeat (refine Can.can_pure (v := ?_) rfl rfl (Or.inl ⟨by rfl, ?_⟩) ?_; rotate_left; (focus ((intro w hSw); (try dsimp only at hSw); go_simp; (try with_reducible rfl))); (try simp only [Act.put, List.getElem_toArray, List.getElem_cons_succ, List.getElem_cons_zero, List.setIfInBounds_toArray, List.set_cons_zero, List.set_cons_succ]))
      have f1 := hHeld.2.2
      have c3 := hHeld.2.1
      refine Can.can_tail rfl rfl (by rfl) (fun K hK => ?_)
      go_simp
      refine hK.out _ _ ?_
      clear hK K
      clear hHeld f1 c3 c1 c2 f2
      go_wp2_with fail
      generalize (World.setCell wr ⟨Q, z, none⟩ (Value.bool ua)).drew = w2 at *
      refine Can.wp_region_can (fun w' => w'.cell? ⟨g, z, none⟩ = some (.slice (some ⟨Z, 0, none⟩) n n) ∧ w'.cell? ⟨Z, q, none⟩ = some (.bool v3) ∧ w'.frozen? ⟨Z, q, none⟩ = false) 16 [0, 1, 2, 3, 4, 5, 6, 7, 8, 9, 10, 11, 12, 13, 14, 15, 16] (by kernel_rfl) (by kernel_rfl) (fun _ _ d _ _ h => by cases d <;> exact h) ⟨d1, d2, f3⟩ (fun hHeld => ?_)
      repeat (refine Can.can_pure (v := ?_) rfl rfl (Or.inl ⟨by rfl, ?_⟩) ?_; rotate_left; (focus ((intro w hSw); (try dsimp only at hSw); go_simp; (try with_reducible rfl))); (try simp only [Act.put, List.getElem_toArray, List.getElem_cons_succ, List.getElem_cons_zero, List.setIfInBounds_toArray, List.set_cons_zero, List.set_cons_succ]))
      have f1 := hHeld.2.2
      have c3 := hHeld.2.1
      refine Can.can_tail rfl rfl (by rfl) (fun K hK => ?_)
      go_simp
      refine hK.out _ _ ?_
      clear hK K
      clear hHeld f1 c3 d1 d2 f3 ba bb e1 e2 e3 e4 e5 e6 q1 q2 r1 r2
      go_wp2_with fail
      go_roundw
      case rel => exact ⟨k + 1, by omega, by go_num, HN, HNB⟩
      case measure => simp [intOf]; omega
    · obtain rfl : k = 18 := by omega
      go_wp2_with fail
      refine bodyPost_end (results_none rfl _ _ _) rfl ?_
      exact ⟨rfl, HM.out, HB.out⟩
end Go.Proofs.Ytfgajbhgkdkmbaa
