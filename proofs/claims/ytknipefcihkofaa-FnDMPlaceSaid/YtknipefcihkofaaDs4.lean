/-
  WALKS: the placer of the reference: corners.
-/
import Derived.Test.YtknipefcihkofaaDs3
import Derived.Test.YtknipefcihkofaaDp5
namespace Go.Proofs.Ytknipefcihkofaa
open Go.RowKit

def cor1 : List Int := [-1, 0, -1, 1, -1, 2, 0, -2, 0, -1, 1, -1, 2, -1, 3, -1]
def cor2 : List Int := [-3, 0, -2, 0, -1, 0, 0, -4, 0, -3, 0, -2, 0, -1, 1, -1]
def cor3 : List Int := [-3, 0, -2, 0, -1, 0, 0, -2, 0, -1, 1, -1, 2, -1, 3, -1]
def cor4 : List Int := [-1, 0, -1, -1, 0, -3, 0, -2, 0, -1, 1, -3, 1, -2, 1, -1]
theorem cor1_eq (rows cols : Nat) : cornL rows cols cor1 = corn1 rows cols := by
  simp [cornL, corn1, cor1, fixI, List.range_succ]; omega
theorem cor2_eq (rows cols : Nat) : cornL rows cols cor2 = corn2 rows cols := by
  simp [cornL, corn2, cor2, fixI, List.range_succ]; omega
theorem cor3_eq (rows cols : Nat) : cornL rows cols cor3 = corn3 rows cols := by
  simp [cornL, corn3, cor3, fixI, List.range_succ]; omega
theorem cor4_eq (rows cols : Nat) : cornL rows cols cor4 = corn4 rows cols := by
  simp [cornL, corn4, cor4, fixI, List.range_succ]; omega
section
variable {σ : Type} {set : σ → Nat → Nat → σ} {n rows cols : Nat} {row col : Int} {s s' : Nat × σ}
theorem corners_leaf (h : cornersG set n rows cols row col s = some s') :
    (¬ (row = rows ∧ col = 0) ∧ ¬ (row = rows - 2 ∧ col = 0 ∧ cols % 4 ≠ 0) ∧ ¬ (row = rows - 2 ∧ col = 0 ∧ cols % 8 = 4) ∧ ¬ (row = rows + 4 ∧ col = 2 ∧ cols % 8 = 0) ∧ s' = s) ∨
    ((row = rows ∧ col = 0) ∧ s.1 < n ∧ ∃ t, putsG set rows cols s.1 (corn1 rows cols) 0 s.2 = some t ∧ s' = (s.1 + 1, t)) ∨
    ((row = rows - 2 ∧ col = 0 ∧ cols % 4 ≠ 0) ∧ s.1 < n ∧ ∃ t, putsG set rows cols s.1 (corn2 rows cols) 0 s.2 = some t ∧ s' = (s.1 + 1, t)) ∨
    ((row = rows - 2 ∧ col = 0 ∧ cols % 8 = 4) ∧ s.1 < n ∧ ∃ t, putsG set rows cols s.1 (corn3 rows cols) 0 s.2 = some t ∧ s' = (s.1 + 1, t)) ∨
    ((row = rows + 4 ∧ col = 2 ∧ cols % 8 = 0) ∧ s.1 < n ∧ ∃ t, putsG set rows cols s.1 (corn4 rows cols) 0 s.2 = some t ∧ s' = (s.1 + 1, t)) := by
  unfold cornersG at h
  obtain ⟨s1, h1, h⟩ := bind_some' h
  obtain ⟨s2, h2, h⟩ := bind_some' h
  obtain ⟨s3, h3, h4⟩ := bind_some' h
  rcases cond_cases h1 with ⟨c1, e1⟩ | ⟨c1, w1, t1, p1, e1⟩ <;> rcases cond_cases h2 with ⟨c2, e2⟩ | ⟨c2, w2, t2, p2, e2⟩ <;> rcases cond_cases h3 with ⟨c3, e3⟩ | ⟨c3, w3, t3, p3, e3⟩ <;> rcases cond_cases h4 with ⟨c4, e4⟩ | ⟨c4, w4, t4, p4, e4⟩ <;>
    simp only [Bool.and_eq_true, Bool.and_eq_false_iff, decide_eq_true_eq, decide_eq_false_iff_not] at c1 c2 c3 c4 <;>
    first
      | (exfalso; omega)
      | (subst e1 e2 e3 e4; exact .inl ⟨by omega, by omega, by omega, by omega, rfl⟩)
      | (subst e2 e3 e4; exact .inr (.inl ⟨by omega, w1, t1, p1, e1⟩))
      | (subst e1 e3 e4; exact .inr (.inr (.inl ⟨by omega, w2, t2, p2, e2⟩)))
      | (subst e1 e2 e4; exact .inr (.inr (.inr (.inl ⟨by omega, w3, t3, p3, e3⟩))))
      | (subst e1 e2 e3; exact .inr (.inr (.inr (.inr ⟨by omega, w4, t4, p4, e4⟩))))
end
set_option maxRecDepth 100000 in
set_option maxHeartbeats 4000000 in
theorem scorners_any (q n rows cols word : Nat) (v : Value) (base : Nat) (gr : Nat → Nat) (M : Mod) (s' : Nat × Mod) (row col : Int) (w : World) (h : SpAt w q rows cols word v base gr M) (hc : cornersG modSet n rows cols row col (word, M) = some s') (hq : q ≤ base) (hw : word ≤ 100000)
    (hR : rows ≤ 200) (hC : cols ≤ 200) (hR6 : 6 ≤ rows) (hC6 : 6 ≤ cols) :
    Calls Try.prog 34 #[.pointer (some ⟨q, 0, none⟩), .int .i64 row, .int .i64 col] w fun e w' => e = .returned (.tuple #[]) ∧ SpAt w' q rows cols s'.1 v base gr s'.2 ∧ KeptG q w w' := by
  have hbs := h.head.lt
  have c0 : w.cell? ⟨q, 0, none⟩ = some (.int .i64 rows) := by rw [h.head.cell]; rfl
  have c1 : w.cell? ⟨q, 1, none⟩ = some (.int .i64 cols) := by rw [h.head.cell]; rfl
  have H := Lib.hid h
  clear h
  rcases corners_leaf hc with ⟨n1, n2, n3, n4, rfl⟩ | ⟨d, hw0, t, hp, rfl⟩ | ⟨d, hw0, t, hp, rfl⟩ | ⟨d, hw0, t, hp, rfl⟩ | ⟨d, hw0, t, hp, rfl⟩
  · clear hc
    by_cases hA : row = rows
    · have fR1 : (row == (rows : Int)) = true := by rw [beq_iff_eq]; omega
      have fC0 : (col == 0) = false := by rw [beq_eq_false_iff_ne]; omega
      have fR2 : (row == (rows : Int) - 2) = false := by rw [beq_eq_false_iff_ne]; omega
      have fR4 : (row == (rows : Int) + 4) = false := by rw [beq_eq_false_iff_ne]; omega
      clear n1 n2 n3 n4 hA
      go_enter Try.func34, Try.ntmps34
      go_wp2_with fail
      refine bodyPost_end (results_none rfl _ _ _) rfl ?_
      exact ⟨rfl, H.out, KeptG.refl q w⟩
    · by_cases hB : row = rows - 2
      · by_cases hD : col = 0
        · have fR1 : (row == (rows : Int)) = false := by rw [beq_eq_false_iff_ne]; omega
          have fR2 : (row == (rows : Int) - 2) = true := by rw [beq_iff_eq]; omega
          have fC0 : (col == 0) = true := by rw [beq_iff_eq]; omega
          have fM4 : ((cols : Int) % 4 != 0) = false := by rw [bne_eq_false_iff_eq]; omega
          have fM84 : ((cols : Int) % 8 == 4) = false := by rw [beq_eq_false_iff_ne]; omega
          have fR4 : (row == (rows : Int) + 4) = false := by rw [beq_eq_false_iff_ne]; omega
          clear n1 n2 n3 n4 hA hB hD
          go_enter Try.func34, Try.ntmps34
          go_wp2_with fail
          refine bodyPost_end (results_none rfl _ _ _) rfl ?_
          exact ⟨rfl, H.out, KeptG.refl q w⟩
        · have fR1 : (row == (rows : Int)) = false := by rw [beq_eq_false_iff_ne]; omega
          have fR2 : (row == (rows : Int) - 2) = true := by rw [beq_iff_eq]; omega
          have fC0 : (col == 0) = false := by rw [beq_eq_false_iff_ne]; omega
          have fR4 : (row == (rows : Int) + 4) = false := by rw [beq_eq_false_iff_ne]; omega
          clear n1 n2 n3 n4 hA hB hD
          go_enter Try.func34, Try.ntmps34
          go_wp2_with fail
          refine bodyPost_end (results_none rfl _ _ _) rfl ?_
          exact ⟨rfl, H.out, KeptG.refl q w⟩
      · by_cases hE : row = rows + 4
        · by_cases hD : col = 2
          · have fR1 : (row == (rows : Int)) = false := by rw [beq_eq_false_iff_ne]; omega
            have fR2 : (row == (rows : Int) - 2) = false := by rw [beq_eq_false_iff_ne]; omega
            have fR4 : (row == (rows : Int) + 4) = true := by rw [beq_iff_eq]; omega
            have fC2 : (col == 2) = true := by rw [beq_iff_eq]; omega
            have fM80 : ((cols : Int) % 8 == 0) = false := by rw [beq_eq_false_iff_ne]; omega
            clear n1 n2 n3 n4 hA hB hD hE
            go_enter Try.func34, Try.ntmps34
            go_wp2_with fail
            refine bodyPost_end (results_none rfl _ _ _) rfl ?_
            exact ⟨rfl, H.out, KeptG.refl q w⟩
          · have fR1 : (row == (rows : Int)) = false := by rw [beq_eq_false_iff_ne]; omega
            have fR2 : (row == (rows : Int) - 2) = false := by rw [beq_eq_false_iff_ne]; omega
            have fR4 : (row == (rows : Int) + 4) = true := by rw [beq_iff_eq]; omega
            have fC2 : (col == 2) = false := by rw [beq_eq_false_iff_ne]; omega
            clear n1 n2 n3 n4 hA hB hD hE
            go_enter Try.func34, Try.ntmps34
            go_wp2_with fail
            refine bodyPost_end (results_none rfl _ _ _) rfl ?_
            exact ⟨rfl, H.out, KeptG.refl q w⟩
        · have fR1 : (row == (rows : Int)) = false := by rw [beq_eq_false_iff_ne]; omega
          have fR2 : (row == (rows : Int) - 2) = false := by rw [beq_eq_false_iff_ne]; omega
          have fR4 : (row == (rows : Int) + 4) = false := by rw [beq_eq_false_iff_ne]; omega
          clear n1 n2 n3 n4 hA hB hE
          go_enter Try.func34, Try.ntmps34
          go_wp2_with fail
          refine bodyPost_end (results_none rfl _ _ _) rfl ?_
          exact ⟨rfl, H.out, KeptG.refl q w⟩
  · clear hc
    have fR1 : (row == (rows : Int)) = true := by rw [beq_iff_eq]; omega
    have fC0 : (col == 0) = true := by rw [beq_iff_eq]; omega
    have fR2 : (row == (rows : Int) - 2) = false := by rw [beq_eq_false_iff_ne]; omega
    have fR4 : (row == (rows : Int) + 4) = false := by rw [beq_eq_false_iff_ne]; omega
    have HPT := Lib.hid hp
    clear d hp hw0
    go_enter Try.func34, Try.ntmps34
    go_wp2_with fail
    refine (scorner_any cor1 q rows cols word v base gr M t _ (by decide) (by decide) H.out (by rw [cor1_eq]; exact HPT.out) hq hw hR hC hR6 hC6 hbs).mono ?_
    rintro e w1 ⟨rfl, z1, z2⟩
    have H1 := Lib.hid (And.intro z1 z2)
    have k0 : w1.cell? ⟨q, 0, none⟩ = some (.int .i64 rows) := by rw [z1.head.cell]; rfl
    have k1 : w1.cell? ⟨q, 1, none⟩ = some (.int .i64 cols) := by rw [z1.head.cell]; rfl
    clear z1 z2 c0 c1 H
    go_wp2_with fail
    refine bodyPost_end (results_none rfl _ _ _) rfl ?_
    exact ⟨rfl, H1.out.1, H1.out.2⟩
  · clear hc
    have fR1 : (row == (rows : Int)) = false := by rw [beq_eq_false_iff_ne]; omega
    have fC0 : (col == 0) = true := by rw [beq_iff_eq]; omega
    have fR2 : (row == (rows : Int) - 2) = true := by rw [beq_iff_eq]; omega
    have fM4 : ((cols : Int) % 4 != 0) = true := by rw [bne_iff_ne]; omega
    have fM84 : ((cols : Int) % 8 == 4) = false := by rw [beq_eq_false_iff_ne]; omega
    have fR4 : (row == (rows : Int) + 4) = false := by rw [beq_eq_false_iff_ne]; omega
    have HPT := Lib.hid hp
    clear d hp hw0
    go_enter Try.func34, Try.ntmps34
    go_wp2_with fail
    refine (scorner_any cor2 q rows cols word v base gr M t _ (by decide) (by decide) H.out (by rw [cor2_eq]; exact HPT.out) hq hw hR hC hR6 hC6 hbs).mono ?_
    rintro e w1 ⟨rfl, z1, z2⟩
    have H1 := Lib.hid (And.intro z1 z2)
    have k0 : w1.cell? ⟨q, 0, none⟩ = some (.int .i64 rows) := by rw [z1.head.cell]; rfl
    have k1 : w1.cell? ⟨q, 1, none⟩ = some (.int .i64 cols) := by rw [z1.head.cell]; rfl
    clear z1 z2 c0 c1 H
    go_wp2_with fail
    refine bodyPost_end (results_none rfl _ _ _) rfl ?_
    exact ⟨rfl, H1.out.1, H1.out.2⟩
  · clear hc
    have fR1 : (row == (rows : Int)) = false := by rw [beq_eq_false_iff_ne]; omega
    have fC0 : (col == 0) = true := by rw [beq_iff_eq]; omega
    have fR2 : (row == (rows : Int) - 2) = true := by rw [beq_iff_eq]; omega
    have fM4 : ((cols : Int) % 4 != 0) = false := by rw [bne_eq_false_iff_eq]; omega
    have fM84 : ((cols : Int) % 8 == 4) = true := by rw [beq_iff_eq]; omega
    have fR4 : (row == (rows : Int) + 4) = false := by rw [beq_eq_false_iff_ne]; omega
    have HPT := Lib.hid hp
    clear d hp hw0
    go_enter Try.func34, Try.ntmps34
    go_wp2_with fail
    refine (scorner_any cor3 q rows cols word v base gr M t _ (by decide) (by decide) H.out (by rw [cor3_eq]; exact HPT.out) hq hw hR hC hR6 hC6 hbs).mono ?_
    rintro e w1 ⟨rfl, z1, z2⟩
    have H1 := Lib.hid (And.intro z1 z2)
    have k0 : w1.cell? ⟨q, 0, none⟩ = some (.int .i64 rows) := by rw [z1.head.cell]; rfl
    have k1 : w1.cell? ⟨q, 1, none⟩ = some (.int .i64 cols) := by rw [z1.head.cell]; rfl
    clear z1 z2 c0 c1 H
    go_wp2_with fail
    refine bodyPost_end (results_none rfl _ _ _) rfl ?_
    exact ⟨rfl, H1.out.1, H1.out.2⟩
  · clear hc
    have fR1 : (row == (rows : Int)) = false := by rw [beq_eq_false_iff_ne]; omega
    have fR2 : (row == (rows : Int) - 2) = false := by rw [beq_eq_false_iff_ne]; omega
    have fR4 : (row == (rows : Int) + 4) = true := by rw [beq_iff_eq]; omega
    have fC2 : (col == 2) = true := by rw [beq_iff_eq]; omega
    have fM80 : ((cols : Int) % 8 == 0) = true := by rw [beq_iff_eq]; omega
    have HPT := Lib.hid hp
    clear d hp hw0
    go_enter Try.func34, Try.ntmps34
    go_wp2_with fail
    refine (scorner_any cor4 q rows cols word v base gr M t _ (by decide) (by decide) H.out (by rw [cor4_eq]; exact HPT.out) hq hw hR hC hR6 hC6 hbs).mono ?_
    rintro e w1 ⟨rfl, z1, z2⟩
    have H1 := Lib.hid (And.intro z1 z2)
    have k0 : w1.cell? ⟨q, 0, none⟩ = some (.int .i64 rows) := by rw [z1.head.cell]; rfl
    have k1 : w1.cell? ⟨q, 1, none⟩ = some (.int .i64 cols) := by rw [z1.head.cell]; rfl
    clear z1 z2 c0 c1 H
    go_wp2_with fail
    refine bodyPost_end (results_none rfl _ _ _) rfl ?_
    exact ⟨rfl, H1.out.1, H1.out.2⟩
end Go.Proofs.Ytknipefcihkofaa
