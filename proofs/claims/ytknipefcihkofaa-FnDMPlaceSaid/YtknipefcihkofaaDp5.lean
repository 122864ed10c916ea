/-
  WALKS: DefaultPlacement: Place.
-/
import Derived.Test.YtknipefcihkofaaDp4
import Derived.Deep.LoopGhost
import Derived.Deep.DeepCutAuto
import Derived.Deep.CutBlock
namespace Go.Proofs.Ytknipefcihkofaa
open Go.RowKit

theorem PlAt.rows_ {w : World} {p g rows cols n : Nat} {cv : Value} {ws : List UInt8} {M : Mod} (h : PlAt w p g rows cols n cv ws M) : w.cell? ⟨p, 1, none⟩ = some (.int .i64 rows) := by rw [h.head.cell]; rfl
/-- What the program's modules hold at the end. -/
def lastD (ws : List UInt8) (rows cols : Nat) (M : Mod) (i : Nat) : Int :=
  if modHas M ((rows - 1) * cols + (cols - 1)) = false ∧ (i = (rows - 1) * cols + (cols - 1) ∨ i = (rows - 2) * cols + (cols - 2)) then 1 else cellM ws (M i)
def dV (D : Nat → Int) (N : Nat) : List Value := (List.range N).map fun i => Value.int .i8 (D i)
theorem dV_at (D : Nat → Int) (N i : Nat) (h : i < N) : (dV D N).toArray[i]? = some (.int .i8 (D i)) := by simp [dV, h]
theorem dV_set (D : Nat → Int) (N i : Nat) (x : Int) : (dV D N).toArray.setIfInBounds i (.int .i8 x) = (dV (fun j => if j = i then x else D j) N).toArray := by
  apply Array.ext_getElem?
  intro j
  simp only [dV, List.setIfInBounds_toArray, List.getElem?_toArray, List.getElem?_set, List.getElem?_map, List.length_map, List.length_range]
  by_cases hij : i = j
  · subst hij
    by_cases hi : i < N
    · simp [hi]
    · simp [hi]
  · rw [if_neg hij]
    by_cases hj : j < N
    · simp [hj, Ne.symm hij]
    · simp [hj]
/-- The placement when it is done. -/
structure PlD (w : World) (p g rows cols : Nat) (cv : Value) (D : Nat → Int) : Prop where
  head : Blk w p 54 #[cv, .int .i64 rows, .int .i64 cols, .slice (some ⟨g, 0, none⟩) (rows * cols) (rows * cols)]
  bits : Blk w g 55 (dV D (rows * cols)).toArray
theorem PlD.up {w w' : World} {p g rows cols : Nat} {cv : Value} {D : Nat → Int} (h : PlD w p g rows cols cv D) (hb : Below w.heap.size w w') : PlD w' p g rows cols cv D := ⟨h.head.up hb, h.bits.up hb⟩
theorem PlD.of {w : World} {p g rows cols n : Nat} {cv : Value} {ws : List UInt8} {M : Mod} (h : PlAt w p g rows cols n cv ws M) : PlD w p g rows cols cv (fun i => cellM ws (M i)) := ⟨h.head, h.bits⟩
theorem PlD.set {w : World} {p g rows cols : Nat} {cv : Value} {D : Nat → Int} (h : PlD w p g rows cols cv D) (i : Nat) (x : Int) : PlD (w.setCell ⟨g, i, none⟩ (.int .i8 x)).drew p g rows cols cv (fun j => if j = i then x else D j) :=
  ⟨(h.head.far (p := ⟨g, i, none⟩) (blk_neq h.head h.bits (by decide)) _).up (bdr (brf _)), by rw [← dV_set]; exact (h.bits.put _ _).up (bdr (brf _))⟩
theorem cond_cases {σ : Type} {set : σ → Nat → Nat → σ} {c : Bool} {n rows cols : Nat} {l : List (Int × Int)} {s s' : Nat × σ} (h : condG set c n rows cols l s = some s') : (c = false ∧ s' = s) ∨ (c = true ∧ s.1 < n ∧ ∃ t, putsG set rows cols s.1 l 0 s.2 = some t ∧ s' = (s.1 + 1, t)) := by
  unfold condG at h
  cases c
  · injection h with h; exact .inl ⟨rfl, h.symm⟩
  · simp only [if_true] at h
    unfold wordG at h
    split at h
    · rename_i hw
      cases hp : putsG set rows cols s.1 l 0 s.2 with
      | none => rw [hp] at h; cases h
      | some t =>
        rw [hp] at h
        injection h with h
        exact .inr ⟨rfl, hw, t, rfl, h.symm⟩
    · cases h
theorem spot_cases {n rows cols : Nat} {inn : Bool} {row col : Int} {M : Mod} {k : Nat} {s' : Nat × Mod} (h : spotG modHas modSet inn n rows cols row col (k, M) = some s') : (-8 ≤ row ∧ row ≤ 250 ∧ -8 ≤ col ∧ col ≤ 250) ∧ ∃ bb : Bool,
    ((bb = false ∧ s' = (k, M)) ∨ (bb = true ∧ 0 ≤ row ∧ 0 ≤ col ∧ k < n ∧ ∃ t, putsG modSet rows cols k (utahL row col) 0 M = some t ∧ s' = (k + 1, t))) ∧
    ((inn = false ∧ bb = false) ∨ (inn = true ∧ ∃ r c : Nat, row = r ∧ col = c ∧ r < rows ∧ c < cols ∧ modHas M (r * cols + c) = !bb)) := by
  unfold spotG at h
  split at h
  case isFalse => cases h
  rename_i hg
  refine ⟨hg, ?_⟩
  cases inn
  · injection h with h; exact ⟨false, .inl ⟨rfl, h.symm⟩, .inl ⟨rfl, rfl⟩⟩
  · simp only [if_true] at h
    split at h
    · rename_i hc
      have hrc : ∃ r c : Nat, row = r ∧ col = c ∧ r < rows ∧ c < cols ∧ r = row.toNat ∧ c = col.toNat := ⟨row.toNat, col.toNat, (Int.toNat_of_nonneg hc.1).symm, (Int.toNat_of_nonneg hc.2.2.1).symm, by omega, by omega, rfl, rfl⟩
      obtain ⟨r, c, q1, q2, q3, q4, q5, q6⟩ := hrc
      rw [← q5, ← q6] at h
      split at h
      · rename_i hb
        injection h with h
        exact ⟨false, .inl ⟨rfl, h.symm⟩, .inr ⟨rfl, r, c, q1, q2, q3, q4, hb⟩⟩
      · rename_i hb
        unfold wordG at h
        simp only at h
        split at h
        · rename_i hw
          cases hp : putsG modSet rows cols k (utahL row col) 0 M with
          | none => rw [hp] at h; cases h
          | some t =>
            rw [hp] at h
            injection h with h
            exact ⟨true, .inr ⟨rfl, hc.1, hc.2.2.1, hw, t, rfl, h.symm⟩, .inr ⟨rfl, r, c, q1, q2, q3, q4, by simpa using hb⟩⟩
        · cases h
    · cases h
theorem up_bd {n rows cols : Nat} : ∀ (f : Nat) (row col : Int) (s : Nat × Mod) (q : Int × Int) (s' : Nat × Mod), upG modHas modSet n rows cols f row col s = some (q, s') → -10 ≤ q.1 ∧ q.1 ≤ 252 ∧ -10 ≤ q.2 ∧ q.2 ≤ 252
  | 0, _, _, _, _, _, h => by cases h
  | f + 1, row, col, s, q, s', h => by
    rw [upG] at h
    cases hp : spotG modHas modSet (decide (row < rows) && decide (0 ≤ col)) n rows cols row col s with
    | none => rw [hp] at h; cases h
    | some t =>
      rw [hp] at h
      simp only at h
      split at h
      · exact up_bd f _ _ _ _ _ h
      · have hb := (spot_cases (k := s.1) (M := s.2) hp).1
        injection h with h
        injection h with h1 _
        subst h1
        simp only
        omega
theorem down_bd {n rows cols : Nat} : ∀ (f : Nat) (row col : Int) (s : Nat × Mod) (q : Int × Int) (s' : Nat × Mod), downG modHas modSet n rows cols f row col s = some (q, s') → -10 ≤ q.1 ∧ q.1 ≤ 252 ∧ -10 ≤ q.2 ∧ q.2 ≤ 252
  | 0, _, _, _, _, _, h => by cases h
  | f + 1, row, col, s, q, s', h => by
    rw [downG] at h
    cases hp : spotG modHas modSet (decide (0 ≤ row) && decide (col < cols)) n rows cols row col s with
    | none => rw [hp] at h; cases h
    | some t =>
      rw [hp] at h
      simp only at h
      split at h
      · exact down_bd f _ _ _ _ _ h
      · have hb := (spot_cases (k := s.1) (M := s.2) hp).1
        injection h with h
        injection h with h1 _
        subst h1
        simp only
        omega
theorem setBitD_any (p g rows cols : Nat) (cv : Value) (D : Nat → Int) (r c : Nat) (b : Bool) (w : World) (h : PlD w p g rows cols cv D) (hr : r < rows) (hc : c < cols) (hR : rows ≤ 200) (hC : cols ≤ 200) :
    Calls Try.prog 33 #[.pointer (some ⟨p, 0, none⟩), .int .i64 (c : Nat), .int .i64 (r : Nat), .bool b] w fun e w' => e = .returned (.tuple #[]) ∧ PlD w' p g rows cols cv (fun j => if j = r * cols + c then (if b then 1 else 0) else D j) ∧ Kept g w w' := by
  refine (setBit_raw p g rows cols r c (D (r * cols + c)) b w (by rw [h.head.cell]; rfl) (by rw [h.head.cell]; rfl) (by rw [h.bits.cell]; exact dV_at _ _ _ (mul_lt hr hc)) (h.bits.frozen _) hr hc hR hC).mono ?_
  rintro e w' ⟨rfl, rfl⟩
  exact ⟨rfl, h.set _ _, by simp, fun B hB => ((Below.refl _ _).setCell (p := ⟨g, r * cols + c, none⟩) hB _).drew⟩
theorem last_yes {ws : List UInt8} {rows cols : Nat} {M : Mod} (h : modHas M ((rows - 1) * cols + (cols - 1)) = true) : lastD ws rows cols M = fun i => cellM ws (M i) := by
  funext i
  unfold lastD
  rw [h]; simp
theorem last_no {ws : List UInt8} {rows cols : Nat} {M : Mod} (h : modHas M ((rows - 1) * cols + (cols - 1)) = false) : lastD ws rows cols M = fun j => if j = (rows - 2) * cols + (cols - 2) then (if true then 1 else 0) else (fun j => if j = (rows - 1) * cols + (cols - 1) then (if true then 1 else 0) else cellM ws (M j)) j := by
  funext i
  unfold lastD
  rw [h]
  by_cases h1 : i = (rows - 2) * cols + (cols - 2)
  · simp [h1]
  · by_cases h2 : i = (rows - 1) * cols + (cols - 1)
    · simp [h2]
    · simp [h1, h2]
set_option maxRecDepth 100000 in
set_option maxHeartbeats 8000000 in
theorem place_any (p g rows cols n : Nat) (cv : Value) (ws : List UInt8) (M : Mod) (k : Nat) (Me : Mod) (w : World) (h : PlAt w p g rows cols n cv ws M) (hs : sweepG modHas modSet n rows cols (rows + cols) 4 0 (0, M) = some (k, Me)) (hR : rows ≤ 200) (hC : cols ≤ 200) (hR6 : 6 ≤ rows) (hC6 : 6 ≤ cols) (hn : n ≤ 100000) :
    Calls Try.prog 22 #[.pointer (some ⟨p, 0, none⟩)] w fun e w' => e = .returned (.tuple #[]) ∧ PlD w' p g rows cols cv (lastD ws rows cols Me) ∧ Kept g w w' := by
  have HS := Lib.hid hs; have H := Lib.hid h
  clear hs h
  go_enter Try.func22, Try.ntmps22
  go_wp2_with fail
  go_loopg [2, 3, 4] (rows + cols) (fun f pv rv cv' wr => ∃ (word : Nat) (row col : Int) (M1 : Mod), pv = .int .i64 (word : Nat) ∧ rv = .int .i64 row ∧ cv' = .int .i64 col ∧ Hid (sweepG modHas modSet n rows cols f row col (word, M1) = some (k, Me)) ∧ Hid (PlAt wr p g rows cols n cv ws M1 ∧ Kept g w wr))
  case atStart => exact ⟨0, 4, 0, M, rfl, rfl, rfl, HS, Lib.hid ⟨H.out, Kept.refl g w⟩⟩
  case round =>
    obtain ⟨word, row, col, M1, rfl, rfl, rfl, HSW, HP⟩ := hrel
    obtain ⟨f, rfl⟩ : ∃ f', gk = f' + 1 := by
      cases gk with
      | zero => exact absurd HSW.out (by rw [sweepG]; simp)
      | succ f => exact ⟨f, rfl⟩
    have hsw := HSW.out
    rw [sweepG] at hsw
    cases hcor : cornersG modSet n rows cols row col (word, M1) with
    | none => rw [hcor] at hsw; cases hsw
    | some s4 =>
      rw [hcor] at hsw
      simp only at hsw
      unfold cornersG at hcor
      obtain ⟨s1, h1, hcor⟩ := bind_some' hcor
      obtain ⟨s2, h2, hcor⟩ := bind_some' hcor
      obtain ⟨s3, h3, h4⟩ := bind_some' hcor
      obtain ⟨b1, e1⟩ : ∃ b, b = (decide (row = (rows : Int)) && decide (col = 0)) := ⟨_, rfl⟩
      obtain ⟨b2, e2⟩ : ∃ b, b = (decide (row = (rows : Int) - 2) && decide (col = 0) && decide (cols % 4 ≠ 0)) := ⟨_, rfl⟩
      obtain ⟨b3, e3⟩ : ∃ b, b = (decide (row = (rows : Int) - 2) && decide (col = 0) && decide (cols % 8 = 4)) := ⟨_, rfl⟩
      obtain ⟨b4, e4⟩ : ∃ b, b = (decide (row = (rows : Int) + 4) && decide (col = 2) && decide (cols % 8 = 0)) := ⟨_, rfl⟩
      rw [← e1] at h1
      rw [← e2] at h2
      rw [← e3] at h3
      rw [← e4] at h4
      have C1 := Lib.hid (cond_cases h1); have C2 := Lib.hid (cond_cases h2); have C3 := Lib.hid (cond_cases h3); have C4 := Lib.hid (cond_cases h4)
      have E1 := Lib.hid e1; have E2 := Lib.hid e2; have E3 := Lib.hid e3; have E4 := Lib.hid e4
      have HW := Lib.hid hsw
      have hbd : -8 ≤ row ∧ row ≤ 250 ∧ -8 ≤ col ∧ col ≤ 250 := by
        cases hu : upG modHas modSet n rows cols (rows + cols) row col s4 with
        | none => rw [hu] at hsw; cases hsw
        | some t =>
          rw [show rows + cols = (rows + cols - 1) + 1 by omega, upG] at hu
          cases hp : spotG modHas modSet (decide (row < rows) && decide (0 ≤ col)) n rows cols row col s4 with
          | none => rw [hp] at hu; cases hu
          | some t' => exact (spot_cases (k := s4.1) (M := s4.2) hp).1
      obtain ⟨g1, g2, g3, g4⟩ := hbd
      clear h1 h2 h3 h4 e1 e2 e3 e4 hcor hsw HSW
      go_upto_region 3 with fail
      go_cut [2, 3, 4, 14] (fun v2 v3 v4 v14 wx => v2 = .int .i64 (word : Nat) ∧ v3 = .int .i64 row ∧ v4 = .int .i64 col ∧ v14 = .bool b1 ∧ wx = wr)
      case first => as_aux_lemma =>
        have c1 := HP.out.1.rows_
        have c2 := HP.out.1.cols_
        by_cases hA : row = (rows : Int)
        · by_cases hB : col = 0
          · have HE := Lib.hid (show b1 = true by rw [E1.out]; simp [hA, hB])
            have tA : (row == (rows : Int)) = true := by rw [hA]; exact beq_self_eq_true _
            have tB : (col == 0) = true := by rw [hB]; exact beq_self_eq_true _
            clear hA hB
            go_wp2_with fail
            go_meet
            exact ⟨rfl, rfl, rfl, by rw [HE.out], rfl⟩
          · have HE := Lib.hid (show b1 = false by rw [E1.out]; simp [hA, hB])
            have tA : (row == (rows : Int)) = true := by rw [hA]; exact beq_self_eq_true _
            have tB : (col == 0) = false := by rw [beq_eq_false_iff_ne]; exact hB
            clear hA hB
            go_wp2_with fail
            go_meet
            exact ⟨rfl, rfl, rfl, by rw [HE.out], rfl⟩
        · have HE := Lib.hid (show b1 = false by rw [E1.out]; simp [hA])
          have tA : (row == (rows : Int)) = false := by rw [beq_eq_false_iff_ne]; exact hA
          clear hA
          go_wp2_with fail
          go_meet
          exact ⟨rfl, rfl, rfl, by rw [HE.out], rfl⟩
      case rest =>
        obtain ⟨rfl, rfl, rfl, rfl, rfl⟩ := hcut
        go_upto_if 14 with fail
        go_cut [2, 3, 4] (fun v2 v3 v4 wx => v2 = .int .i64 (s1.1 : Nat) ∧ v3 = .int .i64 row ∧ v4 = .int .i64 col ∧ Hid (PlAt wx p g rows cols n cv ws s1.2 ∧ Kept g w wx))
        case first => as_aux_lemma =>
          rcases C1.out with ⟨hf, hs⟩ | ⟨ht, hw, t, hp, hs⟩
          · have HX : Hid (s1.1 = word ∧ s1.2 = M1) := Lib.hid (by rw [hs]; exact ⟨rfl, rfl⟩)
            clear hs E1
            subst hf
            go_wp2_with fail
            go_meet
            exact ⟨by rw [HX.out.1], rfl, rfl, Lib.hid (by rw [HX.out.2]; exact HP.out)⟩
          · have HX : Hid (s1.1 = word + 1 ∧ s1.2 = t) := Lib.hid (by rw [hs]; exact ⟨rfl, rfl⟩)
            have HPT := Lib.hid hp
            clear hs hp E1
            subst ht
            go_wp2_with fail
            refine (corner1_any p g rows cols n cv ws _ t (word) _ HP.out.1 HPT.out hw hR hC hR6 hC6).mono ?_
            rintro e w9 ⟨rfl, q1, q2⟩
            have HQ := Lib.hid (And.intro q1 (HP.out.2.trans q2)); clear q1 q2
            have hw2 : word ≤ 100000 := by omega
            go_wp2_with fail
            go_meet
            exact ⟨by rw [HX.out.1]; go_num, rfl, rfl, Lib.hid (by rw [HX.out.2]; exact HQ.out)⟩
        case rest =>
          rename World => wc1
          clear HP C1
          obtain ⟨rfl, rfl, rfl, HP1⟩ := hcut
          go_upto_region 6 with fail
          go_cut [2, 3, 4, 38] (fun v2 v3 v4 v14 wx => v2 = .int .i64 (s1.1 : Nat) ∧ v3 = .int .i64 row ∧ v4 = .int .i64 col ∧ v14 = .bool b2 ∧ wx = wc1)
          case first => as_aux_lemma =>
            have c1 := HP1.out.1.rows_
            have c2 := HP1.out.1.cols_
            by_cases hA : row = (rows : Int) - 2
            · by_cases hB : col = 0
              · by_cases hD : cols % 4 ≠ 0
                · have HE := Lib.hid (show b2 = true by rw [E2.out]; simp [hA, hB, hD])
                  have tA : (row == (rows : Int) - 2) = true := by rw [hA]; exact beq_self_eq_true _
                  have tB : (col == 0) = true := by rw [hB]; exact beq_self_eq_true _
                  have tD : ((cols : Int) % 4 != 0) = true := by simp; omega
                  clear hA hB hD
                  go_wp2_with fail
                  go_meet
                  exact ⟨rfl, rfl, rfl, by rw [HE.out], rfl⟩
                · have HE := Lib.hid (show b2 = false by rw [E2.out]; simp [hA, hB, hD])
                  have tA : (row == (rows : Int) - 2) = true := by rw [hA]; exact beq_self_eq_true _
                  have tB : (col == 0) = true := by rw [hB]; exact beq_self_eq_true _
                  have tD : ((cols : Int) % 4 != 0) = false := by simp; omega
                  clear hA hB hD
                  go_wp2_with fail
                  go_meet
                  exact ⟨rfl, rfl, rfl, by rw [HE.out], rfl⟩
              · have HE := Lib.hid (show b2 = false by rw [E2.out]; simp [hA, hB])
                have tA : (row == (rows : Int) - 2) = true := by rw [hA]; exact beq_self_eq_true _
                have tB : (col == 0) = false := by rw [beq_eq_false_iff_ne]; exact hB
                clear hA hB
                go_wp2_with fail
                go_meet
                exact ⟨rfl, rfl, rfl, by rw [HE.out], rfl⟩
            · have HE := Lib.hid (show b2 = false by rw [E2.out]; simp [hA])
              have tA : (row == (rows : Int) - 2) = false := by rw [beq_eq_false_iff_ne]; exact hA
              clear hA
              go_wp2_with fail
              go_meet
              exact ⟨rfl, rfl, rfl, by rw [HE.out], rfl⟩
          case rest =>
            obtain ⟨rfl, rfl, rfl, rfl, rfl⟩ := hcut
            go_upto_if 38 with fail
            go_cut [2, 3, 4] (fun v2 v3 v4 wx => v2 = .int .i64 (s2.1 : Nat) ∧ v3 = .int .i64 row ∧ v4 = .int .i64 col ∧ Hid (PlAt wx p g rows cols n cv ws s2.2 ∧ Kept g w wx))
            case first => as_aux_lemma =>
              rcases C2.out with ⟨hf, hs⟩ | ⟨ht, hw, t, hp, hs⟩
              · have HX : Hid (s2.1 = s1.1 ∧ s2.2 = s1.2) := Lib.hid (by rw [hs]; exact ⟨rfl, rfl⟩)
                clear hs E2
                subst hf
                go_wp2_with fail
                go_meet
                exact ⟨by rw [HX.out.1], rfl, rfl, Lib.hid (by rw [HX.out.2]; exact HP1.out)⟩
              · have HX : Hid (s2.1 = s1.1 + 1 ∧ s2.2 = t) := Lib.hid (by rw [hs]; exact ⟨rfl, rfl⟩)
                have HPT := Lib.hid hp
                clear hs hp E2
                subst ht
                go_wp2_with fail
                refine (corner2_any p g rows cols n cv ws _ t (s1.1) _ HP1.out.1 HPT.out hw hR hC hR6 hC6).mono ?_
                rintro e w9 ⟨rfl, q1, q2⟩
                have HQ := Lib.hid (And.intro q1 (HP1.out.2.trans q2)); clear q1 q2
                have hw2 : s1.1 ≤ 100000 := by omega
                go_wp2_with fail
                go_meet
                exact ⟨by rw [HX.out.1]; go_num, rfl, rfl, Lib.hid (by rw [HX.out.2]; exact HQ.out)⟩
            case rest =>
              rename World => wc2
              clear HP1 C2
              obtain ⟨rfl, rfl, rfl, HP2⟩ := hcut
              go_upto_region 9 with fail
              go_cut [2, 3, 4, 62] (fun v2 v3 v4 v14 wx => v2 = .int .i64 (s2.1 : Nat) ∧ v3 = .int .i64 row ∧ v4 = .int .i64 col ∧ v14 = .bool b3 ∧ wx = wc2)
              case first => as_aux_lemma =>
                have c1 := HP2.out.1.rows_
                have c2 := HP2.out.1.cols_
                by_cases hA : row = (rows : Int) - 2
                · by_cases hB : col = 0
                  · by_cases hD : cols % 8 = 4
                    · have HE := Lib.hid (show b3 = true by rw [E3.out]; simp [hA, hB, hD])
                      have tA : (row == (rows : Int) - 2) = true := by rw [hA]; exact beq_self_eq_true _
                      have tB : (col == 0) = true := by rw [hB]; exact beq_self_eq_true _
                      have tD : ((cols : Int) % 8 == 4) = true := by simp; omega
                      clear hA hB hD
                      go_wp2_with fail
                      go_meet
                      exact ⟨rfl, rfl, rfl, by rw [HE.out], rfl⟩
                    · have HE := Lib.hid (show b3 = false by rw [E3.out]; simp [hA, hB, hD])
                      have tA : (row == (rows : Int) - 2) = true := by rw [hA]; exact beq_self_eq_true _
                      have tB : (col == 0) = true := by rw [hB]; exact beq_self_eq_true _
                      have tD : ((cols : Int) % 8 == 4) = false := by simp; omega
                      clear hA hB hD
                      go_wp2_with fail
                      go_meet
                      exact ⟨rfl, rfl, rfl, by rw [HE.out], rfl⟩
                  · have HE := Lib.hid (show b3 = false by rw [E3.out]; simp [hA, hB])
                    have tA : (row == (rows : Int) - 2) = true := by rw [hA]; exact beq_self_eq_true _
                    have tB : (col == 0) = false := by rw [beq_eq_false_iff_ne]; exact hB
                    clear hA hB
                    go_wp2_with fail
                    go_meet
                    exact ⟨rfl, rfl, rfl, by rw [HE.out], rfl⟩
                · have HE := Lib.hid (show b3 = false by rw [E3.out]; simp [hA])
                  have tA : (row == (rows : Int) - 2) = false := by rw [beq_eq_false_iff_ne]; exact hA
                  clear hA
                  go_wp2_with fail
                  go_meet
                  exact ⟨rfl, rfl, rfl, by rw [HE.out], rfl⟩
              case rest =>
                obtain ⟨rfl, rfl, rfl, rfl, rfl⟩ := hcut
                go_upto_if 62 with fail
                go_cut [2, 3, 4] (fun v2 v3 v4 wx => v2 = .int .i64 (s3.1 : Nat) ∧ v3 = .int .i64 row ∧ v4 = .int .i64 col ∧ Hid (PlAt wx p g rows cols n cv ws s3.2 ∧ Kept g w wx))
                case first => as_aux_lemma =>
                  rcases C3.out with ⟨hf, hs⟩ | ⟨ht, hw, t, hp, hs⟩
                  · have HX : Hid (s3.1 = s2.1 ∧ s3.2 = s2.2) := Lib.hid (by rw [hs]; exact ⟨rfl, rfl⟩)
                    clear hs E3
                    subst hf
                    go_wp2_with fail
                    go_meet
                    exact ⟨by rw [HX.out.1], rfl, rfl, Lib.hid (by rw [HX.out.2]; exact HP2.out)⟩
                  · have HX : Hid (s3.1 = s2.1 + 1 ∧ s3.2 = t) := Lib.hid (by rw [hs]; exact ⟨rfl, rfl⟩)
                    have HPT := Lib.hid hp
                    clear hs hp E3
                    subst ht
                    go_wp2_with fail
                    refine (corner3_any p g rows cols n cv ws _ t (s2.1) _ HP2.out.1 HPT.out hw hR hC hR6 hC6).mono ?_
                    rintro e w9 ⟨rfl, q1, q2⟩
                    have HQ := Lib.hid (And.intro q1 (HP2.out.2.trans q2)); clear q1 q2
                    have hw2 : s2.1 ≤ 100000 := by omega
                    go_wp2_with fail
                    go_meet
                    exact ⟨by rw [HX.out.1]; go_num, rfl, rfl, Lib.hid (by rw [HX.out.2]; exact HQ.out)⟩
                case rest =>
                  rename World => wc3
                  clear HP2 C3
                  obtain ⟨rfl, rfl, rfl, HP3⟩ := hcut
                  go_upto_region 12 with fail
                  go_cut [2, 3, 4, 86] (fun v2 v3 v4 v14 wx => v2 = .int .i64 (s3.1 : Nat) ∧ v3 = .int .i64 row ∧ v4 = .int .i64 col ∧ v14 = .bool b4 ∧ wx = wc3)
                  case first => as_aux_lemma =>
                    have c1 := HP3.out.1.rows_
                    have c2 := HP3.out.1.cols_
                    by_cases hA : row = (rows : Int) + 4
                    · by_cases hB : col = 2
                      · by_cases hD : cols % 8 = 0
                        · have HE := Lib.hid (show b4 = true by rw [E4.out]; simp [hA, hB, hD])
                          have tA : (row == (rows : Int) + 4) = true := by rw [hA]; exact beq_self_eq_true _
                          have tB : (col == 2) = true := by rw [hB]; exact beq_self_eq_true _
                          have tD : ((cols : Int) % 8 == 0) = true := by simp; omega
                          clear hA hB hD
                          go_wp2_with fail
                          go_meet
                          exact ⟨rfl, rfl, rfl, by rw [HE.out], rfl⟩
                        · have HE := Lib.hid (show b4 = false by rw [E4.out]; simp [hA, hB, hD])
                          have tA : (row == (rows : Int) + 4) = true := by rw [hA]; exact beq_self_eq_true _
                          have tB : (col == 2) = true := by rw [hB]; exact beq_self_eq_true _
                          have tD : ((cols : Int) % 8 == 0) = false := by simp; omega
                          clear hA hB hD
                          go_wp2_with fail
                          go_meet
                          exact ⟨rfl, rfl, rfl, by rw [HE.out], rfl⟩
                      · have HE := Lib.hid (show b4 = false by rw [E4.out]; simp [hA, hB])
                        have tA : (row == (rows : Int) + 4) = true := by rw [hA]; exact beq_self_eq_true _
                        have tB : (col == 2) = false := by rw [beq_eq_false_iff_ne]; exact hB
                        clear hA hB
                        go_wp2_with fail
                        go_meet
                        exact ⟨rfl, rfl, rfl, by rw [HE.out], rfl⟩
                    · have HE := Lib.hid (show b4 = false by rw [E4.out]; simp [hA])
                      have tA : (row == (rows : Int) + 4) = false := by rw [beq_eq_false_iff_ne]; exact hA
                      clear hA
                      go_wp2_with fail
                      go_meet
                      exact ⟨rfl, rfl, rfl, by rw [HE.out], rfl⟩
                  case rest =>
                    obtain ⟨rfl, rfl, rfl, rfl, rfl⟩ := hcut
                    go_upto_if 86 with fail
                    go_cut [2, 3, 4] (fun v2 v3 v4 wx => v2 = .int .i64 (s4.1 : Nat) ∧ v3 = .int .i64 row ∧ v4 = .int .i64 col ∧ Hid (PlAt wx p g rows cols n cv ws s4.2 ∧ Kept g w wx))
                    case first => as_aux_lemma =>
                      rcases C4.out with ⟨hf, hs⟩ | ⟨ht, hw, t, hp, hs⟩
                      · have HX : Hid (s4.1 = s3.1 ∧ s4.2 = s3.2) := Lib.hid (by rw [hs]; exact ⟨rfl, rfl⟩)
                        clear hs E4
                        subst hf
                        go_wp2_with fail
                        go_meet
                        exact ⟨by rw [HX.out.1], rfl, rfl, Lib.hid (by rw [HX.out.2]; exact HP3.out)⟩
                      · have HX : Hid (s4.1 = s3.1 + 1 ∧ s4.2 = t) := Lib.hid (by rw [hs]; exact ⟨rfl, rfl⟩)
                        have HPT := Lib.hid hp
                        clear hs hp E4
                        subst ht
                        go_wp2_with fail
                        refine (corner4_any p g rows cols n cv ws _ t (s3.1) _ HP3.out.1 HPT.out hw hR hC hR6 hC6).mono ?_
                        rintro e w9 ⟨rfl, q1, q2⟩
                        have HQ := Lib.hid (And.intro q1 (HP3.out.2.trans q2)); clear q1 q2
                        have hw2 : s3.1 ≤ 100000 := by omega
                        go_wp2_with fail
                        go_meet
                        exact ⟨by rw [HX.out.1]; go_num, rfl, rfl, Lib.hid (by rw [HX.out.2]; exact HQ.out)⟩
                    case rest =>
                      rename World => wc4
                      clear HP3 C4
                      obtain ⟨rfl, rfl, rfl, HP4⟩ := hcut
                        -- PLACE-B
                      cases hu : upG modHas modSet n rows cols (rows + cols) row col s4 with
                      | none => exact absurd HW.out (by rw [hu]; simp)
                      | some t =>
                        obtain ⟨pq, s5⟩ := t
                        have hw := HW.out
                        rw [hu] at hw
                        simp only at hw
                        clear HW
                        have HW := Lib.hid hw
                        have HU := Lib.hid hu
                        clear hu hw
                        go_upto_block 2 with fail
                        go_cut [2, 3, 4] (fun v2 v3 v4 wx => v2 = .int .i64 (s5.1 : Nat) ∧ v3 = .int .i64 pq.1 ∧ v4 = .int .i64 pq.2 ∧ Hid (PlAt wx p g rows cols n cv ws s5.2 ∧ Kept g w wx))
                        case first => as_aux_lemma =>
                          go_wp2_with fail
                          go_loopg [2, 3, 4] (rows + cols) (fun f2 pv rv qv wr => ∃ (wd : Nat) (r2 c2 : Int) (M2 : Mod), pv = .int .i64 (wd : Nat) ∧ rv = .int .i64 r2 ∧ qv = .int .i64 c2 ∧ Hid (upG modHas modSet n rows cols f2 r2 c2 (wd, M2) = some (pq, s5)) ∧ Hid (PlAt wr p g rows cols n cv ws M2 ∧ Kept g w wr))
                          case atStart => exact ⟨s4.1, row, col, s4.2, rfl, rfl, rfl, HU, HP4⟩
                          case round =>
                            clear HU HP4
                            rename World => wu
                            obtain ⟨wd, r2, c2, M2, rfl, rfl, rfl, HUP, HPU⟩ := hrel
                            obtain ⟨f2, rfl⟩ : ∃ f', gk = f' + 1 := by
                              cases gk with
                              | zero => exact absurd HUP.out (by rw [upG]; simp)
                              | succ f => exact ⟨f, rfl⟩
                            have hup := HUP.out
                            rw [upG] at hup
                            clear HUP
                            cases hsp : spotG modHas modSet (decide (r2 < rows) && decide (0 ≤ c2)) n rows cols r2 c2 (wd, M2) with
                            | none => rw [hsp] at hup; cases hup
                            | some s6 =>
                              rw [hsp] at hup
                              simp only at hup
                              have HUP := Lib.hid hup; clear hup
                              obtain ⟨⟨q1, q2, q3, q4⟩, bb, hcase, hwhy⟩ := spot_cases hsp
                              have HCASE := Lib.hid hcase; have HWHY := Lib.hid hwhy
                              clear hsp hcase hwhy
                              go_upto_region 15 with fail
                              go_cut [2, 3, 4, 108] (fun v2 v3 v4 v14 wx => v2 = .int .i64 (wd : Nat) ∧ v3 = .int .i64 r2 ∧ v4 = .int .i64 c2 ∧ v14 = .bool bb ∧ Hid (PlAt wx p g rows cols n cv ws M2 ∧ Kept g w wx))
                              case first => as_aux_lemma =>
                                have c1 := HPU.out.1.rows_
                                have c2' := HPU.out.1.cols_
                                rcases HWHY.out with ⟨hin, hb⟩ | ⟨hin, ra, ca, hr1, hr2, hr3, hr4, hhas⟩
                                · subst hb
                                  clear HCASE
                                  by_cases hA : r2 < rows
                                  · have hB : ¬ 0 ≤ c2 := fun hB => by simp [hA, hB] at hin
                                    clear hin
                                    go_wp2_with fail
                                    go_meet
                                    exact ⟨rfl, rfl, rfl, rfl, HPU⟩
                                  · clear hin
                                    go_wp2_with fail
                                    go_meet
                                    exact ⟨rfl, rfl, rfl, rfl, HPU⟩
                                · subst hr1 hr2
                                  clear hin
                                  have HH := Lib.hid hhas; clear hhas
                                  go_wp2_with fail
                                  refine (hasBit_any p g rows cols n cv ws M2 ra ca _ HPU.out.1 hr3 hr4 hR hC).mono ?_
                                  rintro e w8 ⟨rfl, z1, z2⟩
                                  have HPV := Lib.hid (And.intro (HPU.out.1.up z1) (HPU.out.2.trans z2)); clear z1 z2
                                  rw [HH.out]
                                  cases bb
                                  · go_wp2_with fail
                                    go_meet
                                    exact ⟨rfl, rfl, rfl, rfl, HPV⟩
                                  · go_wp2_with fail
                                    go_meet
                                    exact ⟨rfl, rfl, rfl, rfl, HPV⟩
                              case rest =>
                                clear HPU HWHY
                                rename World => wc5
                                obtain ⟨rfl, rfl, rfl, rfl, HPU⟩ := hcut
                                go_upto_if 108 with fail
                                go_cut [2, 3, 4] (fun v2 v3 v4 wx => v2 = .int .i64 (s6.1 : Nat) ∧ v3 = .int .i64 r2 ∧ v4 = .int .i64 c2 ∧ Hid (PlAt wx p g rows cols n cv ws s6.2 ∧ Kept g w wx))
                                case first => as_aux_lemma =>
                                  rcases HCASE.out with ⟨hf, hs⟩ | ⟨ht, hz1, hz2, hw, t, hp, hs⟩
                                  · have HX : Hid (s6.1 = wd ∧ s6.2 = M2) := Lib.hid (by rw [hs]; exact ⟨rfl, rfl⟩)
                                    clear hs
                                    subst hf
                                    go_wp2_with fail
                                    go_meet
                                    exact ⟨by rw [HX.out.1], rfl, rfl, Lib.hid (by rw [HX.out.2]; exact HPU.out)⟩
                                  · have HX : Hid (s6.1 = wd + 1 ∧ s6.2 = t) := Lib.hid (by rw [hs]; exact ⟨rfl, rfl⟩)
                                    have HPT := Lib.hid hp
                                    clear hs hp
                                    subst ht
                                    go_wp2_with fail
                                    refine (utah_any p g rows cols n cv ws _ t r2 c2 wd _ HPU.out.1 HPT.out hw hR hC ⟨hz1, by omega⟩ ⟨hz2, by omega⟩).mono ?_
                                    rintro e w9 ⟨rfl, z1, z2⟩
                                    have HQ := Lib.hid (And.intro z1 (HPU.out.2.trans z2)); clear z1 z2
                                    have hw2 : wd ≤ 100000 := by omega
                                    go_wp2_with fail
                                    go_meet
                                    exact ⟨by rw [HX.out.1]; go_num, rfl, rfl, Lib.hid (by rw [HX.out.2]; exact HQ.out)⟩
                                case rest =>
                                  clear HPU HCASE
                                  rename World => wc6
                                  obtain ⟨rfl, rfl, rfl, HPU⟩ := hcut
                                  have c1 := HPU.out.1.rows_
                                  have c2' := HPU.out.1.cols_
                                  by_cases hcont : 0 ≤ r2 - 2 ∧ c2 + 2 < cols
                                  · have hup := HUP.out
                                    rw [if_pos hcont] at hup
                                    have HUN := Lib.hid hup
                                    clear hup HUP
                                    obtain ⟨hz1, hz2⟩ := hcont
                                    go_wp2_with fail
                                    go_roundg f2
                                    case rel => exact ⟨s6.1, r2 - 2, c2 + 2, s6.2, rfl, rfl, rfl, HUN, HPU⟩
                                    case measure => omega
                                  · have hup := HUP.out
                                    rw [if_neg hcont] at hup
                                    have HX : Hid (pq = (r2 - 2, c2 + 2) ∧ s5 = s6) := Lib.hid (by injection hup with hup; injection hup with e1 e2; exact ⟨e1.symm, e2.symm⟩)
                                    clear hup HUP
                                    by_cases hz : r2 - 2 < 0
                                    · go_wp2_with fail
                                      go_meet
                                      exact ⟨by rw [HX.out.2], by rw [HX.out.1], by rw [HX.out.1], Lib.hid (by rw [HX.out.2]; exact HPU.out)⟩
                                    · have hz2 : (cols : Int) ≤ c2 + 2 := by omega
                                      clear hcont
                                      go_wp2_with fail
                                      go_meet
                                      exact ⟨by rw [HX.out.2], by rw [HX.out.1], by rw [HX.out.1], Lib.hid (by rw [HX.out.2]; exact HPU.out)⟩
                        case rest =>
                          have HUB := HU
                          clear HU HP4
                          rename World => wc7
                          obtain ⟨rfl, rfl, rfl, HP5⟩ := hcut
                          obtain ⟨y1, y2, y3, y4⟩ := up_bd _ _ _ _ _ _ HUB.out
                          clear HUB
                          cases hu : downG modHas modSet n rows cols (rows + cols) (pq.1 + 1) (pq.2 + 3) s5 with
                          | none => exact absurd HW.out (by rw [hu]; simp)
                          | some t =>
                            obtain ⟨pr, s7⟩ := t
                            have hw := HW.out
                            rw [hu] at hw
                            simp only at hw
                            clear HW
                            have HW := Lib.hid hw
                            have HU := Lib.hid hu
                            clear hu hw
                            go_upto_block 4 with fail
                            go_cut [2, 3, 4] (fun v2 v3 v4 wx => v2 = .int .i64 (s7.1 : Nat) ∧ v3 = .int .i64 pr.1 ∧ v4 = .int .i64 pr.2 ∧ Hid (PlAt wx p g rows cols n cv ws s7.2 ∧ Kept g w wx))
                            case first => as_aux_lemma =>
                              go_wp2_with fail
                              go_loopg [2, 3, 4] (rows + cols) (fun f2 pv rv qv wr => ∃ (wd : Nat) (r2 c2 : Int) (M2 : Mod), pv = .int .i64 (wd : Nat) ∧ rv = .int .i64 r2 ∧ qv = .int .i64 c2 ∧ Hid (downG modHas modSet n rows cols f2 r2 c2 (wd, M2) = some (pr, s7)) ∧ Hid (PlAt wr p g rows cols n cv ws M2 ∧ Kept g w wr))
                              case atStart => exact ⟨s5.1, (pq.1 + 1), (pq.2 + 3), s5.2, rfl, rfl, rfl, HU, HP5⟩
                              case round =>
                                clear HU HP5
                                rename World => wv
                                obtain ⟨wd, r2, c2, M2, rfl, rfl, rfl, HUP, HPU⟩ := hrel
                                obtain ⟨f2, rfl⟩ : ∃ f', gk = f' + 1 := by
                                  cases gk with
                                  | zero => exact absurd HUP.out (by rw [downG]; simp)
                                  | succ f => exact ⟨f, rfl⟩
                                have hup := HUP.out
                                rw [downG] at hup
                                clear HUP
                                cases hsp : spotG modHas modSet (decide (0 ≤ r2) && decide (c2 < cols)) n rows cols r2 c2 (wd, M2) with
                                | none => rw [hsp] at hup; cases hup
                                | some s6 =>
                                  rw [hsp] at hup
                                  simp only at hup
                                  have HUP := Lib.hid hup; clear hup
                                  obtain ⟨⟨q1, q2, q3, q4⟩, bb, hcase, hwhy⟩ := spot_cases hsp
                                  have HCASE := Lib.hid hcase; have HWHY := Lib.hid hwhy
                                  clear hsp hcase hwhy
                                  go_upto_region 23 with fail
                                  go_cut [2, 3, 4, 150] (fun v2 v3 v4 v14 wx => v2 = .int .i64 (wd : Nat) ∧ v3 = .int .i64 r2 ∧ v4 = .int .i64 c2 ∧ v14 = .bool bb ∧ Hid (PlAt wx p g rows cols n cv ws M2 ∧ Kept g w wx))
                                  case first => as_aux_lemma =>
                                    have c1 := HPU.out.1.rows_
                                    have c2' := HPU.out.1.cols_
                                    rcases HWHY.out with ⟨hin, hb⟩ | ⟨hin, ra, ca, hr1, hr2, hr3, hr4, hhas⟩
                                    · subst hb
                                      clear HCASE
                                      by_cases hA : 0 ≤ r2
                                      · have hB : ¬ c2 < cols := fun hB => by simp [hA, hB] at hin
                                        clear hin
                                        go_wp2_with fail
                                        go_meet
                                        exact ⟨rfl, rfl, rfl, rfl, HPU⟩
                                      · clear hin
                                        go_wp2_with fail
                                        go_meet
                                        exact ⟨rfl, rfl, rfl, rfl, HPU⟩
                                    · subst hr1 hr2
                                      clear hin
                                      have HH := Lib.hid hhas; clear hhas
                                      go_wp2_with fail
                                      refine (hasBit_any p g rows cols n cv ws M2 ra ca _ HPU.out.1 hr3 hr4 hR hC).mono ?_
                                      rintro e w8 ⟨rfl, z1, z2⟩
                                      have HPV := Lib.hid (And.intro (HPU.out.1.up z1) (HPU.out.2.trans z2)); clear z1 z2
                                      rw [HH.out]
                                      cases bb
                                      · go_wp2_with fail
                                        go_meet
                                        exact ⟨rfl, rfl, rfl, rfl, HPV⟩
                                      · go_wp2_with fail
                                        go_meet
                                        exact ⟨rfl, rfl, rfl, rfl, HPV⟩
                                  case rest =>
                                    clear HPU HWHY
                                    rename World => wc5
                                    obtain ⟨rfl, rfl, rfl, rfl, HPU⟩ := hcut
                                    go_upto_if 150 with fail
                                    go_cut [2, 3, 4] (fun v2 v3 v4 wx => v2 = .int .i64 (s6.1 : Nat) ∧ v3 = .int .i64 r2 ∧ v4 = .int .i64 c2 ∧ Hid (PlAt wx p g rows cols n cv ws s6.2 ∧ Kept g w wx))
                                    case first => as_aux_lemma =>
                                      rcases HCASE.out with ⟨hf, hs⟩ | ⟨ht, hz1, hz2, hw, t, hp, hs⟩
                                      · have HX : Hid (s6.1 = wd ∧ s6.2 = M2) := Lib.hid (by rw [hs]; exact ⟨rfl, rfl⟩)
                                        clear hs
                                        subst hf
                                        go_wp2_with fail
                                        go_meet
                                        exact ⟨by rw [HX.out.1], rfl, rfl, Lib.hid (by rw [HX.out.2]; exact HPU.out)⟩
                                      · have HX : Hid (s6.1 = wd + 1 ∧ s6.2 = t) := Lib.hid (by rw [hs]; exact ⟨rfl, rfl⟩)
                                        have HPT := Lib.hid hp
                                        clear hs hp
                                        subst ht
                                        go_wp2_with fail
                                        refine (utah_any p g rows cols n cv ws _ t r2 c2 wd _ HPU.out.1 HPT.out hw hR hC ⟨hz1, by omega⟩ ⟨hz2, by omega⟩).mono ?_
                                        rintro e w9 ⟨rfl, z1, z2⟩
                                        have HQ := Lib.hid (And.intro z1 (HPU.out.2.trans z2)); clear z1 z2
                                        have hw2 : wd ≤ 100000 := by omega
                                        go_wp2_with fail
                                        go_meet
                                        exact ⟨by rw [HX.out.1]; go_num, rfl, rfl, Lib.hid (by rw [HX.out.2]; exact HQ.out)⟩
                                    case rest =>
                                      clear HPU HCASE
                                      rename World => wc6
                                      obtain ⟨rfl, rfl, rfl, HPU⟩ := hcut
                                      have c1 := HPU.out.1.rows_
                                      have c2' := HPU.out.1.cols_
                                      by_cases hcont : r2 + 2 < rows ∧ 0 ≤ c2 - 2
                                      · have hup := HUP.out
                                        rw [if_pos hcont] at hup
                                        have HUN := Lib.hid hup
                                        clear hup HUP
                                        obtain ⟨hz1, hz2⟩ := hcont
                                        go_wp2_with fail
                                        go_roundg f2
                                        case rel => exact ⟨s6.1, r2 + 2, c2 - 2, s6.2, rfl, rfl, rfl, HUN, HPU⟩
                                        case measure => omega
                                      · have hup := HUP.out
                                        rw [if_neg hcont] at hup
                                        have HX : Hid (pr = (r2 + 2, c2 - 2) ∧ s7 = s6) := Lib.hid (by injection hup with hup; injection hup with e1 e2; exact ⟨e1.symm, e2.symm⟩)
                                        clear hup HUP
                                        by_cases hz : (rows : Int) ≤ r2 + 2
                                        · go_wp2_with fail
                                          go_meet
                                          exact ⟨by rw [HX.out.2], by rw [HX.out.1], by rw [HX.out.1], Lib.hid (by rw [HX.out.2]; exact HPU.out)⟩
                                        · have hz2 : c2 - 2 < 0 := by omega
                                          clear hcont
                                          go_wp2_with fail
                                          go_meet
                                          exact ⟨by rw [HX.out.2], by rw [HX.out.1], by rw [HX.out.1], Lib.hid (by rw [HX.out.2]; exact HPU.out)⟩
                            case rest =>
                              have HUB := HU
                              clear HU HP5
                              rename World => wc8
                              obtain ⟨rfl, rfl, rfl, HP7⟩ := hcut
                              obtain ⟨y5, y6, y7, y8⟩ := down_bd _ _ _ _ _ _ HUB.out
                              clear HUB
                              have c1 := HP7.out.1.rows_
                              have c2' := HP7.out.1.cols_
                              by_cases hcont : pr.1 + 3 < rows ∨ pr.2 + 1 < cols
                              · have hup := HW.out
                                rw [if_pos hcont] at hup
                                have HUN := Lib.hid hup
                                clear hup HW
                                by_cases hz : pr.1 + 3 < rows
                                · clear hcont
                                  go_wp2_with fail
                                  go_roundg f
                                  case rel => exact ⟨s7.1, pr.1 + 3, pr.2 + 1, s7.2, rfl, rfl, rfl, HUN, HP7⟩
                                  case measure => omega
                                · have hz2 : pr.2 + 1 < cols := by omega
                                  clear hcont
                                  go_wp2_with fail
                                  go_roundg f
                                  case rel => exact ⟨s7.1, pr.1 + 3, pr.2 + 1, s7.2, rfl, rfl, rfl, HUN, HP7⟩
                                  case measure => omega
                              · have hup := HW.out
                                rw [if_neg hcont] at hup
                                have HX : Hid (s7.2 = Me) := Lib.hid (by injection hup with hup; rw [hup])
                                have hz1 : (rows : Int) ≤ pr.1 + 3 := by omega
                                have hz2 : (cols : Int) ≤ pr.2 + 1 := by omega
                                have HPE : Hid (PlAt wc8 p g rows cols n cv ws Me ∧ Kept g w wc8) := Lib.hid (by rw [← HX.out]; exact HP7.out)
                                clear hup HW hcont HX HP7
                                go_wp2_with fail
                                obtain ⟨R1, o1⟩ : ∃ x, x = rows - 1 := ⟨_, rfl⟩
                                obtain ⟨K1, o2⟩ : ∃ x, x = cols - 1 := ⟨_, rfl⟩
                                obtain ⟨R2, o3⟩ : ∃ x, x = rows - 2 := ⟨_, rfl⟩
                                obtain ⟨K2, o4⟩ : ∃ x, x = cols - 2 := ⟨_, rfl⟩
                                have x1 : (rows : Int) - 1 = (R1 : Int) := by omega
                                have x2 : (cols : Int) - 1 = (K1 : Int) := by omega
                                have x3 : (rows : Int) - 2 = (R2 : Int) := by omega
                                have x4 : (cols : Int) - 2 = (K2 : Int) := by omega
                                have d1 : R1 < rows := by omega
                                have d2 : K1 < cols := by omega
                                have d3 : R2 < rows := by omega
                                have d4 : K2 < cols := by omega
                                have v1 : IntKind.i64.wrap (R1 : Int) = (R1 : Int) := by rw [IntKind.wrap_i64]; omega
                                have v2 : IntKind.i64.wrap (K1 : Int) = (K1 : Int) := by rw [IntKind.wrap_i64]; omega
                                have v3 : IntKind.i64.wrap (R2 : Int) = (R2 : Int) := by rw [IntKind.wrap_i64]; omega
                                have v4 : IntKind.i64.wrap (K2 : Int) = (K2 : Int) := by rw [IntKind.wrap_i64]; omega
                                obtain ⟨bb, hbb⟩ : ∃ b, b = modHas Me (R1 * cols + K1) := ⟨_, rfl⟩
                                have hcall := fun a ha => hasBit_any p g rows cols n cv ws Me R1 K1 a ha d1 d2 hR hC
                                rw [← hbb] at hcall
                                have HCALL := Lib.hid hcall
                                have HBB := Lib.hid hbb
                                have HO := Lib.hid (And.intro o1 (And.intro o2 (And.intro o3 o4)))
                                clear hcall hbb o1 o2 o3 o4 hz1 hz2
                                refine Can.wp_region_can (fun w' => w'.cell? ⟨p, 1, none⟩ = some (.int .i64 rows) ∧ w'.cell? ⟨p, 2, none⟩ = some (.int .i64 cols)) 999 [0, 1, 2, 3, 4, 5, 6, 7, 8, 9, 10, 11, 12] (by kernel_rfl) (by kernel_rfl) (fun _ _ d _ _ h => by cases d <;> exact h) ⟨c1, c2'⟩ (fun hHeld => ?_)
                                repeat (refine Can.can_pure (v := ?_) rfl rfl (Or.inl ⟨by rfl, ?_⟩) ?_; rotate_left; (focus ((intro w hSw); (try dsimp only at hSw); go_simp; (try with_reducible rfl))); (try simp only [Act.put, List.getElem_toArray, List.getElem_cons_succ, List.getElem_cons_zero, List.setIfInBounds_toArray, List.set_cons_zero, List.set_cons_succ]))
                                refine Can.can_eff rfl rfl (by rfl) (fun K hK => ?_)
                                go_simp
                                refine (HCALL.out _ (HPE.out.1.up (bdr (brf _)))).mono ?_
                                rintro e w9 ⟨rfl, z1, z2⟩
                                refine hK.out _ _ ⟨cell_up hHeld.1 z1, cell_up hHeld.2 z1⟩ (fun hHeld1 => ?_)
                                clear hK K
                                (try simp only [Act.put, List.getElem_toArray, List.getElem_cons_succ, List.getElem_cons_zero, List.setIfInBounds_toArray, List.set_cons_zero, List.set_cons_succ])
                                repeat (refine Can.can_pure (v := ?_) rfl rfl (Or.inl ⟨by rfl, ?_⟩) ?_; rotate_left; (focus ((intro w hSw); (try dsimp only at hSw); go_simp; (try with_reducible rfl))); (try simp only [Act.put, List.getElem_toArray, List.getElem_cons_succ, List.getElem_cons_zero, List.setIfInBounds_toArray, List.set_cons_zero, List.set_cons_succ]))
                                refine Can.can_done ?_
                                have HPF := Lib.hid (And.intro (PlD.of ((HPE.out.1.up (bdr (brf _))).up z1)) ((HPE.out.2.trans (Kept.drew g wc8)).trans z2))
                                have k1 := hHeld1.1
                                have k2 := hHeld1.2
                                clear hHeld hHeld1 z1 z2 HPE c1 c2' HCALL
                                cases bb
                                · go_wp2_with fail
                                  refine Can.wp_region_can (fun w' => w'.cell? ⟨p, 1, none⟩ = some (.int .i64 rows) ∧ w'.cell? ⟨p, 2, none⟩ = some (.int .i64 cols)) 11 [0, 1, 2, 3, 4, 5, 6, 7, 8, 9, 10, 11] (by kernel_rfl) (by kernel_rfl) (fun _ _ d _ _ h => by cases d <;> exact h) ⟨k1, k2⟩ (fun hHeld => ?_)
                                  repeat (refine Can.can_pure (v := ?_) rfl rfl (Or.inl ⟨by rfl, ?_⟩) ?_; rotate_left; (focus ((intro w hSw); (try dsimp only at hSw); go_simp; (try with_reducible rfl))); (try simp only [Act.put, List.getElem_toArray, List.getElem_cons_succ, List.getElem_cons_zero, List.setIfInBounds_toArray, List.set_cons_zero, List.set_cons_succ]))
                                  clear hHeld
                                  refine Can.can_tail rfl rfl (by rfl) (fun K hK => ?_)
                                  go_simp
                                  refine (setBitD_any p g rows cols cv _ R1 K1 true _ (HPF.out.1.up (bdr (brf _))) d1 d2 hR hC).mono ?_
                                  rintro e w10 ⟨rfl, z1, z2⟩
                                  refine hK.out _ _ ?_
                                  clear hK K
                                  have HPG := Lib.hid (And.intro z1 ((HPF.out.2.trans (Kept.drew g w9)).trans z2))
                                  have k3 : w10.cell? ⟨p, 1, none⟩ = some (.int .i64 rows) := by rw [z1.head.cell]; rfl
                                  have k4 : w10.cell? ⟨p, 2, none⟩ = some (.int .i64 cols) := by rw [z1.head.cell]; rfl
                                  clear z1 z2 HPF k1 k2
                                  go_wp2_with fail
                                  refine Can.wp_region_can (fun w' => w'.cell? ⟨p, 1, none⟩ = some (.int .i64 rows) ∧ w'.cell? ⟨p, 2, none⟩ = some (.int .i64 cols)) 11 [0, 1, 2, 3, 4, 5, 6, 7, 8, 9, 10, 11] (by kernel_rfl) (by kernel_rfl) (fun _ _ d _ _ h => by cases d <;> exact h) ⟨k3, k4⟩ (fun hHeld => ?_)
                                  repeat (refine Can.can_pure (v := ?_) rfl rfl (Or.inl ⟨by rfl, ?_⟩) ?_; rotate_left; (focus ((intro w hSw); (try dsimp only at hSw); go_simp; (try with_reducible rfl))); (try simp only [Act.put, List.getElem_toArray, List.getElem_cons_succ, List.getElem_cons_zero, List.setIfInBounds_toArray, List.set_cons_zero, List.set_cons_succ]))
                                  clear hHeld
                                  refine Can.can_tail rfl rfl (by rfl) (fun K hK => ?_)
                                  go_simp
                                  refine (setBitD_any p g rows cols cv _ R2 K2 true _ (HPG.out.1.up (bdr (brf _))) d3 d4 hR hC).mono ?_
                                  rintro e w11 ⟨rfl, z1, z2⟩
                                  refine hK.out _ _ ?_
                                  clear hK K
                                  have HPI := Lib.hid (And.intro z1 ((HPG.out.2.trans (Kept.drew g w10)).trans z2))
                                  clear z1 z2 HPG k3 k4
                                  go_wp2
                                  refine bodyPost_end (results_none rfl _ _ _) rfl ?_
                                  obtain ⟨rfl, rfl, rfl, rfl⟩ := HO.out
                                  exact ⟨rfl, by rw [last_no HBB.out.symm]; exact HPI.out.1, HPI.out.2⟩
                                · go_wp2
                                  refine bodyPost_end (results_none rfl _ _ _) rfl ?_
                                  obtain ⟨rfl, rfl, rfl, rfl⟩ := HO.out
                                  exact ⟨rfl, by rw [last_yes HBB.out.symm]; exact HPF.out.1, HPF.out.2⟩
end Go.Proofs.Ytknipefcihkofaa
