/-
  WALK: laws.qrFinders.
-/
import Derived.Test.YtibnfgmhnmkfeaaPf8
import Derived.Test.YtibnfgmhnmkfeaaFill
namespace Go.Proofs.Ytibnfgmhnmkfeaa
open Go.RowKit

/-- The modules of a finder. -/
def patB (i : Nat) : Bool := [true, false, true, true, true, false, true].getD i false
/-- The first k modules from c on are those of a finder. -/
def allP (g : Nat → Bool) (c : Nat) : Nat → Bool
  | 0 => true
  | k + 1 => allP g c k && (g (c + k) == patB k)
theorem hitB_allP (g : Nat → Bool) (n c : Nat) (out : Bool) (h : c + 6 < n) : hitB g n out c = (allP g c 7 && (lightB g n ((c : Int) - 4) out || lightB g n ((c : Int) + 7) out)) := by
  unfold hitB
  rw [decide_eq_true h]
  simp only [allP, patB, Nat.add_zero]
  generalize lightB g n ((c : Int) - 4) out = a
  generalize lightB g n ((c : Int) + 7) out = b
  cases g c <;> cases g (c + 1) <;> cases g (c + 2) <;> cases g (c + 3) <;> cases g (c + 4) <;> cases g (c + 5) <;> cases g (c + 6) <;> cases a <;> cases b <;> rfl
theorem hitB_far (g : Nat → Bool) (n c : Nat) (out : Bool) (h : ¬ c + 6 < n) : hitB g n out c = false := by
  unfold hitB; rw [decide_eq_false h]; rfl
theorem hitsR_far (g : Nat → Bool) (n k m : Nat) (out : Bool) (h : n ≤ k + 6) : hitsR g n out (k + m) = hitsR g n out k := by
  induction m with
  | zero => rfl
  | succ m ih =>
    show hitsR g n out (k + m) + (hitB g n out (k + m)).toNat = _
    rw [hitB_far _ _ _ _ (by omega), ih]; rfl
theorem lit_congr {g g' : Nat → Bool} {n : Nat} (h : ∀ j, j < n → g j = g' j) (out : Bool) (i : Int) : litB g n out i = litB g' n out i := by
  unfold litB
  split
  · rw [h _ (by omega)]
  · rfl
theorem light_congr {g g' : Nat → Bool} {n : Nat} (h : ∀ j, j < n → g j = g' j) (out : Bool) (i : Int) : lightB g n i out = lightB g' n i out := by
  unfold lightB
  rw [lit_congr h, lit_congr h, lit_congr h, lit_congr h]
theorem hit_congr {g g' : Nat → Bool} {n : Nat} (h : ∀ j, j < n → g j = g' j) (out : Bool) (c : Nat) : hitB g n out c = hitB g' n out c := by
  by_cases hc : c + 6 < n
  · unfold hitB
    rw [light_congr h, light_congr h, h c (by omega), h (c + 1) (by omega), h (c + 2) (by omega), h (c + 3) (by omega), h (c + 4) (by omega), h (c + 5) (by omega), h (c + 6) (by omega)]
  · rw [hitB_far _ _ _ _ hc, hitB_far _ _ _ _ hc]
theorem hitsR_congr {g g' : Nat → Bool} {n : Nat} (h : ∀ j, j < n → g j = g' j) (out : Bool) (k : Nat) : hitsR g n out k = hitsR g' n out k := by
  induction k with
  | zero => rfl
  | succ k ih => unfold hitsR; rw [ih, hit_congr h]
theorem list_index {P : Program} {w : World} {ops : Array Oper} {rest : List Oper} {o : Oper} {a : Act} {Q : Exit → Act → World → Prop} (hgd : o.guard = none) (t : TypeId) (x ix : Operand) (ho : o.op = .index t x ix) (v : Value)
    (hrun : (Instr.index t (a.eval x) (a.eval ix)).run P w = .ok v w) (h : wpList P ops Q rest (a.put o.dst v) w) : wpList P ops Q (o :: rest) a w :=
  wpList_plain hgd fun _ hK => by
    unfold Oper.wp execOp
    simp only [ho, Sem.run_bind, Sem.run_pure, hrun, Result.andThen_ok]
    exact hK _ _ h
set_option maxRecDepth 100000 in
set_option maxHeartbeats 1000000 in
theorem finders_any (v : Value) (n : Nat) (f : Nat → Nat → Bool) (out : Bool) (w : World) (hv : RowsT w v (rowsF n n f)) (h0 : 0 < n) (hn : n ≤ 40) :
    Calls Try.prog 11 #[v, .bool out] w fun e w' => e = .returned (.int .i64 (hitsT f n out n : Nat)) ∧ w' = w := by
  obtain ⟨b0, o0, cap, rfl, m1, m2, HR⟩ := hv.at_ (by rw [rowsF_len]; exact h0)
  rw [rowsF_len] at m1 HR ⊢
  clear hv
  go_enter Try.func11, Try.ntmps11
  go_wp2_with fail
  go_loopw [5, 14] (fun sv yv wr => ∃ y : Nat, y ≤ n ∧ sv = .int .i64 (hitsT f n out y : Nat) ∧ yv = .int .i64 y ∧ wr = w) (fun _ yv _ => n - (intOf yv).toNat)
  case atStart => exact ⟨0, Nat.zero_le _, rfl, rfl, rfl⟩
  case round =>
    obtain ⟨y, hy, rfl, rfl, rfl⟩ := hrel
    by_cases hyn : y < n
    · obtain ⟨u, cu, hu⟩ := HR.out y hyn
      rw [rowsF_at _ _ _ _ hyn] at hu
      have HU := Lib.hid hu
      have hrl := rowF_len n f y
      have hrg : ∀ j, j < n → (rowF n f y).getD j false = f j y := fun j hj => rowF_getD n f y j hj
      have HRG := Lib.hid hrg
      obtain ⟨b, o, c0, rfl, m3, m4, HC⟩ := row_at hu (by rw [rowF_len]; omega)
      rw [hrl] at cu m3 HC HU
      have hT := hitsT_le f n out y
      have hT2 : n * y ≤ 1600 := Nat.le_trans (Nat.mul_le_mul hn hy) (by omega)
      obtain ⟨T, hTT⟩ : ∃ T, T = hitsT f n out y := ⟨_, rfl⟩
      rw [← hTT] at hT ⊢
      have HT := Lib.hid hTT
      have hT3 : T ≤ 1600 := Nat.le_trans hT hT2
      have HF : Hid (hitsT f n out (y + 1) = T + hitsR (fun j => (rowF n f y).getD j false) n out n) := Lib.hid (by
        rw [HT.out, hitsR_congr (g := fun j => (rowF n f y).getD j false) (g' := fun j => f j y) hrg]; rfl)
      clear hT hT2 hTT hu hrg HT HRG
      generalize rowF n f y = row at *
      go_wp2_with fail
      go_loopw [5, 8] (fun sv cv wq => ∃ c : Nat, (c = 0 ∨ c + 6 ≤ n) ∧ sv = .int .i64 ((T + hitsR (fun j => row.getD j false) n out c : Nat) : Int) ∧ cv = .int .i64 c ∧ wq = wr) (fun _ cv _ => n - (intOf cv).toNat)
      case atStart => exact ⟨0, .inl rfl, rfl, rfl, rfl⟩
      case round =>
        obtain ⟨c, hc, rfl, rfl, rfl⟩ := hrel
        have hcl := hitsR_le (fun j => row.getD j false) n out c
        obtain ⟨S, hS⟩ : ∃ S, S = T + hitsR (fun j => row.getD j false) n out c := ⟨_, rfl⟩
        have HS0 := Lib.hid hS
        rw [← hS]
        have hSb : S ≤ 1640 := by omega
        clear hcl hS
        by_cases hcn : c + 6 < n
        · have hc7 : (c : Int) + 7 ≤ (n : Int) := by omega
          go_wp2_with fail
          go_loopw [9, 26] (fun qv iv wp => ∃ (k : Nat) (q : Bool), k ≤ 7 ∧ qv = .bool q ∧ iv = .int .i64 k ∧ Hid (q = allP (fun j => row.getD j false) c k) ∧ wp = wr) (fun _ iv _ => 7 - (intOf iv).toNat)
          case atStart => exact ⟨0, true, by omega, rfl, rfl, Lib.hid rfl, rfl⟩
          case round =>
            obtain ⟨k, q, hk, rfl, rfl, HQ, rfl⟩ := hrel
            have hk7 : k = 0 ∨ k = 1 ∨ k = 2 ∨ k = 3 ∨ k = 4 ∨ k = 5 ∨ k = 6 ∨ k = 7 := by omega
            rcases hk7 with rfl | rfl | rfl | rfl | rfl | rfl | rfl | rfl
            · obtain ⟨x, hx⟩ : ∃ x, x = row.getD (c + 0) false := ⟨_, rfl⟩
              have r1 := HC.out (c + 0) (by omega)
              rw [← hx] at r1
              try simp only [Nat.add_zero] at r1
              have hs : allP (fun j => row.getD j false) c (0 + 1) = (q && (x == patB 0)) := by rw [HQ.out, hx]; rfl
              have HS := Lib.hid hs
              clear hx hs
              cases q
              · go_wp2_with (with_reducible refine stop_at (o := ⟨some 29, _, _, _, _, _⟩) ?_)
                refine Lib.hid ?_
                refine list_index rfl _ _ _ rfl (.bool true) (by kernel_rfl) ?_
                go_wp2_with fail
                go_roundw
                case rel => exact ⟨0 + 1, false, by omega, rfl, rfl, Lib.hid (by rw [HS.out]; rfl), trivial⟩
                case measure => simp [intOf]
              · cases x
                · go_wp2_with (with_reducible refine stop_at (o := ⟨some 29, _, _, _, _, _⟩) ?_)
                  refine Lib.hid ?_
                  refine list_index rfl _ _ _ rfl (.bool true) (by kernel_rfl) ?_
                  go_wp2_with fail
                  go_roundw
                  case rel => exact ⟨0 + 1, false, by omega, rfl, rfl, Lib.hid (by rw [HS.out]; rfl), trivial⟩
                  case measure => simp [intOf]
                · go_wp2_with (with_reducible refine stop_at (o := ⟨some 29, _, _, _, _, _⟩) ?_)
                  refine Lib.hid ?_
                  refine list_index rfl _ _ _ rfl (.bool true) (by kernel_rfl) ?_
                  go_wp2_with fail
                  go_roundw
                  case rel => exact ⟨0 + 1, true, by omega, rfl, rfl, Lib.hid (by rw [HS.out]; rfl), trivial⟩
                  case measure => simp [intOf]
            · obtain ⟨x, hx⟩ : ∃ x, x = row.getD (c + 1) false := ⟨_, rfl⟩
              have r1 := HC.out (c + 1) (by omega)
              rw [← hx] at r1
              try simp only [Nat.add_zero] at r1
              have hs : allP (fun j => row.getD j false) c (1 + 1) = (q && (x == patB 1)) := by rw [HQ.out, hx]; rfl
              have HS := Lib.hid hs
              clear hx hs
              cases q
              · go_wp2_with (with_reducible refine stop_at (o := ⟨some 29, _, _, _, _, _⟩) ?_)
                refine Lib.hid ?_
                refine list_index rfl _ _ _ rfl (.bool false) (by kernel_rfl) ?_
                go_wp2_with fail
                go_roundw
                case rel => exact ⟨1 + 1, false, by omega, rfl, rfl, Lib.hid (by rw [HS.out]; rfl), trivial⟩
                case measure => simp [intOf]
              · cases x
                · go_wp2_with (with_reducible refine stop_at (o := ⟨some 29, _, _, _, _, _⟩) ?_)
                  refine Lib.hid ?_
                  refine list_index rfl _ _ _ rfl (.bool false) (by kernel_rfl) ?_
                  go_wp2_with fail
                  go_roundw
                  case rel => exact ⟨1 + 1, true, by omega, rfl, rfl, Lib.hid (by rw [HS.out]; rfl), trivial⟩
                  case measure => simp [intOf]
                · go_wp2_with (with_reducible refine stop_at (o := ⟨some 29, _, _, _, _, _⟩) ?_)
                  refine Lib.hid ?_
                  refine list_index rfl _ _ _ rfl (.bool false) (by kernel_rfl) ?_
                  go_wp2_with fail
                  go_roundw
                  case rel => exact ⟨1 + 1, false, by omega, rfl, rfl, Lib.hid (by rw [HS.out]; rfl), trivial⟩
                  case measure => simp [intOf]
            · obtain ⟨x, hx⟩ : ∃ x, x = row.getD (c + 2) false := ⟨_, rfl⟩
              have r1 := HC.out (c + 2) (by omega)
              rw [← hx] at r1
              try simp only [Nat.add_zero] at r1
              have hs : allP (fun j => row.getD j false) c (2 + 1) = (q && (x == patB 2)) := by rw [HQ.out, hx]; rfl
              have HS := Lib.hid hs
              clear hx hs
              cases q
              · go_wp2_with (with_reducible refine stop_at (o := ⟨some 29, _, _, _, _, _⟩) ?_)
                refine Lib.hid ?_
                refine list_index rfl _ _ _ rfl (.bool true) (by kernel_rfl) ?_
                go_wp2_with fail
                go_roundw
                case rel => exact ⟨2 + 1, false, by omega, rfl, rfl, Lib.hid (by rw [HS.out]; rfl), trivial⟩
                case measure => simp [intOf]
              · cases x
                · go_wp2_with (with_reducible refine stop_at (o := ⟨some 29, _, _, _, _, _⟩) ?_)
                  refine Lib.hid ?_
                  refine list_index rfl _ _ _ rfl (.bool true) (by kernel_rfl) ?_
                  go_wp2_with fail
                  go_roundw
                  case rel => exact ⟨2 + 1, false, by omega, rfl, rfl, Lib.hid (by rw [HS.out]; rfl), trivial⟩
                  case measure => simp [intOf]
                · go_wp2_with (with_reducible refine stop_at (o := ⟨some 29, _, _, _, _, _⟩) ?_)
                  refine Lib.hid ?_
                  refine list_index rfl _ _ _ rfl (.bool true) (by kernel_rfl) ?_
                  go_wp2_with fail
                  go_roundw
                  case rel => exact ⟨2 + 1, true, by omega, rfl, rfl, Lib.hid (by rw [HS.out]; rfl), trivial⟩
                  case measure => simp [intOf]
            · obtain ⟨x, hx⟩ : ∃ x, x = row.getD (c + 3) false := ⟨_, rfl⟩
              have r1 := HC.out (c + 3) (by omega)
              rw [← hx] at r1
              try simp only [Nat.add_zero] at r1
              have hs : allP (fun j => row.getD j false) c (3 + 1) = (q && (x == patB 3)) := by rw [HQ.out, hx]; rfl
              have HS := Lib.hid hs
              clear hx hs
              cases q
              · go_wp2_with (with_reducible refine stop_at (o := ⟨some 29, _, _, _, _, _⟩) ?_)
                refine Lib.hid ?_
                refine list_index rfl _ _ _ rfl (.bool true) (by kernel_rfl) ?_
                go_wp2_with fail
                go_roundw
                case rel => exact ⟨3 + 1, false, by omega, rfl, rfl, Lib.hid (by rw [HS.out]; rfl), trivial⟩
                case measure => simp [intOf]
              · cases x
                · go_wp2_with (with_reducible refine stop_at (o := ⟨some 29, _, _, _, _, _⟩) ?_)
                  refine Lib.hid ?_
                  refine list_index rfl _ _ _ rfl (.bool true) (by kernel_rfl) ?_
                  go_wp2_with fail
                  go_roundw
                  case rel => exact ⟨3 + 1, false, by omega, rfl, rfl, Lib.hid (by rw [HS.out]; rfl), trivial⟩
                  case measure => simp [intOf]
                · go_wp2_with (with_reducible refine stop_at (o := ⟨some 29, _, _, _, _, _⟩) ?_)
                  refine Lib.hid ?_
                  refine list_index rfl _ _ _ rfl (.bool true) (by kernel_rfl) ?_
                  go_wp2_with fail
                  go_roundw
                  case rel => exact ⟨3 + 1, true, by omega, rfl, rfl, Lib.hid (by rw [HS.out]; rfl), trivial⟩
                  case measure => simp [intOf]
            · obtain ⟨x, hx⟩ : ∃ x, x = row.getD (c + 4) false := ⟨_, rfl⟩
              have r1 := HC.out (c + 4) (by omega)
              rw [← hx] at r1
              try simp only [Nat.add_zero] at r1
              have hs : allP (fun j => row.getD j false) c (4 + 1) = (q && (x == patB 4)) := by rw [HQ.out, hx]; rfl
              have HS := Lib.hid hs
              clear hx hs
              cases q
              · go_wp2_with (with_reducible refine stop_at (o := ⟨some 29, _, _, _, _, _⟩) ?_)
                refine Lib.hid ?_
                refine list_index rfl _ _ _ rfl (.bool true) (by kernel_rfl) ?_
                go_wp2_with fail
                go_roundw
                case rel => exact ⟨4 + 1, false, by omega, rfl, rfl, Lib.hid (by rw [HS.out]; rfl), trivial⟩
                case measure => simp [intOf]
              · cases x
                · go_wp2_with (with_reducible refine stop_at (o := ⟨some 29, _, _, _, _, _⟩) ?_)
                  refine Lib.hid ?_
                  refine list_index rfl _ _ _ rfl (.bool true) (by kernel_rfl) ?_
                  go_wp2_with fail
                  go_roundw
                  case rel => exact ⟨4 + 1, false, by omega, rfl, rfl, Lib.hid (by rw [HS.out]; rfl), trivial⟩
                  case measure => simp [intOf]
                · go_wp2_with (with_reducible refine stop_at (o := ⟨some 29, _, _, _, _, _⟩) ?_)
                  refine Lib.hid ?_
                  refine list_index rfl _ _ _ rfl (.bool true) (by kernel_rfl) ?_
                  go_wp2_with fail
                  go_roundw
                  case rel => exact ⟨4 + 1, true, by omega, rfl, rfl, Lib.hid (by rw [HS.out]; rfl), trivial⟩
                  case measure => simp [intOf]
            · obtain ⟨x, hx⟩ : ∃ x, x = row.getD (c + 5) false := ⟨_, rfl⟩
              have r1 := HC.out (c + 5) (by omega)
              rw [← hx] at r1
              try simp only [Nat.add_zero] at r1
              have hs : allP (fun j => row.getD j false) c (5 + 1) = (q && (x == patB 5)) := by rw [HQ.out, hx]; rfl
              have HS := Lib.hid hs
              clear hx hs
              cases q
              · go_wp2_with (with_reducible refine stop_at (o := ⟨some 29, _, _, _, _, _⟩) ?_)
                refine Lib.hid ?_
                refine list_index rfl _ _ _ rfl (.bool false) (by kernel_rfl) ?_
                go_wp2_with fail
                go_roundw
                case rel => exact ⟨5 + 1, false, by omega, rfl, rfl, Lib.hid (by rw [HS.out]; rfl), trivial⟩
                case measure => simp [intOf]
              · cases x
                · go_wp2_with (with_reducible refine stop_at (o := ⟨some 29, _, _, _, _, _⟩) ?_)
                  refine Lib.hid ?_
                  refine list_index rfl _ _ _ rfl (.bool false) (by kernel_rfl) ?_
                  go_wp2_with fail
                  go_roundw
                  case rel => exact ⟨5 + 1, true, by omega, rfl, rfl, Lib.hid (by rw [HS.out]; rfl), trivial⟩
                  case measure => simp [intOf]
                · go_wp2_with (with_reducible refine stop_at (o := ⟨some 29, _, _, _, _, _⟩) ?_)
                  refine Lib.hid ?_
                  refine list_index rfl _ _ _ rfl (.bool false) (by kernel_rfl) ?_
                  go_wp2_with fail
                  go_roundw
                  case rel => exact ⟨5 + 1, false, by omega, rfl, rfl, Lib.hid (by rw [HS.out]; rfl), trivial⟩
                  case measure => simp [intOf]
            · obtain ⟨x, hx⟩ : ∃ x, x = row.getD (c + 6) false := ⟨_, rfl⟩
              have r1 := HC.out (c + 6) (by omega)
              rw [← hx] at r1
              try simp only [Nat.add_zero] at r1
              have hs : allP (fun j => row.getD j false) c (6 + 1) = (q && (x == patB 6)) := by rw [HQ.out, hx]; rfl
              have HS := Lib.hid hs
              clear hx hs
              cases q
              · go_wp2_with (with_reducible refine stop_at (o := ⟨some 29, _, _, _, _, _⟩) ?_)
                refine Lib.hid ?_
                refine list_index rfl _ _ _ rfl (.bool true) (by kernel_rfl) ?_
                go_wp2_with fail
                go_roundw
                case rel => exact ⟨6 + 1, false, by omega, rfl, rfl, Lib.hid (by rw [HS.out]; rfl), trivial⟩
                case measure => simp [intOf]
              · cases x
                · go_wp2_with (with_reducible refine stop_at (o := ⟨some 29, _, _, _, _, _⟩) ?_)
                  refine Lib.hid ?_
                  refine list_index rfl _ _ _ rfl (.bool true) (by kernel_rfl) ?_
                  go_wp2_with fail
                  go_roundw
                  case rel => exact ⟨6 + 1, false, by omega, rfl, rfl, Lib.hid (by rw [HS.out]; rfl), trivial⟩
                  case measure => simp [intOf]
                · go_wp2_with (with_reducible refine stop_at (o := ⟨some 29, _, _, _, _, _⟩) ?_)
                  refine Lib.hid ?_
                  refine list_index rfl _ _ _ rfl (.bool true) (by kernel_rfl) ?_
                  go_wp2_with fail
                  go_roundw
                  case rel => exact ⟨6 + 1, true, by omega, rfl, rfl, Lib.hid (by rw [HS.out]; rfl), trivial⟩
                  case measure => simp [intOf]
            · have hH := hitB_allP (fun j => row.getD j false) n c out hcn
              rw [← HQ.out] at hH
              have HH := Lib.hid hH
              have HN : Hid (T + hitsR (fun j => row.getD j false) n out (c + 1) = S + (hitB (fun j => row.getD j false) n out c).toNat) := Lib.hid (by
                have := HS0.out; show T + (hitsR (fun j => row.getD j false) n out c + _) = _; omega)
              clear hH HQ
              cases q
              · have HN2 : Hid (T + hitsR (fun j => row.getD j false) n out (c + 1) = S) := Lib.hid (by rw [HN.out, HH.out]; rfl)
                clear HN HH
                go_wp2_with fail
                go_roundw
                case rel => exact ⟨c + 1, by omega, by rw [HN2.out], by go_num, trivial⟩
                case measure => simp [intOf]; omega
              · go_wp2_with fail
                refine (light_any _ row n ((c : Int) - 4) out _ HU.out hrl h0 (by omega) (by omega) (by omega)).mono ?_
                rintro e wr ⟨rfl, rfl⟩
                generalize lightB (fun j => row.getD j false) n ((c : Int) - 4) out = u1 at HH ⊢
                cases u1
                · go_wp2_with fail
                  refine (light_any _ row n ((c : Int) + 7) out _ HU.out hrl h0 (by omega) (by omega) (by omega)).mono ?_
                  rintro e wr ⟨rfl, rfl⟩
                  generalize lightB (fun j => row.getD j false) n ((c : Int) + 7) out = u2 at HH ⊢
                  cases u2
                  · have HN2 : Hid (T + hitsR (fun j => row.getD j false) n out (c + 1) = S) := Lib.hid (by rw [HN.out, HH.out]; rfl)
                    clear HN HH
                    go_wp2_with fail
                    go_roundw
                    case rel => exact ⟨c + 1, by omega, by rw [HN2.out], by go_num, trivial⟩
                    case measure => simp [intOf]; omega
                  · have HN2 : Hid (T + hitsR (fun j => row.getD j false) n out (c + 1) = S + 1) := Lib.hid (by rw [HN.out, HH.out]; rfl)
                    clear HN HH
                    go_wp2_with fail
                    go_roundw
                    case rel => exact ⟨c + 1, by omega, by rw [HN2.out]; go_num, by go_num, trivial⟩
                    case measure => simp [intOf]; omega
                · have HN2 : Hid (T + hitsR (fun j => row.getD j false) n out (c + 1) = S + 1) := Lib.hid (by rw [HN.out, HH.out]; rfl)
                  clear HN HH
                  go_wp2_with fail
                  go_roundw
                  case rel => exact ⟨c + 1, by omega, by rw [HN2.out]; go_num, by go_num, trivial⟩
                  case measure => simp [intOf]; omega
        · have HN2 : Hid (hitsT f n out (y + 1) = S) := Lib.hid (by
            have h1 := HS0.out
            have h2 := hitsR_far (fun j => row.getD j false) n c (n - c) out (by omega)
            rw [show c + (n - c) = n by omega] at h2
            rw [HF.out, h2, h1])
          have hc7 : ¬ (c : Int) + 7 ≤ (n : Int) := by omega
          clear HF HS0
          go_wp2_with fail
          go_roundw
          case rel => exact ⟨y + 1, by omega, by rw [HN2.out], by go_num, trivial⟩
          case measure => simp [intOf]; omega
    · obtain rfl : y = n := by omega
      go_wp2_with fail
      go_ret
      exact ⟨rfl, rfl⟩
end Go.Proofs.Ytibnfgmhnmkfeaa
