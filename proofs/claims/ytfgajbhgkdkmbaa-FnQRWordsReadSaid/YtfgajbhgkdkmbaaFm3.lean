/-
  WALK: Version.buildFunctionPattern.
-/
import Derived.Test.YtfgajbhgkdkmbaaFm2
import Derived.Test.YtfgajbhgkdkmbaaSh2
namespace Go.Proofs.Ytfgajbhgkdkmbaa
open Go.RowKit

def cenLeB (v : Nat) : Bool := (List.range (cenOf v).length).all fun i => decide ((cenOf v).getD i 0 + 3 ≤ 17 + 4 * v)
set_option maxRecDepth 100000 in
theorem cenLe_all : ((List.range 40).all fun v => cenLeB (v + 1)) = true := by decide +kernel
theorem cenLe {v : Nat} (h1 : 1 ≤ v) (h40 : v ≤ 40) : ∀ i, i < (cenOf v).length → (cenOf v).getD i 0 + 3 ≤ 17 + 4 * v := fun i hi => by
  have h := List.all_eq_true.1 cenLe_all (v - 1) (List.mem_range.2 (by omega))
  rw [show v - 1 + 1 = v by omega] at h
  exact of_decide_eq_true (List.all_eq_true.1 h i (List.mem_range.2 hi))
/-- The corners. -/
def fpA (n c r : Nat) : Prop := ((r ≤ 8 ∧ c ≤ 8) ∨ (n ≤ c + 8 ∧ r ≤ 8)) ∨ (c ≤ 8 ∧ n ≤ r + 8)
set_option maxRecDepth 100000 in
set_option maxHeartbeats 4000000 in
theorem buildFP_any (q v : Nat) (w : World) (hv : VerAt w q v) (h1 : 1 ≤ v) (h40 : v ≤ 40) :
    Calls Try.prog 103 #[.pointer (some ⟨q, 0, none⟩)] w fun e w' => ∃ p g, e = .returned (.tuple #[.pointer (some ⟨p, 0, none⟩), .nilIface]) ∧ MatP w' p g (17 + 4 * v) (fun c r => givB v c r = true) ∧ w.heap.size ≤ p ∧ w.heap.size ≤ g ∧ Below w.heap.size w w' := by
  have hDim := verDim_any q v w hv h40
  obtain ⟨cs, vc, ge, g0, g1, g2, g3, e0, e1, e2, e3, l0, l1, l2, l3, hv⟩ := hv
  have hcs : cs = cenOf v := by unfold cenOf; rw [hv.tab]
  have hge := cenGe h1 h40
  have hle := cenLe h1 h40
  have hsm := (small_at h40 (l := 0) (by decide)).2
  have hfin : ∀ c r, c < 17 + 4 * v → r < 17 + 4 * v → ((((((fpA (17 + 4 * v) c r ∨ alU cs cs.length 0 r c) ∨ (c = 6 ∧ 9 ≤ r ∧ r + 8 < 17 + 4 * v)) ∨ (r = 6 ∧ 9 ≤ c ∧ c + 8 < 17 + 4 * v)) ∨ (7 ≤ v ∧ r ≤ 5 ∧ 17 + 4 * v ≤ c + 11)) ∨ (7 ≤ v ∧ c ≤ 5 ∧ 17 + 4 * v ≤ r + 11)) ↔ givB v c r = true) := fun c r hc hr => by
    rw [hcs, alU_all]
    unfold givB givenB
    rw [decide_eq_true_eq]
    unfold givenP fpA
    omega
  rw [← hcs] at hge hle hsm
  have c1 : w.cell? ⟨q, 1, none⟩ = some vc := by rw [hv.head.cell]; rfl
  have c0 : w.cell? ⟨q, 0, none⟩ = some (.int .i64 v) := by rw [hv.head.cell]; rfl
  have hql := hv.head.lt
  have HMID := Lib.hid hv.mid.rd
  obtain ⟨A, cap, rfl, k1, k2⟩ := hv.mid.rd.form
  rw [nvl_len] at c1 k1 HMID
  unfold maxLen at k2
  have HFIN := Lib.hid hfin
  have HGE := Lib.hid hge; have HLE := Lib.hid hle
  have hn177 : 17 + 4 * v ≤ 177 := by omega
  have hn21 : 21 ≤ 17 + 4 * v := by omega
  have h67 : (6 : Int) < (v : Int) ∨ ¬ (6 : Int) < (v : Int) := by omega
  generalize hN : 17 + 4 * v = n at *
  clear hv hfin hcs hge hle
  have HN := Lib.hid hN
  clear hN
  go_enter Try.func103, Try.ntmps103
  go_wp2_with fail
  refine hDim.mono ?_
  rintro e w ⟨rfl, rfl⟩
  clear hDim
  go_wp2_with fail
  refine (newSquare_any n w (by omega) hn177).mono ?_
  rintro e w1 ⟨p, g, rfl, hm, hp, hg, hb⟩
  have hM1 := hm
  have HB := Lib.hid hb
  clear hm hb
  go_wp2_with fail
  refine (setRegion_any p g n 0 0 9 9 _ w1 hM1 hn177 (by decide) (by decide) (by omega) (by omega)).mono ?_
  rintro e w2 ⟨rfl, hm, hb⟩
  have HB2 := Lib.hid (HB.out.trans (hb.mono hg))
  have n8 : (n : Int) - 8 = ((n - 8 : Nat) : Int) := by omega
  have n17 : (n : Int) - 17 = ((n - 17 : Nat) : Int) := by omega
  have n11 : (n : Int) - 11 = ((n - 11 : Nat) : Int) := by omega
  clear hM1 hb HB
  go_wp2_with fail
  refine (setRegion_any p g n (n - 8) 0 8 9 _ w2 hm hn177 (by decide) (by decide) (by omega) (by omega)).mono ?_
  rintro e w3 ⟨rfl, hm3, hb⟩
  have HB3 := Lib.hid (HB2.out.trans (hb.mono hg))
  clear hm hb HB2
  go_wp2_with fail
  refine (setRegion_any p g n 0 (n - 8) 9 8 _ w3 hm3 hn177 (by decide) (by decide) (by omega) (by omega)).mono ?_
  rintro e w4 ⟨rfl, hm4, hb⟩
  have HB4 := Lib.hid (HB3.out.trans (hb.mono hg))
  have HM4 : Hid (MatP w4 p g n (fun c r => fpA n c r ∨ alU cs 0 0 r c)) := Lib.hid (hm4.congr (fun c r hc hr => by
    have := alU_zero cs r c
    simp only [this, or_false, false_or]
    unfold fpA
    omega))
  clear hm3 hm4 hb HB3
  have c1' := cell_up c1 HB4.out
  have c0' := cell_up c0 HB4.out
  go_wp2_with fail
  clear c1'
  clear n8 n17 n11
  go_loopw [8] (fun xv wr => ∃ (x : Nat), x ≤ cs.length ∧ xv = .int .i64 (x : Int) ∧ Hid (MatP wr p g n (fun c r => fpA n c r ∨ alU cs x 0 r c)) ∧ Hid (Below w.heap.size w wr)) (fun xv _ => cs.length - (intOf xv).toNat)
  case atStart => exact ⟨0, by omega, rfl, HM4, HB4⟩
  case round =>
    clear HM4 HB4 c0'
    obtain ⟨x, hx, rfl, HM, HB⟩ := hrel
    by_cases hxl : x < cs.length
    · obtain ⟨bq, off, u, rfl, hbq, hu, hcx⟩ := HMID.out.at_ hxl
      rw [nvl_at cs x hxl] at hu
      injection hu with hu
      subst hu
      have hax := HGE.out x hxl
      have hay := HLE.out x hxl
      rw [List.getD, List.getElem?_eq_getElem hxl, Option.getD_some] at hax hay
      have cA := cell_up hcx HB.out
      have cV := cell_up c1 HB.out
      obtain ⟨a, ha⟩ : ∃ a, a = cs[x] := ⟨_, rfl⟩
      rw [← ha] at cA hax hay
      have HA : Hid (a = cs.getD x 0) := Lib.hid (by rw [ha, List.getD, List.getElem?_eq_getElem hxl]; rfl)
      obtain ⟨a2, ha2⟩ : ∃ a2, a2 = a - 2 := ⟨_, rfl⟩
      have s1 : (a : Int) - 2 = (a2 : Int) := by omega
      have HA2e : Hid (a2 + 2 = a ∧ a2 + 5 ≤ n) := Lib.hid (by omega)
      have ha2b : a2 ≤ 177 := by omega
      have hab : a ≤ 177 := by omega
      clear hcx ha ha2 hax hay
      go_wp2_with fail
      clear cA cV s1
      go_loopw [10] (fun yv wr => ∃ (y : Nat), y ≤ cs.length ∧ yv = .int .i64 (y : Int) ∧ Hid (MatP wr p g n (fun c r => fpA n c r ∨ alU cs x y r c)) ∧ Hid (Below w.heap.size w wr)) (fun yv _ => cs.length - (intOf yv).toNat)
      case atStart => exact ⟨0, by omega, rfl, HM, HB⟩
      case round =>
        clear HM HB
        rename World => wi
        obtain ⟨y, hy, rfl, HM, HB⟩ := hrel
        by_cases hyl : y < cs.length
        · have hcy := HMID.out.at_ hyl
          obtain ⟨bq2, off2, u, hqq, hbq2, hu, hcy⟩ := hcy
          injection hqq with hqq
          injection hqq with hq1 hq2 hq3
          subst hq1 hq2
          rw [nvl_at cs y hyl] at hu
          injection hu with hu
          subst hu
          have hax := HGE.out y hyl
          have hay := HLE.out y hyl
          rw [List.getD, List.getElem?_eq_getElem hyl, Option.getD_some] at hax hay
          have cY := cell_up hcy HB.out
          have cV := cell_up c1 HB.out
          obtain ⟨b, hb⟩ : ∃ b, b = cs[y] := ⟨_, rfl⟩
          rw [← hb] at cY hax hay
          have HBb : Hid (b = cs.getD y 0) := Lib.hid (by rw [hb, List.getD, List.getElem?_eq_getElem hyl]; rfl)
          obtain ⟨b2, hb2⟩ : ∃ b2, b2 = b - 2 := ⟨_, rfl⟩
          have s2 : (b : Int) - 2 = (b2 : Int) := by omega
          have HB2e : Hid (b2 + 2 = b ∧ b2 + 5 ≤ n) := Lib.hid (by omega)
          have hb2b : b2 ≤ 177 := by omega
          have hbb : b ≤ 177 := by omega
          clear hq3
          clear hcy hb hb2 hax hay
          by_cases x0 : x = 0
          · have f1 : ((x : Int) == 0) = true := by rw [beq_iff_eq]; omega
            by_cases y0 : y = 0
            · have f2 : ((y : Int) == 0) = true := by rw [beq_iff_eq]; omega
              have HM2 : Hid (MatP wi p g n (fun c r => fpA n c r ∨ alU cs x (y + 1) r c)) := Lib.hid (HM.out.congr (fun c r _ _ => by rw [alU_skip cs x y r c (by unfold skipA; simp; omega)]))
              clear HM
              (try clear x0); (try clear y0); (try clear yl); (try clear xl)
              go_wp2_with fail
              go_roundw
              case rel => exact ⟨y + 1, by omega, by go_num, HM2, HB⟩
              case measure => simp [intOf]; omega
            · have f2 : ((y : Int) == 0) = false := by rw [beq_eq_false_iff_ne]; omega
              by_cases yl : y + 1 = cs.length
              · have f3 : ((y : Int) == (cs.length : Int) - 1) = true := by rw [beq_iff_eq]; omega
                have HM2 : Hid (MatP wi p g n (fun c r => fpA n c r ∨ alU cs x (y + 1) r c)) := Lib.hid (HM.out.congr (fun c r _ _ => by rw [alU_skip cs x y r c (by unfold skipA; simp; omega)]))
                clear HM
                (try clear x0); (try clear y0); (try clear yl); (try clear xl)
                go_wp2_with fail
                go_roundw
                case rel => exact ⟨y + 1, by omega, by go_num, HM2, HB⟩
                case measure => simp [intOf]; omega
              · have f3 : ((y : Int) == (cs.length : Int) - 1) = false := by rw [beq_eq_false_iff_ne]; omega
                have f4 : ((x : Int) == (cs.length : Int) - 1) = false := by rw [beq_eq_false_iff_ne]; omega
                have hnsk : skipA cs.length x y = false := by unfold skipA; simp; omega
                have HTK : Hid (∀ c r, (alU cs x y r c ∨ (nearB a r = true ∧ nearB b c = true)) ↔ alU cs x (y + 1) r c) := Lib.hid (fun c r => by rw [HA.out, HBb.out]; exact alU_take cs x y r c hnsk)
                have hsr := setRegion_any p g n b2 a2 5 5 (fun c r => fpA n c r ∨ alU cs x y r c) wi HM.out hn177 (by decide) (by decide) (by have := HB2e.out; omega) (by have := HA2e.out; omega)
                clear hnsk HM
                (try clear x0); (try clear y0); (try clear yl); (try clear xl)
                go_wp2_with fail
                refine hsr.mono ?_
                rintro e w2 ⟨rfl, hm2, hb2⟩
                have HM2 : Hid (MatP w2 p g n (fun c r => fpA n c r ∨ alU cs x (y + 1) r c)) := Lib.hid (hm2.congr (fun c r _ _ => by
                  rw [← HTK.out c r, or_assoc]
                  have e1 := HA2e.out; have e2 := HB2e.out
                  have e3 : (b2 ≤ c ∧ c < b2 + 5 ∧ a2 ≤ r ∧ r < a2 + 5) ↔ (nearB a r = true ∧ nearB b c = true) := by unfold nearB; simp only [decide_eq_true_eq]; omega
                  rw [e3]))
                have HB2 := Lib.hid (HB.out.trans (hb2.mono hg))
                clear hsr hm2 hb2 HB cY cV
                go_wp2_with fail
                go_roundw
                case rel => exact ⟨y + 1, by omega, by go_num, HM2, HB2⟩
                case measure => simp [intOf]; omega
          · have f1 : ((x : Int) == 0) = false := by rw [beq_eq_false_iff_ne]; omega
            by_cases xl : x + 1 = cs.length
            · have f4 : ((x : Int) == (cs.length : Int) - 1) = true := by rw [beq_iff_eq]; omega
              by_cases y0 : y = 0
              · have f2 : ((y : Int) == 0) = true := by rw [beq_iff_eq]; omega
                have HM2 : Hid (MatP wi p g n (fun c r => fpA n c r ∨ alU cs x (y + 1) r c)) := Lib.hid (HM.out.congr (fun c r _ _ => by rw [alU_skip cs x y r c (by unfold skipA; simp; omega)]))
                clear HM
                (try clear x0); (try clear y0); (try clear yl); (try clear xl)
                go_wp2_with fail
                go_roundw
                case rel => exact ⟨y + 1, by omega, by go_num, HM2, HB⟩
                case measure => simp [intOf]; omega
              · have f2 : ((y : Int) == 0) = false := by rw [beq_eq_false_iff_ne]; omega
                have hnsk : skipA cs.length x y = false := by unfold skipA; simp; omega
                have HTK : Hid (∀ c r, (alU cs x y r c ∨ (nearB a r = true ∧ nearB b c = true)) ↔ alU cs x (y + 1) r c) := Lib.hid (fun c r => by rw [HA.out, HBb.out]; exact alU_take cs x y r c hnsk)
                have hsr := setRegion_any p g n b2 a2 5 5 (fun c r => fpA n c r ∨ alU cs x y r c) wi HM.out hn177 (by decide) (by decide) (by have := HB2e.out; omega) (by have := HA2e.out; omega)
                clear hnsk HM
                (try clear x0); (try clear y0); (try clear yl); (try clear xl)
                go_wp2_with fail
                refine hsr.mono ?_
                rintro e w2 ⟨rfl, hm2, hb2⟩
                have HM2 : Hid (MatP w2 p g n (fun c r => fpA n c r ∨ alU cs x (y + 1) r c)) := Lib.hid (hm2.congr (fun c r _ _ => by
                  rw [← HTK.out c r, or_assoc]
                  have e1 := HA2e.out; have e2 := HB2e.out
                  have e3 : (b2 ≤ c ∧ c < b2 + 5 ∧ a2 ≤ r ∧ r < a2 + 5) ↔ (nearB a r = true ∧ nearB b c = true) := by unfold nearB; simp only [decide_eq_true_eq]; omega
                  rw [e3]))
                have HB2 := Lib.hid (HB.out.trans (hb2.mono hg))
                clear hsr hm2 hb2 HB cY cV
                go_wp2_with fail
                go_roundw
                case rel => exact ⟨y + 1, by omega, by go_num, HM2, HB2⟩
                case measure => simp [intOf]; omega
            · have f4 : ((x : Int) == (cs.length : Int) - 1) = false := by rw [beq_eq_false_iff_ne]; omega
              have hnsk : skipA cs.length x y = false := by unfold skipA; simp; omega
              have HTK : Hid (∀ c r, (alU cs x y r c ∨ (nearB a r = true ∧ nearB b c = true)) ↔ alU cs x (y + 1) r c) := Lib.hid (fun c r => by rw [HA.out, HBb.out]; exact alU_take cs x y r c hnsk)
              have hsr := setRegion_any p g n b2 a2 5 5 (fun c r => fpA n c r ∨ alU cs x y r c) wi HM.out hn177 (by decide) (by decide) (by have := HB2e.out; omega) (by have := HA2e.out; omega)
              clear hnsk HM
              (try clear x0); (try clear y0); (try clear yl); (try clear xl)
              go_wp2_with fail
              refine hsr.mono ?_
              rintro e w2 ⟨rfl, hm2, hb2⟩
              have HM2 : Hid (MatP w2 p g n (fun c r => fpA n c r ∨ alU cs x (y + 1) r c)) := Lib.hid (hm2.congr (fun c r _ _ => by
                rw [← HTK.out c r, or_assoc]
                have e1 := HA2e.out; have e2 := HB2e.out
                have e3 : (b2 ≤ c ∧ c < b2 + 5 ∧ a2 ≤ r ∧ r < a2 + 5) ↔ (nearB a r = true ∧ nearB b c = true) := by unfold nearB; simp only [decide_eq_true_eq]; omega
                rw [e3]))
              have HB2 := Lib.hid (HB.out.trans (hb2.mono hg))
              clear hsr hm2 hb2 HB cY cV
              go_wp2_with fail
              go_roundw
              case rel => exact ⟨y + 1, by omega, by go_num, HM2, HB2⟩
              case measure => simp [intOf]; omega
        · obtain rfl : y = cs.length := by omega
          have HM2 : Hid (MatP wi p g n (fun c r => fpA n c r ∨ alU cs (x + 1) 0 r c)) := Lib.hid (HM.out.congr (fun c r _ _ => by rw [alU_row]))
          clear HM
          go_wp2_with fail
          go_roundw
          case rel => exact ⟨x + 1, by omega, by go_num, HM2, HB⟩
          case measure => simp [intOf]; omega
    · obtain rfl : x = cs.length := by omega
      obtain ⟨m17, hm17⟩ : ∃ m, m = n - 17 := ⟨_, rfl⟩
      obtain ⟨m11, hm11⟩ : ∃ m, m = n - 11 := ⟨_, rfl⟩
      have e17 : (n : Int) - 17 = (m17 : Int) := by omega
      have e11 : (n : Int) - 11 = (m11 : Int) := by omega
      have HE := Lib.hid (And.intro hm17 hm11)
      have b17 : 1 ≤ m17 ∧ m17 + 17 ≤ n := by omega
      have b11 : m11 + 11 ≤ n := by omega
      clear hm17 hm11
      go_wp2_with fail
      refine (setRegion_any p g n 6 9 1 m17 _ wr HM.out hn177 (by decide) b17.1 (by omega) (by omega)).mono ?_
      rintro e w2 ⟨rfl, hm2, hb2⟩
      have HB2 := Lib.hid (HB.out.trans (hb2.mono hg))
      have HM2 := Lib.hid hm2
      clear hm2 hb2 HM HB
      go_wp2_with fail
      refine (setRegion_any p g n 9 6 m17 1 _ w2 HM2.out hn177 b17.1 (by decide) (by omega) (by omega)).mono ?_
      rintro e w3 ⟨rfl, hm3, hb3⟩
      have HB3 := Lib.hid (HB2.out.trans (hb3.mono hg))
      have c0' := cell_up c0 HB3.out
      have HM3 := Lib.hid hm3
      clear hm3 hb3 HM2 HB2
      by_cases h6 : 6 < v
      · go_wp2_with fail
        refine (setRegion_any p g n m11 0 3 6 _ w3 HM3.out hn177 (by decide) (by decide) (by omega) (by omega)).mono ?_
        rintro e w4 ⟨rfl, hm4, hb4⟩
        have HB4 := Lib.hid (HB3.out.trans (hb4.mono hg))
        have HM4 := Lib.hid hm4
        clear hm4 hb4 HM3 HB3 c0'
        go_wp2_with fail
        refine (setRegion_any p g n 0 m11 6 3 _ w4 HM4.out hn177 (by decide) (by decide) (by omega) (by omega)).mono ?_
        rintro e w5 ⟨rfl, hm5, hb5⟩
        have HB5 := Lib.hid (HB4.out.trans (hb5.mono hg))
        have HM5 : Hid (MatP w5 p g n (fun c r => givB v c r = true)) := Lib.hid (hm5.congr (fun c r hc hr => by
          rw [← HFIN.out c r hc hr]
          obtain ⟨q1, q2⟩ := HE.out
          by_cases hX : fpA n c r ∨ alU cs cs.length 0 r c
          · simp only [hX, true_or]
          · have hnf : ¬ fpA n c r := fun h => hX (.inl h)
            unfold fpA at hnf
            simp only [hX, false_or]
            omega))
        clear hm5 hb5 HM4 HB4
        go_wp2_with fail
        go_ret2
        exact ⟨p, g, rfl, HM5.out, hp, hg, HB5.out⟩
      · have HM5 : Hid (MatP w3 p g n (fun c r => givB v c r = true)) := Lib.hid (HM3.out.congr (fun c r hc hr => by
          rw [← HFIN.out c r hc hr]
          obtain ⟨q1, q2⟩ := HE.out
          by_cases hX : fpA n c r ∨ alU cs cs.length 0 r c
          · simp only [hX, true_or]
          · have hnf : ¬ fpA n c r := fun h => hX (.inl h)
            unfold fpA at hnf
            simp only [hX, false_or]
            omega))
        clear HM3
        go_wp2_with fail
        go_ret2
        exact ⟨p, g, rfl, HM5.out, hp, hg, HB3.out⟩
end Go.Proofs.Ytfgajbhgkdkmbaa
