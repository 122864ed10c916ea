/-
  THE LAW'S WALK: FnDMPlace.
-/
import Derived.Test.YtknipefcihkofaaDl2
namespace Go.Proofs.Ytknipefcihkofaa
open Go.RowKit

theorem rowsF_row9 (W H : Nat) (f : Nat → Nat → Bool) : ∀ r ∈ rowsF W H f, r.length = W := by
  intro r hr
  simp only [rowsF, List.mem_map] at hr
  obtain ⟨y, _, rfl⟩ := hr
  simp
def bytesI (b : List Int) : List UInt8 := b.map fun x => UInt8.ofNat x.toNat
theorem bytesI_bl (b : List Int) (h : ∀ x ∈ b, 0 ≤ x ∧ x ≤ 255) : vals .u8 b = bl (bytesI b) := by
  unfold vals bl bytesI
  rw [List.map_map]
  apply List.map_congr_left
  intro x hx
  have := h x hx
  simp only [Function.comp_apply, Value.int.injEq, true_and]
  have e : (UInt8.ofNat x.toNat).toNat = x.toNat := by simp; omega
  rw [e]; omega
set_option maxRecDepth 100000 in
set_option maxHeartbeats 4000000 in
theorem place_walk (v : Value) (b : List Int) (rows cols : Int) (w : World) (hv : Rd w w.heap.size v (vals .u8 b)) (hwf : ∀ x ∈ b, (Lit.int .u8 x).wf = true) :
    Calls Try.prog 5 #[v, .int .i64 rows, .int .i64 cols] w fun e w' => e = .returned (.bool true) ∧ Below w.heap.size w w' := by
  have hbd : ∀ x ∈ b, 0 ≤ x ∧ x ≤ 255 := fun x hx => by have := bounds_u8 (hwf x hx); omega
  rw [bytesI_bl b hbd] at hv
  obtain ⟨ws, hws⟩ : ∃ ws, ws = bytesI b := ⟨_, rfl⟩
  rw [← hws] at hv
  clear hws hbd hwf
  obtain ⟨A, cap, hvf, hcap, hcm⟩ := hv.form
  rw [bl_len] at hvf hcap
  unfold maxLen at hcm
  have HV := Lib.hid hv; clear hv
  subst hvf
  obtain ⟨n, hn⟩ : ∃ n, n = ws.length := ⟨_, rfl⟩
  have HN := Lib.hid hn.symm
  rw [← hn] at hcap HV ⊢
  clear hn
  by_cases hbig : 2147483647 < n
  · go_enter Try.func5, Try.ntmps5
    go_wp2
    go_ret
    exact ⟨rfl, brf w⟩
  · go_enter Try.func5, Try.ntmps5
    go_wp2_with fail
    refine (sizes_any _).mono ?_
    rintro e w1 ⟨g, rfl, hg, hb⟩
    have HG := Lib.hid hg; have HB1 := Lib.hid hb
    clear hg hb
    go_wp2_with fail
    go_loopw [14] (fun iv wr => ∃ (k : Nat), k ≤ 30 ∧ iv = .int .i64 k ∧ Hid (Below w1.heap.size w1 wr)) (fun iv _ => 30 - (intOf iv).toNat)
    case atStart => exact ⟨0, Nat.zero_le _, rfl, Lib.hid (brf w1)⟩
    case round =>
      obtain ⟨k, hk, rfl, HB⟩ := hrel
      by_cases hlt : k < 30
      · have hc : ∀ j, j < 7 → wr.cell? ⟨g, k * 7 + j, none⟩ = some (.int .i64 ((szA k j : Nat) : Int)) := fun j hj => by
          rw [(HG.out.up HB.out).cell]; exact nv_at _ _ _ (szF_at k hlt j hj)
        obtain ⟨hle, hr6, hr2, hc6, hc2, hw0, hw3⟩ := sz_bd k hlt
        have c0 := hc 0 (by decide); have c1 := hc 1 (by decide); have c2 := hc 2 (by decide); have c3 := hc 3 (by decide); have c4 := hc 4 (by decide); have c5 := hc 5 (by decide); have c6 := hc 6 (by decide)
        have l0 := hle 0 (by decide); have l1 := hle 1 (by decide); have l2 := hle 2 (by decide); have l3 := hle 3 (by decide); have l4 := hle 4 (by decide); have l5 := hle 5 (by decide)
        rw [Nat.add_zero] at c0
        have HGO := Lib.hid (goes_all k hlt)
        obtain ⟨R, hRe⟩ : ∃ R, R = mapR k := ⟨_, rfl⟩
        obtain ⟨C, hCe⟩ : ∃ C, C = mapC k := ⟨_, rfl⟩
        obtain ⟨Wn, hWe⟩ : ∃ C, C = wordsN k := ⟨_, rfl⟩
        rw [← hRe] at HGO hr6 hr2
        rw [← hCe] at HGO hc6 hc2
        rw [← hWe] at HGO hw0 hw3
        unfold mapR at hRe
        unfold mapC at hCe
        unfold wordsN at hWe
        clear hc hle
        generalize szA k 0 = a0 at *
        generalize szA k 1 = a1 at *
        generalize szA k 2 = a2 at *
        generalize szA k 3 = a3 at *
        generalize szA k 4 = a4 at *
        generalize szA k 5 = a5 at *
        generalize szA k 6 = a6 at *
        have HRE := Lib.hid hRe; have HCE := Lib.hid hCe; have HWE := Lib.hid hWe
        have e45 : (a4 : Int) + (a5 : Int) = (Wn : Int) := by omega
        clear hRe hCe hWe
        obtain ⟨S, hS⟩ : ∃ S, S = wr.heap.size := ⟨_, rfl⟩
        have HSS := Lib.hid hS
        have hbs := Blk.fresh wr 36 #[.int .i64 a0, .int .i64 a1, .int .i64 a2, .int .i64 a3, .int .i64 a4, .int .i64 a5, .int .i64 a6]
        have HBS := Lib.hid hbs
        clear hbs hS
        go_wp2_with fail
        refine (mapRows_any a0 a1 a2 a3 a4 a5 a6 _ l0 l2).mono ?_
        rintro e wA ⟨rfl, hbA⟩
        rw [← HRE.out]
        have HA := Lib.hid (HBS.out.up hbA)
        have HBA : Hid (Below w1.heap.size w1 wA) := Lib.hid (bup HB.out (bup (bal (brf wr) _) hbA))
        clear hbA HBS HB c0 c1 c2 c3 c4 c5 c6
        have s0 : wA.cell? ⟨wr.heap.size, 0, none⟩ = some (.int .i64 a0) := by rw [HA.out.cell]; rfl
        have s1 : wA.cell? ⟨wr.heap.size, 1, none⟩ = some (.int .i64 a1) := by rw [HA.out.cell]; rfl
        have s2 : wA.cell? ⟨wr.heap.size, 2, none⟩ = some (.int .i64 a2) := by rw [HA.out.cell]; rfl
        have s3 : wA.cell? ⟨wr.heap.size, 3, none⟩ = some (.int .i64 a3) := by rw [HA.out.cell]; rfl
        have s4 : wA.cell? ⟨wr.heap.size, 4, none⟩ = some (.int .i64 a4) := by rw [HA.out.cell]; rfl
        have s5 : wA.cell? ⟨wr.heap.size, 5, none⟩ = some (.int .i64 a5) := by rw [HA.out.cell]; rfl
        have s6 : wA.cell? ⟨wr.heap.size, 6, none⟩ = some (.int .i64 a6) := by rw [HA.out.cell]; rfl
        by_cases h1 : rows = (R : Int)
        · have f1 : ((R : Int) == rows) = true := by rw [h1]; exact beq_self_eq_true _
          have H1 := Lib.hid h1; clear h1
          go_wp2_with fail
          refine (mapCols_any a0 a1 a2 a3 a4 a5 a6 _ l1 l3).mono ?_
          rintro e wC ⟨rfl, hbC⟩
          rw [← HCE.out]
          have HC := Lib.hid (HA.out.up hbC)
          have HBC : Hid (Below w1.heap.size w1 wC) := Lib.hid (bup HBA.out hbC)
          clear hbC s0 s1 s2 s3 s4 s5 s6
          have s4 : wC.cell? ⟨wr.heap.size, 4, none⟩ = some (.int .i64 a4) := by rw [HC.out.cell]; rfl
          have s5 : wC.cell? ⟨wr.heap.size, 5, none⟩ = some (.int .i64 a5) := by rw [HC.out.cell]; rfl
          by_cases h2 : cols = (C : Int)
          · have f2 : ((C : Int) == cols) = true := by rw [h2]; exact beq_self_eq_true _
            have H2 := Lib.hid h2; clear h2
            by_cases h3 : n = Wn
            · have f3 : ((Wn : Int) == (n : Int)) = true := by rw [h3]; exact beq_self_eq_true _
              have H3 := Lib.hid h3; clear h3
              obtain ⟨kk, Me, hsw, hme, heq⟩ := placed hr6 hc6 hw0 HGO.out
              have HSW := Lib.hid hsw; have HME := Lib.hid hme; have HEQ := Lib.hid (heq ws)
              have HVC := Lib.hid ((HV.out.up HB1.out).up HBC.out)
              clear hsw hme heq
              go_wp2_with fail
              rw [H1.out, H2.out]
              refine (dmPlace_any Wn R C kk _ ws Me _ HVC.out (by rw [HN.out, H3.out]) HSW.out hr2 hc2 hr6 hc6 (by omega)).mono ?_
              rintro e wD ⟨v1, rfl, hr1, hbD⟩
              have HR1 := Lib.hid hr1
              have HVD := Lib.hid (HVC.out.up hbD)
              have HBD : Hid (Below w1.heap.size w1 wD) := Lib.hid (bup HBC.out hbD)
              clear hr1 hbD
              go_wp2_with fail
              refine (bits_any Wn R C kk _ ws Me _ HVD.out (by rw [HN.out, H3.out]) HSW.out HME.out hw0 hr2 hc2 hr6 hc6 (by omega)).mono ?_
              rintro e wE ⟨v2, rfl, hr2', hbE⟩
              have HR2 := Lib.hid hr2'
              have HR1E := Lib.hid (HR1.out.up hbE)
              have HBE : Hid (Below w1.heap.size w1 wE) := Lib.hid (bup HBD.out hbE)
              clear hr2' hbE
              go_wp2_with fail
              refine (alike_yes v1 v2 _ C _ HR1E.out (by rw [HEQ.out]; exact HR2.out) (by rw [rowsF_len]; omega) (rowsF_row9 C R _) (by omega)).mono ?_
              rintro e wF ⟨rfl, hbF⟩
              have HBF : Hid (Below w.heap.size w wF) := Lib.hid (bup HB1.out (bup HBE.out hbF))
              clear hbF
              go_wp2
              go_ret
              exact ⟨rfl, HBF.out⟩
            · have f3 : ((Wn : Int) == (n : Int)) = false := by rw [beq_eq_false_iff_ne]; omega
              clear h3
              go_wp2
              go_roundw
              case rel => exact ⟨k + 1, by omega, by go_num, HBC⟩
              case measure => simp [intOf] <;> omega
          · have f2 : ((C : Int) == cols) = false := by rw [beq_eq_false_iff_ne]; exact fun h => h2 h.symm
            clear h2
            go_wp2
            go_roundw
            case rel => exact ⟨k + 1, by omega, by go_num, HBC⟩
            case measure => simp [intOf] <;> omega
        · have f1 : ((R : Int) == rows) = false := by rw [beq_eq_false_iff_ne]; exact fun h => h1 h.symm
          clear h1
          go_wp2
          go_roundw
          case rel => exact ⟨k + 1, by omega, by go_num, HBA⟩
          case measure => simp [intOf] <;> omega
      · have hke : k = 30 := by omega
        clear hke
        have hk2 : ¬ (k : Int) < 30 := by omega
        go_wp2
        go_ret
        exact ⟨rfl, bup HB1.out HB.out⟩
end Go.Proofs.Ytknipefcihkofaa
