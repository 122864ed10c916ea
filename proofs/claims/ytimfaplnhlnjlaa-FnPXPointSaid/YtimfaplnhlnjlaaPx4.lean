/-
  THE LAW of a histogram's bound, walked.
-/
import Derived.Test.YtimfaplnhlnjlaaPx3
namespace Go.Proofs.Ytimfaplnhlnjlaa
open Go.RowKit Go.WideShapes Go.ChangeShapes

theorem dec_false {a b : Int} (h : ¬ a < b) : decide (a < b) = false := decide_eq_false h
set_option maxRecDepth 100000 in
set_option maxHeartbeats 1000000 in
theorem point_walk (v : Value) (xs : List Nat) (w : World) (hv : Rd w w.heap.size v (uv xs)) (hx : ∀ x ∈ xs, x < 65536) :
    Calls Try.prog 3 #[v] w fun e w' => e = .returned (.bool true) ∧ Below w.heap.size w w' := by
  obtain ⟨A, cap, rfl, h1, h2, h3⟩ := id hv
  have HV := Lib.hid hv; clear hv h3
  rw [uv_len] at *
  unfold maxLen at h2
  by_cases hbig : (2147483647 : Int) < (xs.length : Int)
  · go_enter Try.func3, Try.ntmps3
    go_wp2
    go_ret
    exact ⟨rfl, brf w⟩
  · go_enter Try.func3, Try.ntmps3
    go_wp2_with fail
    refine (buckets_any _ xs w HV.out hx).mono ?_
    rintro e w1 ⟨v1, rfl, hv1, hb1⟩
    have hlen := part_len xs 32
    have hcs : ∀ i, (part xs 32).getD i 0 < 65536 := fun i => by
      rcases Nat.lt_or_ge i 32 with h | h
      · rw [part_at _ _ _ h, if_pos h, List.getD]
        rcases Nat.lt_or_ge i xs.length with h2 | h2
        · rw [List.getElem?_eq_getElem h2]; exact hx _ (List.getElem_mem h2)
        · rw [List.getElem?_eq_none h2]; decide
      · rw [part_over _ _ _ h]; decide
    generalize part xs 32 = cs at *
    have hN : cntN (fun j => cs.getD j 0) 32 ≤ 32 := cntN_le _ _
    have HN := Lib.hid (rfl : cntN (fun j => cs.getD j 0) 32 = cntN (fun j => cs.getD j 0) 32)
    generalize hNe : cntN (fun j => cs.getD j 0) 32 = N at hN HN ⊢
    have HNE := Lib.hid hNe; clear hNe HN
    have HL := Lib.hid hlen; clear hlen
    have HC := Lib.hid hcs; clear hcs hx HV
    have HV1 := Lib.hid hv1; clear hv1
    have HB1 := Lib.hid hb1; clear hb1
    go_wp2_with fail
    refine (blackPoint_any v1 cs w1 HV1.out HL.out HC.out).mono ?_
    rintro e w2 ⟨hb2, f, s, hp, ⟨h5, rfl⟩ | ⟨b, h5, h6, rfl⟩⟩
    · have HB2 := Lib.hid (bup HB1.out hb2)
      have HV2 := Lib.hid (HV1.out.up hb2)
      have HP := Lib.hid hp; clear hp hb2 HB1 HV1
      by_cases h2 : N = 2
      · subst h2
        have hset : ∀ x, x < 32 → 0 < cs.getD x 0 → x = f ∨ x = s := fun x hx hc => by
          obtain ⟨hf, hs, hmax, hor⟩ := HP.out
          rcases hor with h | ⟨hcs, hsf⟩
          · by_cases hxf : x = f
            · exact .inl hxf
            · have := h x hx hxf; omega
          · have hcf : 0 < cs.getD f 0 := Nat.lt_of_lt_of_le hc (hmax x hx)
            exact cntN_just (fun j => cs.getD j 0) 32 f s x HNE.out hf hs hx hcf hcs hc hsf
        have HS := Lib.hid hset; clear hset
        go_wp2_with fail
        refine (wide_any v1 cs f s w2 HV2.out HL.out HS.out h5).mono ?_
        rintro e w3 ⟨rfl, rfl⟩
        go_wp2
        go_ret
        exact ⟨rfl, HB2.out⟩
      · have e2 : ((N : Int) != 2) = true := by simp; omega
        go_wp2
        go_ret
        exact ⟨rfl, HB2.out⟩
    · have HB2 := Lib.hid (bup HB1.out hb2)
      have HV2 := Lib.hid (HV1.out.up hb2)
      have HP := Lib.hid hp; clear hp hb2 HB1 HV1
      by_cases h2 : N < 2
      · have e2 : ((N : Int) != 2) = true := by simp; omega
        have e3 : decide ((N : Int) < 2) = true := by simp; omega
        go_wp2
        go_ret
        exact ⟨rfl, HB2.out⟩
      · have HQ : Hid (0 < cs.getD (min f s) 0 ∧ 0 < cs.getD (max f s) 0 ∧ max f s < 32) := Lib.hid (by
          obtain ⟨hf, hs, hmax, hor⟩ := HP.out
          obtain ⟨x, hx, hxf, hcx⟩ := cntN_two (fun j => cs.getD j 0) 32 f (by rw [HNE.out]; omega)
          have hcf : 0 < cs.getD f 0 := Nat.lt_of_lt_of_le hcx (hmax x hx)
          rcases hor with h | ⟨hcs, hsf⟩
          · have := h x hx hxf; omega
          · rcases Nat.le_total f s with h | h
            · rw [Nat.min_eq_left h, Nat.max_eq_right h]; exact ⟨hcf, hcs, hs⟩
            · rw [Nat.min_eq_right h, Nat.max_eq_left h]; exact ⟨hcs, hcf, hf⟩)
        have hmx := HQ.out.2.2
        generalize min f s = lo at *
        generalize max f s = hi at *
        obtain ⟨A1, cap1, rfl, h11, h12, h13⟩ := HV2.out
        simp only [nv_len] at h11 h13 ⊢
        rw [HL.out] at h11 h13 ⊢
        unfold maxLen at h12
        obtain ⟨bb, o, rfl, hbb, hcell⟩ := h13 (by decide)
        have hcc : ∀ j, j < 32 → w2.cell? ⟨bb, o + j, none⟩ = some (.int .i64 ((cs.getD j 0 : Nat) : Int)) := fun j hj => hcell j _ (nv_at cs j (by rw [HL.out]; exact hj))
        clear hcell h13
        have HCC := Lib.hid hcc; clear hcc
        have e3 : decide ((N : Int) < 2) = false := by simp; omega
        have hb8 : (8 * b : Nat) % 8 = 0 := by omega
        have hdiv : (8 : Int) * (b : Int) / 8 = (b : Int) := by omega
        clear HV2 h2
        go_wp2
        go_loop [7, 8, 9] (fun a z i => ∃ k p q : Nat, k ≤ 32 ∧ p ≤ 65536 * k ∧ q ≤ 65536 * k ∧ i = .int .i64 k ∧ a = .int .i64 p ∧ z = .int .i64 q ∧ Hid (lo < k → 0 < p) ∧ Hid (hi < k → 0 < q)) (fun _ _ i => 32 - (intOf i).toNat)
        case atStart => exact ⟨0, 0, 0, by omega, by omega, by omega, rfl, rfl, rfl, Lib.hid (fun h => absurd h (by omega)), Lib.hid (fun h => absurd h (by omega))⟩
        case round =>
          obtain ⟨k, p, q, hk, hp, hq, rfl, rfl, rfl, HA, HZ⟩ := hrel
          by_cases hlt : k < 32
          · have c1 := HCC.out k hlt
            have hck := HC.out k
            have HW : Hid ((k = lo → 0 < cs.getD k 0) ∧ (k = hi → 0 < cs.getD k 0)) := Lib.hid ⟨fun h => by rw [h]; exact HQ.out.1, fun h => by rw [h]; exact HQ.out.2.1⟩
            generalize cs.getD k 0 = y at *
            by_cases hkb : k < b
            · go_wp2
              go_round
              case rel => exact ⟨k + 1, p + y, q, by omega, by omega, by omega, by go_num, by go_num, rfl, Lib.hid (fun h => by have := HA.out; have := HW.out.1; omega), Lib.hid (fun h => by omega)⟩
              case measure => simp [intOf]; omega
            · go_wp2
              go_round
              case rel => exact ⟨k + 1, p, q + y, by omega, by omega, by omega, by go_num, rfl, by go_num, Lib.hid (fun h => by have := HA.out; omega), Lib.hid (fun h => by have := HZ.out; have := HW.out.2; omega)⟩
              case measure => simp [intOf]; omega
          · obtain rfl : k = 32 := by omega
            have hp0 : 0 < p := HA.out (by omega)
            have hq0 : 0 < q := HZ.out (by omega)
            go_wp2
            go_ret
            exact ⟨rfl, HB2.out⟩
theorem vals_uv {l : List Int} (wf : ∀ n ∈ l, (Lit.int .u16 n).wf = true) : vals .u16 l = uv (l.map Int.toNat) ∧ ∀ x ∈ l.map Int.toNat, x < 65536 := by
  constructor
  · unfold vals uv
    rw [List.map_map]
    apply List.map_congr_left
    intro n hn
    have := bounds_u16 (wf n hn)
    simp only [Function.comp]
    rw [Int.toNat_of_nonneg this.1]
  · intro x hx
    obtain ⟨n, hn, rfl⟩ := List.mem_map.1 hx
    have := bounds_u16 (wf n hn)
    omega
theorem point_law (v : Value) (l : List Int) (w : World) (hv : Rd w w.heap.size v (vals .u16 l)) (wf : ∀ n ∈ l, (Lit.int .u16 n).wf = true) :
    Calls Try.prog 3 #[v] w fun e w' => e = .returned (.bool true) ∧ Below w.heap.size w w' :=
  point_walk v (l.map Int.toNat) w (by rw [← (vals_uv wf).1]; exact hv) (vals_uv wf).2
end Go.Proofs.Ytimfaplnhlnjlaa
