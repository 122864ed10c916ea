/-
  WALKS: a picture of grays that go on and on; crops; whether pictures are alike.
-/
import Derived.Test.YtimfaplnhlnjlaaPc3
import Derived.Test.YtimfaplnhlnjlaaSx
import Derived.Deep.LoopGhost
namespace Go.Proofs.Ytimfaplnhlnjlaa
open Go.RowKit

/-- Grays that go on and on, M of them. -/
def grayL (G : List Nat) (M : Nat) : List Nat := (List.range M).map fun i => if G.length = 0 then 0 else G.getD (i % G.length) 0
theorem grayL_len (G : List Nat) (M : Nat) : (grayL G M).length = M := by simp [grayL]
theorem grayL_at (G : List Nat) (M i : Nat) (h : i < M) : (grayL G M).getD i 0 = if G.length = 0 then 0 else G.getD (i % G.length) 0 := by simp [grayL, List.getD, h]
theorem grayL_lt (G : List Nat) (M : Nat) (hG : ∀ x ∈ G, x < 256) : ∀ x ∈ grayL G M, x < 256 := fun x hx => by
  simp only [grayL, List.mem_map, List.mem_range] at hx
  obtain ⟨i, _, rfl⟩ := hx
  split
  · decide
  · rename_i h
    have : i % G.length < G.length := Nat.mod_lt _ (by omega)
    rw [List.getD, List.getElem?_eq_getElem this]
    exact hG _ (List.getElem_mem this)
def pxW (n : Nat) : Nat := 1 + n % 60
def pxH (n l : Nat) : Nat := min 60 (max 1 (l / pxW n))
set_option maxRecDepth 100000 in
set_option maxHeartbeats 2000000 in
theorem grays_any (v : Value) (G : List Nat) (n : Nat) (w : World) (hv : Rd w w.heap.size v (b8 G)) (hG : G.length ≤ 2147483647) (hn : n < 256) :
    Calls Try.prog 10 #[v, .int .u8 n] w fun e w' => ∃ v', e = .returned (.tuple #[.int .i64 (pxW n), .int .i64 (pxH n G.length), v']) ∧ RdT w' 5 v' (b8 (grayL G (pxW n * pxH n G.length))) ∧ Below w.heap.size w w' := by
  obtain ⟨A, cap, rfl, h1, h2, h3⟩ := id hv
  have HV := Lib.hid hv; clear hv h3
  rw [b8_len] at *
  unfold maxLen at h2
  have hW0 : 1 ≤ pxW n ∧ pxW n ≤ 60 := by unfold pxW; omega
  have s3 : 1 + (n : Int) % 60 = (pxW n : Int) := by unfold pxW; omega
  have e1 : ((pxW n : Int) == 0) = false := by simp; omega
  have hQ : G.length / pxW n ≤ G.length := Nat.div_le_self _ _
  have s4 : (G.length : Int) / (pxW n : Int) = ((G.length / pxW n : Nat) : Int) := by simp
  have hHe : pxH n G.length = min 60 (max 1 (G.length / pxW n)) := rfl
  generalize pxH n G.length = H at *
  generalize pxW n = W at *
  generalize G.length / W = q at *
  have hH0 : 1 ≤ H ∧ H ≤ 60 := by omega
  have s6 : min 60 (max 1 (q : Int)) = (H : Int) := by omega
  have S4 := Lib.hid s4; have S6 := Lib.hid s6; have S3 := Lib.hid s3
  clear s3 s4 s6 hHe
  have s5 : wrap64 (q : Int) = (q : Int) := by unfold wrap64; omega
  obtain ⟨M, hM⟩ : ∃ M, M = W * H := ⟨_, rfl⟩
  have hM1 : M ≤ 3600 := by rw [hM]; have := Nat.mul_le_mul hW0.2 hH0.2; omega
  have s7 : wrap64 ((W : Int) * (H : Int)) = (M : Int) := by
    have : (W : Int) * (H : Int) = (M : Int) := by rw [hM]; simp
    rw [this]; unfold wrap64; omega
  have HM := Lib.hid hM; clear hM
  have e2 : ¬ (M : Int) < 0 := by omega
  have hmk := run_mk (P := Try.prog) 30 5 (.int .u8 0) 1 Try.underlying30 info_b8 rfl M (by omega) (by omega) w
  have s3 := S3.out; have s4 := S4.out; have s6 := S6.out
  clear S3 S4 S6
  go_enter Try.func10, Try.ntmps10
  go_wp2
  have hX0 : Blk (w.alloc (Obj.cells (rep M (Value.int IntKind.u8 0)) 5)) w.heap.size 5 (b8 (fillA (grayL G M) 0 M 0)).toArray := by
    rw [fill_zero]
    have e : rep M (Value.int IntKind.u8 0) = (b8 (List.replicate M 0)).toArray := by simp [rep, b8]
    rw [← e]; exact Blk.fresh w _ _
  have HX0 := Lib.hid hX0
  have HB0 := Lib.hid (bal (brf w) (Obj.cells (rep M (Value.int IntKind.u8 0)) 5))
  clear hX0 hmk s3 s4 s6 s5 s7
  go_loopw [10] (fun iv wr => ∃ (i : Nat), i ≤ M ∧ (G.length = 0 → i = 0) ∧ iv = .int .i64 i ∧ Hid (Blk wr w.heap.size 5 (b8 (fillA (grayL G M) 0 M i)).toArray) ∧ Hid (Below w.heap.size w wr)) (fun iv _ => M - (intOf iv).toNat)
  case atStart => exact ⟨0, Nat.zero_le _, fun _ => rfl, rfl, HX0, HB0⟩
  case round =>
    clear HX0 HB0
    obtain ⟨i, hi, hi0, rfl, HX, HB⟩ := hrel
    have hgl := grayL_len G M
    by_cases hlt : i < M
    · by_cases hg0 : 0 < G.length
      · obtain ⟨k, hk⟩ : ∃ k, k = i % G.length := ⟨_, rfl⟩
        have hkl : k < G.length := by rw [hk]; exact Nat.mod_lt _ hg0
        obtain ⟨b, o, u, rfl, hbw, hu, hc⟩ := HV.out.at_ hkl
        have hu2 := b8_at G k hkl
        rw [hu2] at hu
        injection hu with hu
        subst hu
        have c1 := (below_cells HB.out b _ hbw).trans hc
        have hset := fill_set (grayL G M) 0 M i (by omega) (by omega)
        have hgi : (grayL G M)[i] = G.getD k 0 := by
          have := grayL_at G M i hlt
          rw [List.getD, List.getElem?_eq_getElem (by omega), Option.getD_some, if_neg (by omega)] at this
          rw [this, hk]
        rw [hgi] at hset
        have s1 : (i : Int) % (G.length : Int) = (k : Int) := by rw [hk]; simp
        have e3 : ((G.length : Int) == 0) = false := by simp; rintro rfl; simp at hg0
        have e4 : ¬ G = [] := by rintro rfl; simp at hg0
        have hXn := HX.out.put i (.int .u8 ((G.getD k 0 : Nat) : Int))
        generalize G.getD k 0 = y at *
        rw [List.setIfInBounds_toArray, b8_set, hset] at hXn
        have HN := Lib.hid hXn
        have HBn := Lib.hid (HB.out.setCell (p := ⟨w.heap.size, i, none⟩) (Nat.le_refl _) (.int .u8 (y : Int)))
        have cO : ∃ u, wr.cell? ⟨w.heap.size, i, none⟩ = some u := ⟨.int .u8 0, by
          rw [HX.out.cell, List.getElem?_toArray]
          unfold b8
          rw [List.getElem?_map, fill_at_k (grayL G M) 0 M i hlt (by omega)]; rfl⟩
        obtain ⟨u, cO⟩ := cO
        have fO : wr.frozen? ⟨w.heap.size, i, none⟩ = false := HX.out.frozen _
        clear hset hXn hgi hk hc hu2 HX HB
        go_wp2
        go_roundw
        case rel => exact ⟨i + 1, by omega, fun h => by omega, by go_num, HN, HBn⟩
        case measure => simp [intOf]; omega
      · have hi00 : i = 0 := hi0 (by omega)
        subst hi00
        have hx := HX.out
        have hz : fillA (grayL G M) 0 M 0 = grayL G M := by
          rw [fill_zero]
          apply ext_getD
          · rw [hgl, List.length_replicate]
          · intro j hj
            rw [List.length_replicate] at hj
            rw [grayL_at G M j hj, if_pos (by omega)]
            simp [List.getD, hj]
        rw [hz] at hx
        have HX2 := Lib.hid hx
        have hl : G.length = 0 := by omega
        have hg : decide ((0 : Int) < (G.length : Int)) = false := by simp [hl]
        have hg' : ¬ (0 : Int) < (G.length : Int) := by omega
        clear hx hz HX
        go_wp2
        go_returns
        exact ⟨_, rfl, by rw [← HM.out]; exact RdT.of_blk (g := w.heap.size) HX2.out (by rw [b8_len, hgl]) (by rw [b8_len, hgl]; exact Nat.le_refl _) (by unfold maxLen; omega), HB.out⟩
    · obtain rfl : i = M := by omega
      have hx := HX.out
      have hz := fill_full (grayL G i) 0
      rw [hgl] at hz
      rw [hz] at hx
      have HX2 := Lib.hid hx
      clear hx hz HX
      go_wp2
      go_returns
      exact ⟨_, rfl, by rw [← HM.out]; exact RdT.of_blk (g := w.heap.size) HX2.out (by rw [b8_len, hgl]) (by rw [b8_len, hgl]; exact Nat.le_refl _) (by unfold maxLen; omega), HB.out⟩

/-- Bytes as a string. -/
def strOf (L : List Nat) : ByteArray := ofL (L.map UInt8.ofNat)
theorem strOf_bytes (L : List Nat) (h : ∀ x ∈ L, x < 256) : bytesOf (strOf L) = b8 L := by
  rw [strOf, bytesOf_ofL]
  unfold bl b8
  rw [List.map_map]
  apply List.map_congr_left
  intro x hx
  have := h x hx
  simp only [Function.comp, UInt8.toNat_ofNat']
  congr 2
  exact Nat.mod_eq_of_lt this
/-- laws.pxSame of the same. -/
theorem same_any (u v : Value) (L : List Nat) (w : World) (hu : Rd w w.heap.size u (b8 L)) (hv : Rd w w.heap.size v (b8 L)) (hL : ∀ x ∈ L, x < 256) :
    Calls Try.prog 12 #[u, v] w fun e w' => e = .returned (.bool true) ∧ w' = w := by
  have c1 := conv_str (P := Try.prog) w _ 30 5 9 Try.underlying30 Try.underlying5 Try.underlying9 u (strOf L) (by rw [strOf_bytes L hL]; exact hu)
  have c2 := conv_str (P := Try.prog) w _ 30 5 9 Try.underlying30 Try.underlying5 Try.underlying9 v (strOf L) (by rw [strOf_bytes L hL]; exact hv)
  generalize strOf L = s at *
  clear hu hv
  go_enter Try.func12, Try.ntmps12
  go_wp2
  go_ret
  exact ⟨rfl, rfl⟩
set_option maxRecDepth 100000 in
/-- impl.GrayCrop of a part that lies within. -/
theorem grayCrop_any (v : Value) (L : List Nat) (W H x y a b : Nat) (w : World) (hv : RdT w 5 v (b8 L)) (hL : L.length = W * H) (h1 : x + a ≤ W) (h2 : y + b ≤ H) (ha : 0 < a) (hb : 0 < b) (hs : L.length ≤ 1000000) :
    Calls Try.prog 11 #[.int .i64 W, .int .i64 H, v, .int .i64 x, .int .i64 y, .int .i64 a, .int .i64 b] w fun e w' =>
      ∃ v', e = .returned (.tuple #[v', .bool true]) ∧ RdT w' 5 v' (b8 (partOf L W x y a b)) ∧ Below w.heap.size w w' := by
  have hHn : H ≤ L.length := by rw [hL]; exact Nat.le_mul_of_pos_left _ (by omega)
  have hWn : W ≤ L.length := by rw [hL]; exact Nat.le_mul_of_pos_right _ (by omega)
  have HV := Lib.hid hv; clear hv
  have HL := Lib.hid hL; clear hL
  obtain ⟨i1, hi1, hy0, hy1, hy2⟩ := info_three info_b8
  have hpl : (partOf L W x y a b).length ≤ L.length := by
    rw [partOf_len, HL.out]; exact Nat.mul_le_mul (by omega) (by omega)
  go_enter Try.func11, Try.ntmps11
  go_wp2_with fail
  refine (source_any W H v L w HV.out HL.out (by omega) (by omega) hs).mono ?_
  rintro e w1 ⟨p, v1, rfl, hp, hv1, hb1⟩
  obtain ⟨A, c, rfl, -, -, -⟩ := id hv1
  rw [b8_len] at hp hv1
  have HB1 := Lib.hid hb1
  have HP1 := Lib.hid hp
  have HV1 := Lib.hid hv1
  clear hp hv1 hb1
  unfold srcV
  go_wp2_with fail
  refine (crop_any p A L.length c W H 0 0 W H x y a b w1 HP1.out (by omega) (by omega) (by omega) (by omega)).mono ?_
  rintro e w2 ⟨p2, rfl, hp2, hb2⟩
  rw [Nat.zero_add, Nat.zero_add] at hp2
  have HB2 := Lib.hid (bup HB1.out hb2)
  have HP2 := Lib.hid hp2
  have HV2 := Lib.hid (HV1.out.up hb2)
  clear hp2 hb2 HP1 HV1 HB1
  unfold srcV
  go_wp2_with fail
  refine (matrix_any p2 A c W H x y a b L w2 HP2.out HV2.out HL.out h1 h2 ha hb hs).mono ?_
  rintro e w3 ⟨v3, rfl, hv3, hb3⟩
  have HV3 := Lib.hid hv3
  have HB3 := Lib.hid (bup HB2.out hb3)
  clear hv3 hb3 HB2 HP2 HV2 HV
  go_wp2_with (at_builtin; refine list_app_rd _ rfl _ _ 30 rfl w3.heap.size 5 i1 _ 1 Try.underlying30 hi1 hy0 hy1 hy2 rfl _ 0 [] rfl (own_nil _ _ _) _ _ (b8 (partOf L W x y a b)) rfl HV3.out.rd (b8_one _) (by rw [b8_len]; unfold maxLen; omega) (by rw [b8_len]; omega) (Nat.le_refl _) ?_; intro v6 w6 ho6 hg6)
  have hb6 := below_grown (u := .slice none 0 0) (brf w3) hg6 (own_nil w3 w3.heap.size 5) (Nat.le_refl _)
  rw [List.nil_append, Nat.zero_add] at ho6
  have hr6 := RdT.of_own ho6
  obtain ⟨A6, c6, rfl, -, -, -⟩ := id hr6
  have HR6 := Lib.hid hr6
  have HB6 := Lib.hid (bup HB3.out hb6)
  clear hr6 ho6 hg6 hb6
  go_wp2
  go_returns
  exact ⟨_, rfl, HR6.out, HB6.out⟩
end Go.Proofs.Ytimfaplnhlnjlaa
