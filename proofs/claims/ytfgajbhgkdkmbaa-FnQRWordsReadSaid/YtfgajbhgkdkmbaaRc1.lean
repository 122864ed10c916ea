/-
  WALKS: spec.QRBytes; laws.qrBytes of two lists that are alike; PLAIN: what stands in the format's and the version's places; WALK: BitMatrixParser.ReadCodewords of a symbol that the standard lays.
-/
import Derived.Test.YtfgajbhgkdkmbaaRw
import Derived.Test.YtfgajbhgkdkmbaaWy2
import Derived.Test.YtfgajbhgkdkmbaaFm1
import Derived.Test.YtfgajbhgkdkmbaaFm3
import Derived.Test.YtfgajbhgkdkmbaaVc5
import Derived.Test.YtfgajbhgkdkmbaaCan
namespace Go.Proofs.Ytfgajbhgkdkmbaa
open Go.RowKit

/-- The number that k bits from place o on say, the highest one first. -/
def accB (bits : List Bool) (o : Nat) : Nat → Nat
  | 0 => 0
  | k + 1 => accB bits o k * 2 + (bits.getD (o + k) false).toNat
theorem accB_lt (bits : List Bool) (o : Nat) : ∀ k, accB bits o k < 2 ^ k
  | 0 => Nat.one_pos
  | k + 1 => by
    have h := accB_lt bits o k
    unfold accB
    rw [Nat.pow_succ]
    have : (bits.getD (o + k) false).toNat ≤ 1 := by cases bits.getD (o + k) false <;> decide
    omega
/-- Bits as bytes. -/
def byteL (bits : List Bool) (T : Nat) : List Nat := (List.range T).map fun i => accB bits (8 * i) 8
theorem byteL_len (bits : List Bool) (T : Nat) : (byteL bits T).length = T := by simp [byteL]
theorem byteL_at (bits : List Bool) (T i : Nat) (h : i < (byteL bits T).length) : (byteL bits T)[i] = accB bits (8 * i) 8 := by simp [byteL]
/-- Bytes as values. -/
def yv (l : List Nat) : List Value := l.map fun n : Nat => Value.int .u8 (n : Int)
theorem yv_len (l : List Nat) : (yv l).length = l.length := by simp [yv]
theorem yv_at (l : List Nat) (i : Nat) (h : i < l.length) : (yv l)[i]? = some (.int .u8 ((l[i] : Nat) : Int)) := by simp [yv, h]
theorem yv_set (l : List Nat) (i x : Nat) : (yv l).toArray.setIfInBounds i (.int .u8 (x : Int)) = (yv (l.set i x)).toArray := by simp [yv, List.map_set]
theorem yv_rep (n : Nat) : rep n (.int .u8 0) = (yv (List.replicate n 0)).toArray := by simp [yv, rep]
theorem info_u8 : (Try.prog.info? 5).map (fun i => (i.zero, i.size, i.bytes)) = some (some (.int .u8 0), 1, 1) := by kernel_rfl
theorem mk_bytes (n : Nat) (W : World) (hn : n ≤ 65536) : (Instr.makeSlice 22 (.int .i64 (n : Int)) (.int .i64 (n : Int))).run Try.prog W =
    .ok (.slice (some ⟨W.heap.size, 0, none⟩) n n) (W.alloc (.cells (yv (List.replicate n 0)).toArray 5)) := by
  have h := run_mk (P := Try.prog) 22 5 (.int .u8 0) 1 Try.underlying22 info_u8 rfl n (by omega) (by omega) W
  rw [yv_rep] at h
  exact h
set_option maxRecDepth 100000 in
set_option maxHeartbeats 4000000 in
theorem qrBytesOf_any (s : Value) (bits : List Bool) (T : Nat) (w0 : World) (hs : Rd w0 w0.heap.size s (bv bits)) (hl : bits.length = 8 * T) (hT : T ≤ 5000) :
    Calls Try.prog 28 #[s] w0 fun e w' => ∃ s', e = .returned s' ∧ RdT w' 5 s' (yv (byteL bits T)) ∧ Below w0.heap.size w0 w' := by
  obtain ⟨A, cap, rfl, q1, q2, q3⟩ := hs
  rw [bv_len] at q1 q3 ⊢
  have HQ3 := Lib.hid q3; clear q3
  unfold maxLen at q2
  have e1 : Int.tdiv (bits.length : Int) 8 = (T : Int) := by rw [Int.tdiv_eq_ediv_of_nonneg (by omega)]; omega
  have e2 : (bits.length : Int) / 8 = (T : Int) := by omega
  have hl1 : bits.length ≤ 8 * T := by omega
  have hl2 : 8 * T ≤ bits.length := by omega
  have hmk := fun a => mk_bytes T a (by omega)
  clear hl
  go_enter Try.func28, Try.ntmps28
  go_wp2_with fail
  clear hmk e1 e2
  go_loopw [12] (fun iv wr => ∃ (i : Nat), i ≤ T ∧ iv = .int .i64 (i : Int) ∧ Hid (Blk wr w0.heap.size 5 (yv (fillA (byteL bits T) 0 T i)).toArray) ∧ Hid (Below w0.heap.size w0 wr)) (fun iv _ => T - (intOf iv).toNat)
  case atStart => exact ⟨0, by omega, rfl, Lib.hid (by rw [fill_zero]; exact Blk.fresh w0 _ _), Lib.hid (bal (brf w0) _)⟩
  case round =>
    obtain ⟨i, hi, rfl, HBK, HB⟩ := hrel
    by_cases hlt : i < T
    · go_wp2_with fail
      go_loopw [5] (fun kv wr => ∃ (k : Nat), k ≤ 8 ∧ kv = .int .i64 (k : Int) ∧ Hid (Blk wr w0.heap.size 5 (yv ((fillA (byteL bits T) 0 T i).set i (accB bits (8 * i) k))).toArray) ∧ Hid (Below w0.heap.size w0 wr)) (fun kv _ => 8 - (intOf kv).toNat)
      case atStart => exact ⟨0, by omega, rfl, Lib.hid (by
        have h9 := fill_at_k (byteL bits T) 0 T i hlt (by rw [byteL_len]; omega)
        have h8 : (fillA (byteL bits T) 0 T i).set i (accB bits (8 * i) 0) = fillA (byteL bits T) 0 T i := by
          apply List.ext_getElem?
          intro j
          by_cases hj : i = j
          · subst hj
            rw [List.getElem?_set_self (by rw [fill_len _ _ _ _ (by rw [byteL_len]; omega) (by rw [byteL_len]; exact Nat.le_refl _)]; exact hlt), h9]; rfl
          · rw [List.getElem?_set_ne hj]
        rw [h8]; exact HBK.out), HB⟩
      case round =>
        clear HBK HB
        rename World => wk
        obtain ⟨k, hk, rfl, HBK, HB⟩ := hrel
        by_cases hkl : k < 8
        · obtain ⟨L, hL⟩ : ∃ L, L = fillA (byteL bits T) 0 T i := ⟨_, rfl⟩
          have hLl : L.length = T := by rw [hL]; exact fill_len _ _ _ _ (by rw [byteL_len]; omega) (by rw [byteL_len]; exact Nat.le_refl _)
          rw [← hL] at HBK
          have hz := accB_lt bits (8 * i) k
          have hz2 : accB bits (8 * i) k < 128 := Nat.lt_of_lt_of_le hz (Nat.pow_le_pow_right (n := 2) (j := 7) (by decide) (by omega))
          have hnx : accB bits (8 * i) (k + 1) = accB bits (8 * i) k * 2 + (bits.getD (8 * i + k) false).toNat := rfl
          obtain ⟨bb, off, rfl, hbb, hcb⟩ := HQ3.out (by omega)
          have hk9 : 8 * i + k < bits.length := by omega
          have hcb2 := hcb (8 * i + k) _ (bv_at bits (8 * i + k) hk9)
          rw [show bits[8 * i + k] = bits.getD (8 * i + k) false by rw [List.getD, List.getElem?_eq_getElem hk9]; rfl] at hcb2
          have cbit := (below_cells HB.out bb _ hbb).trans hcb2
          generalize bits.getD (8 * i + k) false = bt at *
          have HNX := Lib.hid hnx
          clear hnx hz hcb hcb2
          generalize accB bits (8 * i) k = z at *
          obtain ⟨zn, hzn⟩ : ∃ zn, zn = accB bits (8 * i) (k + 1) := ⟨_, rfl⟩
          rw [← hzn] at HNX
          have HZ2 := Lib.hid hzn; clear hzn
          have cO : wk.cell? ⟨w0.heap.size, i, none⟩ = some (.int .u8 (z : Nat)) := by
            rw [HBK.out.cell, List.getElem?_toArray, yv_at _ i (by rw [List.length_set, hLl]; exact hlt), List.getElem_set_self]
          have fO := HBK.out.frozen i
          obtain ⟨z2, hz2e⟩ : ∃ z2, z2 = z * 2 := ⟨_, rfl⟩
          have e3 : (z : Int) * 2 = (z2 : Int) := by omega
          have e4 : (z2 : Int) % 256 = (z2 : Int) := by omega
          have e5 : IntKind.u8.wrap (z2 : Int) = (z2 : Int) := by rw [IntKind.wrap_u8]; omega
          have hb2 := HBK.out.put i (.int .u8 (z2 : Nat))
          rw [yv_set, List.set_set] at hb2
          have hB2 := HB.out.setCell (p := ⟨w0.heap.size, i, none⟩) (Nat.le_refl _) (.int .u8 (z2 : Nat))
          have cbit2 : (wk.setCell ⟨w0.heap.size, i, none⟩ (.int .u8 (z2 : Nat))).cell? ⟨bb, off + (8 * i + k), none⟩ = some (.bool bt) := by
            rw [below_cells hB2 bb _ hbb]; rw [below_cells HB.out bb _ hbb] at cbit; exact cbit
          have ix1 : (8 : Int) * (i : Int) + (k : Int) = ((8 * i + k : Nat) : Int) := by omega
          obtain ⟨p8, hp8⟩ : ∃ p8, p8 = 8 * i + k := ⟨_, rfl⟩
          rw [← hp8] at ix1 cbit2 hk9
          have hz2b : z2 ≤ 254 := by omega
          have HZN : Hid (zn = z2 + bt.toNat) := Lib.hid (by rw [HNX.out, hz2e])
          have HL := Lib.hid hL; have HLL := Lib.hid hLl
          clear hL hLl HBK HB HNX cbit hz2e hp8
          go_wp2_with (with_reducible refine stop_at (o := ⟨some 29, _, _, _, _, _⟩) ?_)
          refine Lib.hid ?_
          have HB2 := Lib.hid hB2
          have c2 : (wk.setCell ⟨w0.heap.size, i, none⟩ (.int .u8 (z2 : Nat))).cell? ⟨w0.heap.size, i, none⟩ = some (.int .u8 (z2 : Nat)) := by
            rw [hb2.cell, List.getElem?_toArray, yv_at _ i (by rw [List.length_set, HLL.out]; exact hlt), List.getElem_set_self]
          have f2 := hb2.frozen i
          have HBK2 := Lib.hid hb2
          clear hb2 hB2 cO fO e3 e4 e5
          generalize World.setCell wk _ _ = wq at *
          cases bt
          · have HN2 : Hid (Blk wq w0.heap.size 5 (yv ((fillA (byteL bits T) 0 T i).set i (accB bits (8 * i) (k + 1)))).toArray) := Lib.hid (by rw [← HL.out, ← HZ2.out, HZN.out]; exact HBK2.out)
            clear HBK2 c2 f2
            go_wp2_with fail
            go_roundw
            case rel => exact ⟨k + 1, by omega, by go_num, HN2, HB2⟩
            case measure => simp [intOf]; omega
          · have e6 : ((z2 : Int) + 1) % 256 = ((z2 + 1 : Nat) : Int) := by omega
            have e7 : (z2 : Int) + 1 = ((z2 + 1 : Nat) : Int) := by omega
            have HN2 : Hid (Blk (wq.setCell ⟨w0.heap.size, i, none⟩ (.int .u8 ((z2 + 1 : Nat) : Int))) w0.heap.size 5 (yv ((fillA (byteL bits T) 0 T i).set i (accB bits (8 * i) (k + 1)))).toArray) := Lib.hid (by
              have h9 := HBK2.out.put i (.int .u8 ((z2 + 1 : Nat) : Int))
              rw [yv_set, List.set_set] at h9
              rw [← HL.out, ← HZ2.out, HZN.out]; exact h9)
            have HNB2 : Hid (Below w0.heap.size w0 (wq.setCell ⟨w0.heap.size, i, none⟩ (.int .u8 ((z2 + 1 : Nat) : Int)))) := Lib.hid (HB2.out.setCell (p := ⟨w0.heap.size, i, none⟩) (Nat.le_refl _) _)
            obtain ⟨z3, hz3⟩ : ∃ z3, z3 = z2 + 1 := ⟨_, rfl⟩
            rw [← hz3] at e6 e7 HN2 HNB2
            clear hz3 HBK2 HB2
            go_wp2_with fail
            go_roundw
            case rel => exact ⟨k + 1, by omega, by go_num, HN2, HNB2⟩
            case measure => simp [intOf]; omega
        · obtain rfl : k = 8 := by omega
          have HB2 : Hid (Blk wk w0.heap.size 5 (yv (fillA (byteL bits T) 0 T (i + 1))).toArray) := Lib.hid (by
            have h9 := fill_set (byteL bits T) 0 T i (by rw [byteL_len]; exact hlt) (by rw [byteL_len]; exact Nat.le_refl _)
            rw [byteL_at] at h9
            rw [← h9]; exact HBK.out)
          clear HBK
          go_wp2_with fail
          go_roundw
          case rel => exact ⟨i + 1, by omega, by go_num, HB2, HB⟩
          case measure => simp [intOf]; omega
    · obtain rfl : T = i := by omega
      have HX : Hid (RdT wr 5 (.slice (some ⟨w0.heap.size, 0, none⟩) T T) (yv (byteL bits T))) := Lib.hid (by
        have h9 := HBK.out
        have h8 := fill_full (byteL bits T) 0
        rw [byteL_len] at h8
        rw [h8] at h9
        exact RdT.of_blk h9 (by rw [yv_len, byteL_len]) (by rw [yv_len, byteL_len]; exact Nat.le_refl _) (by unfold maxLen; omega))
      clear HBK
      go_wp2_with fail
      go_ret
      exact ⟨_, rfl, HX.out, HB.out⟩
/-- laws.qrBytes, of two lists that are alike. -/
theorem sameBytes_any (u v : Value) (L : List Nat) (w : World) (hu : RdT w 5 u (yv L)) (hv : RdT w 5 v (yv L)) : Calls Try.prog 25 #[u, v] w fun e w' => e = .returned (.bool true) ∧ Below w.heap.size w w' := by
  have HU := Lib.hid hu.rd; have HV := Lib.hid hv.rd
  obtain ⟨A, c, rfl, k1, k2, -⟩ := hu
  obtain ⟨A', c', rfl, k3, k4, -⟩ := hv
  rw [yv_len] at *
  unfold maxLen at k2 k4
  go_enter Try.func25, Try.ntmps25
  go_wp2_with fail
  go_loopw [13] (fun iv wr => ∃ i : Nat, i ≤ L.length ∧ iv = .int .i64 i ∧ Hid (Below w.heap.size w wr)) (fun iv _ => L.length - (intOf iv).toNat)
  case atStart => exact ⟨0, Nat.zero_le _, rfl, Lib.hid (brf w)⟩
  case round =>
    obtain ⟨i, hi, rfl, HB⟩ := hrel
    by_cases hlt : i < L.length
    · obtain ⟨b1, o1, x1, rfl, hb1, hx1, hc1⟩ := HU.out.at_ hlt
      obtain ⟨b2, o2, x2, rfl, hb2, hx2, hc2⟩ := HV.out.at_ hlt
      rw [yv_at L i hlt] at hx1 hx2
      injection hx1 with hx1
      injection hx2 with hx2
      subst hx1 hx2
      have r1 := cell_up hc1 HB.out
      have r2 := cell_up hc2 HB.out
      clear hc1 hc2
      generalize L[i] = y at *
      go_wp2_with fail
      refine Can.wp_region_can (fun w' => w'.cell? ⟨b1, o1 + i, none⟩ = some (.int .u8 y) ∧ w'.cell? ⟨b2, o2 + i, none⟩ = some (.int .u8 y)) 999 [0, 1, 2, 3, 4, 5, 6, 7, 8] (by kernel_rfl) (by kernel_rfl) (fun _ _ d _ _ h => by cases d <;> exact h) ⟨r1, r2⟩ (fun hHeld => ?_)
      repeat (refine Can.can_pure (v := ?_) rfl rfl (Or.inl ⟨by rfl, ?_⟩) ?_; rotate_left; (focus ((intro w hSw); (try dsimp only at hSw); go_simp; (try with_reducible rfl))); (try simp only [Act.put, List.getElem_toArray, List.getElem_cons_succ, List.getElem_cons_zero, List.setIfInBounds_toArray, List.set_cons_zero, List.set_cons_succ]))
      refine Can.can_done ?_
      have HB2 := Lib.hid (HB.out.drew)
      clear hHeld r1 r2 HB
      generalize World.drew wr = wq at *
      go_wp2
      go_roundw
      case rel => exact ⟨i + 1, by omega, by go_num, HB2⟩
      case measure => simp [intOf]; omega
    · obtain rfl : i = L.length := by omega
      go_wp2
      go_ret
      exact ⟨rfl, HB.out⟩

/-- Where a bit of the format stands, the pattern has it. -/
theorem pat_format (v l m c r k : Nat) (h1 : 1 ≤ v) (hc : c < 17 + 4 * v) (hr : r < 17 + 4 * v) (hk : fmtI ((17 + 4 * v : Nat) : Int) r c = (k : Int)) : givB v c r = true ∧ patB v l m c r = bitN (fmtT (l * 8 + m)) (k : Int) := by
  have hgv : givenB v (17 + 4 * v) (cenOf v) r c = true := decide_eq_true (by
    unfold givenP
    unfold fmtI at hk
    split at hk <;> (try split at hk) <;> (try split at hk) <;> (try split at hk) <;> (try split at hk) <;> (try split at hk) <;> (try split at hk) <;> omega)
  refine ⟨hgv, ?_⟩
  unfold patB
  rw [hgv, Bool.true_and]
  unfold pattnB
  rw [if_pos (by rw [hk]; omega), hk]
def verFarB (v : Nat) : Bool := (List.range 18).all fun k => decide (alignI (cenOf v) (k / 3) (17 + 4 * v - 11 + k % 3) < 0) && decide (alignI (cenOf v) (17 + 4 * v - 11 + k % 3) (k / 3) < 0)
set_option maxRecDepth 100000 in
theorem verFar_all : ((List.range 34).all fun v => verFarB (v + 7)) = true := by decide +kernel
theorem verFar {v k : Nat} (h7 : 7 ≤ v) (h40 : v ≤ 40) (hk : k < 18) : alignI (cenOf v) (k / 3) (17 + 4 * v - 11 + k % 3) < 0 ∧ alignI (cenOf v) (17 + 4 * v - 11 + k % 3) (k / 3) < 0 := by
  have h := List.all_eq_true.1 verFar_all (v - 7) (List.mem_range.2 (by omega))
  rw [show v - 7 + 7 = v by omega] at h
  have h2 := List.all_eq_true.1 h k (List.mem_range.2 hk)
  rw [Bool.and_eq_true, decide_eq_true_eq, decide_eq_true_eq] at h2
  exact h2
theorem pat_version1 (v l m k : Nat) (h7 : 7 ≤ v) (h40 : v ≤ 40) (hk : k < 18) : givB v (17 + 4 * v - 11 + k % 3) (k / 3) = true ∧ patB v l m (17 + 4 * v - 11 + k % 3) (k / 3) = bitN (verBits v) (k : Int) := by
  have hgv : givenB v (17 + 4 * v) (cenOf v) (k / 3) (17 + 4 * v - 11 + k % 3) = true := decide_eq_true (by unfold givenP; omega)
  refine ⟨hgv, ?_⟩
  have ha := (verFar h7 h40 hk).1
  unfold patB
  rw [hgv, Bool.true_and]
  have hf : ¬ 0 ≤ fmtI ((17 + 4 * v : Nat) : Int) ((k / 3 : Nat) : Int) ((17 + 4 * v - 11 + k % 3 : Nat) : Int) := by
    unfold fmtI
    split <;> (try split) <;> (try split) <;> (try split) <;> (try split) <;> (try split) <;> (try split) <;> omega
  have hm : ¬ farM ((17 + 4 * v : Nat) : Int) ((k / 3 : Nat) : Int) ((17 + 4 * v - 11 + k % 3 : Nat) : Int) ≤ 4 := by unfold farM farI; omega
  unfold pattnB
  rw [if_neg hf, if_neg (by omega), if_neg hm, if_neg (by omega), if_neg (by omega), if_pos (by omega)]
  congr 1
  omega
theorem pat_version2 (v l m k : Nat) (h7 : 7 ≤ v) (h40 : v ≤ 40) (hk : k < 18) : givB v (k / 3) (17 + 4 * v - 11 + k % 3) = true ∧ patB v l m (k / 3) (17 + 4 * v - 11 + k % 3) = bitN (verBits v) (k : Int) := by
  have hgv : givenB v (17 + 4 * v) (cenOf v) (17 + 4 * v - 11 + k % 3) (k / 3) = true := decide_eq_true (by unfold givenP; omega)
  refine ⟨hgv, ?_⟩
  have ha := (verFar h7 h40 hk).2
  unfold patB
  rw [hgv, Bool.true_and]
  have hf : ¬ 0 ≤ fmtI ((17 + 4 * v : Nat) : Int) ((17 + 4 * v - 11 + k % 3 : Nat) : Int) ((k / 3 : Nat) : Int) := by
    unfold fmtI
    split <;> (try split) <;> (try split) <;> (try split) <;> (try split) <;> (try split) <;> (try split) <;> omega
  have hm : ¬ farM ((17 + 4 * v : Nat) : Int) ((17 + 4 * v - 11 + k % 3 : Nat) : Int) ((k / 3 : Nat) : Int) ≤ 4 := by unfold farM farI; omega
  unfold pattnB
  rw [if_neg hf, if_neg (by omega), if_neg hm, if_neg (by omega), if_neg (by omega), if_neg (by omega)]
  congr 1
  omega
theorem way_pre (v t : Nat) : ∀ s, ∃ rest, way v (t + s) = way v t ++ rest
  | 0 => ⟨[], by simp⟩
  | s + 1 => by
    obtain ⟨rest, h⟩ := way_pre v t s
    rw [← Nat.add_assoc, way_succ, h, List.append_assoc]
    exact ⟨_, rfl⟩
/-- The next module of the data. -/
theorem way_at (v t : Nat) (ht : t < wayE v) (hg : ngB v (plc (17 + 4 * v) t) = true) : (way v t).length < (wayL v).length ∧ (wayL v).getD (way v t).length (0, 0) = plc (17 + 4 * v) t := by
  obtain ⟨rest, h⟩ := way_pre v (t + 1) (wayE v - (t + 1))
  rw [show t + 1 + (wayE v - (t + 1)) = wayE v by omega, way_succ, if_pos hg] at h
  unfold wayL
  rw [h]
  constructor
  · simp
  · rw [List.getD, List.append_assoc, List.getElem?_append_right (Nat.le_refl _), Nat.sub_self]; rfl

theorem MatAt.under {w w' : World} {p g W H B : Nat} {f : Nat → Nat → Bool} (h : MatAt w p g W H f) (hb : Below B w w') (hp : p < B) (hg : g < B) : MatAt w' p g W H f := by
  obtain ⟨ws, h1, h2⟩ := h
  exact ⟨ws, ⟨h1.head.below hb hp, h1.rows.below hb hg, h1.lt, h1.len, h1.apart⟩, h2⟩
theorem MatAt.lts {w : World} {p g W H : Nat} {f : Nat → Nat → Bool} (h : MatAt w p g W H f) : p < w.heap.size ∧ g < w.heap.size := by
  obtain ⟨ws, h1, _⟩ := h; exact ⟨h1.head.lt, h1.rows.lt⟩
theorem maskVs_at : ∀ m, m < 8 → ∃ F, maskVs.getD m undef = .func (.func F) #[] #[] := by
  intro m hm
  have h : m = 0 ∨ m = 1 ∨ m = 2 ∨ m = 3 ∨ m = 4 ∨ m = 5 ∨ m = 6 ∨ m = 7 := by omega
  rcases h with rfl | rfl | rfl | rfl | rfl | rfl | rfl | rfl <;> exact ⟨_, rfl⟩
/-- ReadVersion, of any size, where the version's bits are right. -/
theorem readVersion_any (p m g base v n : Nat) (pf : Value) (f : Nat → Nat → Bool) (w : World) (hp : ParA w p m (.pointer none) pf) (hm : MatAt w m g n n f) (hn : n = 17 + 4 * v) (h1 : 1 ≤ v) (h40 : v ≤ 40) (hbase : base ≤ p)
    (hA : 7 ≤ v → ∀ k, k < 18 → f (n - 11 + k % 3) (k / 3) = bitN (verBits v) (k : Int)) (hB : 7 ≤ v → ∀ k, k < 18 → f (k / 3) (n - 11 + k % 3) = bitN (verBits v) (k : Int)) :
    Calls Try.prog 43 #[.pointer (some ⟨p, 0, none⟩)] w fun e w' => ∃ q pv, e = .returned (.tuple #[.pointer (some ⟨q, 0, none⟩), .nilIface]) ∧ VerAt w' q v ∧ ParA w' p m pv pf ∧ MatAt w' m g n n f ∧ Below base w w' ∧ Frm 125 w w' := by
  by_cases h7 : 7 ≤ v
  · refine (readVersion_hi p m g base v n (verBits v) (verBits v) pf f w hp hm hn h7 h40 hbase (verBits_lt v h40) (verBits_lt v h40) (hA h7) (hB h7)).mono ?_
    have hd : dV (verBits v) v ≤ 3 := by unfold dV; rw [Nat.xor_self, pc_zero]; omega
    rintro e w' (⟨_, q, he, h⟩ | ⟨hno, _⟩)
    · exact ⟨q, _, he, h⟩
    · exact absurd (Or.inl hd) hno
  · refine (readVersion_lo p m g n v pf f w hp hm hn h1 (by omega)).mono ?_
    rintro e w' ⟨q, he, hq, hb⟩
    exact ⟨q, _, he, hq, hp.up hb, hm.up hb, hb.mono (Nat.le_trans hbase (Nat.le_of_lt (Blk.lt hp))), Frm.below hb⟩
/-- What lies read when place t of the way is reached: o bytes, b bits more, which say z. -/
structure RcS (v T gr : Nat) (bits : List Bool) (wX : World) (t o b z : Nat) (wr : World) : Prop where
  len : 8 * o + b = (way v t).length
  acc : z = accB bits (8 * o) b
  blk : Blk wr gr 5 (yv (fillA (byteL bits T) 0 T o)).toArray
  bel : Below gr wX wr
section
variable {v T gr t o b z : Nat} {bits : List Bool} {wX wr : World}
theorem RcS.skip (h : RcS v T gr bits wX t o b z wr) (hg : ngB v (plc (17 + 4 * v) t) = false) : RcS v T gr bits wX (t + 1) o b z wr :=
  ⟨by rw [way_len_succ, hg, h.len]; rfl, h.acc, h.blk, h.bel⟩
theorem RcS.more (h : RcS v T gr bits wX t o b z wr) (hg : ngB v (plc (17 + 4 * v) t) = true) : RcS v T gr bits wX (t + 1) o (b + 1) (z * 2 + (bits.getD (8 * o + b) false).toNat) wr :=
  ⟨by rw [way_len_succ, hg, ← h.len]; rfl, by rw [h.acc]; rfl, h.blk, h.bel⟩
theorem RcS.full (h : RcS v T gr bits wX t o 7 z wr) (hg : ngB v (plc (17 + 4 * v) t) = true) (hoT : o < T) : RcS v T gr bits wX (t + 1) (o + 1) 0 0 (wr.setCell ⟨gr, o, none⟩ (.int .u8 ((z * 2 + (bits.getD (8 * o + 7) false).toNat : Nat) : Int))) := by
  refine ⟨by rw [way_len_succ, hg, ← h.len]; show 8 * (o + 1) + 0 = 8 * o + 7 + 1; omega, rfl, ?_, h.bel.setCell (p := ⟨gr, o, none⟩) (Nat.le_refl _) _⟩
  have h1 := h.blk.put o (.int .u8 ((z * 2 + (bits.getD (8 * o + 7) false).toNat : Nat) : Int))
  have h2 := fill_set (byteL bits T) 0 T o (by rw [byteL_len]; exact hoT) (by rw [byteL_len]; exact Nat.le_refl _)
  rw [byteL_at] at h2
  rw [yv_set] at h1
  rw [← h2]
  have h3 : accB bits (8 * o) 8 = z * 2 + (bits.getD (8 * o + 7) false).toNat := by rw [h.acc]; rfl
  rw [h3]; exact h1
theorem RcS.lt (h : RcS v T gr bits wX t o b z wr) : z < 2 ^ b := by rw [h.acc]; exact accB_lt _ _ _
theorem RcS.cell (h : RcS v T gr bits wX t o b z wr) (hoT : o < T) : wr.cell? ⟨gr, o, none⟩ = some (.int .u8 0) := by
  rw [h.blk.cell, List.getElem?_toArray]
  unfold yv
  rw [List.getElem?_map, fill_at_k _ _ _ _ hoT (by rw [byteL_len]; omega)]; rfl
theorem RcS.begin_ (v T : Nat) (bits : List Bool) (w : World) : RcS v T w.heap.size bits (w.alloc (.cells (yv (List.replicate T 0)).toArray 5)) 0 0 0 0 (w.alloc (.cells (yv (List.replicate T 0)).toArray 5)) :=
  ⟨by simp [way], rfl, by rw [fill_zero]; exact Blk.fresh w _ _, Below.refl _ _⟩
end
set_option maxRecDepth 100000 in
set_option maxHeartbeats 8000000 in
theorem readWords_any (p m g base v l mk : Nat) (bits : List Bool) (w : World) (hp : ParA w p m (.pointer none) (.pointer none)) (hm : MatAt w m g (17 + 4 * v) (17 + 4 * v) (modF v l mk bits)) (h1 : 1 ≤ v) (h40 : v ≤ 40) (hl : l < 4) (hmk : mk < 8)
    (hbase : base ≤ p) (hbg : base ≤ g) :
    Calls Try.prog 58 #[.pointer (some ⟨p, 0, none⟩)] w fun e w' => ∃ s, e = .returned (.tuple #[s, .nilIface]) ∧ RdT w' 5 s (yv (byteL bits (totOf v))) ∧ Below base w w' := by
  have hpf := fun c r k (hc : c < 17 + 4 * v) (hr : r < 17 + 4 * v) hk => pat_format v l mk c r k h1 hc hr hk
  have hf : ∀ c r k : Nat, c < 17 + 4 * v → r < 17 + 4 * v → fmtI ((17 + 4 * v : Nat) : Int) r c = (k : Int) → modF v l mk bits c r = bitN (fmtT (l * 8 + mk)) (k : Int) := fun c r k hc hr hk => by
    rw [modF_given v l mk bits c r (hpf c r k hc hr hk).1]; exact (hpf c r k hc hr hk).2
  have hA : 7 ≤ v → ∀ k, k < 18 → modF v l mk bits (17 + 4 * v - 11 + k % 3) (k / 3) = bitN (verBits v) (k : Int) := fun h7 k hk => by
    rw [modF_given v l mk bits _ _ (pat_version1 v l mk k h7 h40 hk).1]; exact (pat_version1 v l mk k h7 h40 hk).2
  have hB : 7 ≤ v → ∀ k, k < 18 → modF v l mk bits (k / 3) (17 + 4 * v - 11 + k % 3) = bitN (verBits v) (k : Int) := fun h7 k hk => by
    rw [modF_given v l mk bits _ _ (pat_version2 v l mk k h7 h40 hk).1]; exact (pat_version2 v l mk k h7 h40 hk).2
  have hrf := readFormat_any p m g base (17 + 4 * v) (l * 8 + mk) (.pointer none) (modF v l mk bits) w hp hm (by omega) (by omega) hbase (by omega) hf
  have hrv := fun pf w' hp' hm' => readVersion_any p m g base v (17 + 4 * v) pf (modF v l mk bits) w' hp' hm' rfl h1 h40 hbase hA hB
  have hbit : ∀ t, t < wayE v → ngB v (plc (17 + 4 * v) t) = true → (way v t).length < (wayL v).length ∧ (modF v l mk bits (plc (17 + 4 * v) t).2 (plc (17 + 4 * v) t).1 != maskB mk (plc (17 + 4 * v) t).2 (plc (17 + 4 * v) t).1) = bits.getD (way v t).length false := fun t ht hg => by
    obtain ⟨h2, h3⟩ := way_at v t ht hg
    have h4 := modF_way v l mk bits h1 _ h2
    rw [h3] at h4
    refine ⟨h2, ?_⟩
    rw [h4]
    cases bits.getD (way v t).length false <;> cases maskB mk (plc (17 + 4 * v) t).2 (plc (17 + 4 * v) t).1 <;> rfl
  have hT5 := (sizOk h1 h40 (l := 0) (by decide)).2.2.2
  have hwl := wayL_len h1 h40
  have hl8 : (l * 8 + mk) / 8 = l := by omega
  have hm8 : (l * 8 + mk) % 8 = mk := by omega
  rw [hl8, hm8] at hrf
  obtain ⟨F, hF⟩ := maskVs_at mk hmk
  have hun := fun w' f' (hm' : MatAt w' m g (17 + 4 * v) (17 + 4 * v) f') => unmask_any mk m g (17 + 4 * v) f' w' hmk hm' (by omega)
  rw [hF] at hun
  have HRV := Lib.hid hrv; have HBIT := Lib.hid hbit; have HUN := Lib.hid hun
  have HWL := Lib.hid hwl
  clear hpf hf hA hB hrv hbit hun hl8 hm8 hp hm hwl
  have hFC : maskVs[mk]? = some (.func (.func F) #[] #[]) := by rw [← hF, List.getD, List.getElem?_eq_getElem (by show mk < 8; exact hmk)]; rfl
  have HFC := Lib.hid hFC
  clear hF hFC
  have hwE : wayE v = ((17 + 4 * v - 1) / 2 * (17 + 4 * v)) * 2 := rfl
  have HWE := Lib.hid hwE
  clear hwE
  generalize hN : 17 + 4 * v = n at *
  have HN := Lib.hid hN.symm
  have hn177 : n ≤ 177 := by omega
  have hn21 : 21 ≤ n := by omega
  clear hN
  go_enter Try.func58, Try.ntmps58
  go_wp2_with fail
  refine hrf.mono ?_
  rintro e w1 ⟨q1, rfl, hfi, hp1, hm1, -, hb1⟩
  have hrv := HRV.out _ w1 hp1 hm1
  have HFI := Lib.hid hfi
  have HB1 := Lib.hid hb1
  clear hrf hfi hp1 hm1 hb1 HRV
  go_wp2_with fail
  refine hrv.mono ?_
  rintro e w2 ⟨q2, pv, rfl, hq2, hp2, hm2, hb2, hfr⟩
  have hfi := hfr.blk HFI.out (by decide)
  have HB2 := Lib.hid (HB1.out.trans hb2)
  have HQ2 := Lib.hid hq2; have HP2 := Lib.hid hp2; have HM2 := Lib.hid hm2; have HF2 := Lib.hid hfi
  clear hrv hq2 hp2 hm2 hb2 hfr hfi HFI HB1
  go_wp2_with fail
  refine (dmTable_any _).mono ?_
  rintro e w3 ⟨g3, rfl, hg3, hb3⟩
  have hgm := fiMask_any q1 _ _ w3 (HF2.out.up hb3)
  have HB3 : Hid (Below base w w3) := Lib.hid (HB2.out.trans (hb3.mono (Nat.le_trans hbase (Nat.le_of_lt (Blk.lt HP2.out)))))
  have cM : w3.cell? ⟨g3, mk, none⟩ = some (.func (.func F) #[] #[]) := by rw [hg3.cell, List.getElem?_toArray]; exact HFC.out
  have HM3 := Lib.hid (HM2.out.up hb3)
  have HQ3 := Lib.hid (HQ2.out.up hb3)
  have HP3 := Lib.hid (HP2.out.up hb3)
  clear hg3 hb3 HF2 HM2 HQ2 HP2 HB2
  go_wp2_with fail
  refine hgm.mono ?_
  rintro e w3 ⟨rfl, rfl⟩
  clear hgm
  have c0 : w3.cell? ⟨p, 0, none⟩ = some (.pointer (some ⟨m, 0, none⟩)) := by rw [HP3.out.cell]; rfl
  have c0' := cell_up c0 (bal (brf w3) (.cells #[.func (.func F) #[] #[]] 164))
  clear c0
  have hst : ∀ (a : Addr) (md : Mode) (w' : World), (store a (.func (.func F) #[] #[]) md).run Try.prog w' = stored Try.prog w' a (.func (.func F) #[] #[]) md := fun a md w' => run_store _ w' a _ md rfl
  have HMA := Lib.hid (HM3.out.up (bal (brf w3) (.cells #[.func (.func F) #[] #[]] 164)))
  have HQA := Lib.hid (HQ3.out.up (bal (brf w3) (.cells #[.func (.func F) #[] #[]] 164)))
  have HPA := Lib.hid (HP3.out.up (bal (brf w3) (.cells #[.func (.func F) #[] #[]] 164)))
  have HBA : Hid (Below base w (w3.alloc (.cells #[.func (.func F) #[] #[]] 164))) := Lib.hid (HB3.out.alloc (Nat.le_trans hbase (Nat.le_of_lt (Blk.lt HP3.out))) _)
  have dT : (w3.alloc (.cells #[.func (.func F) #[] #[]] 164)).cell? ⟨w3.heap.size, 0, none⟩ = some (.func (.func F) #[] #[]) := by rw [(Blk.fresh w3 _ _).cell]; rfl
  clear HM3 HQ3 HP3 HB3
  go_wp2_with fail
  clear hst cM
  generalize hWA : w3.alloc (.cells #[.func (.func F) #[] #[]] 164) = wA at *
  generalize w3.heap.size = tb at *
  clear hWA
  refine (matHeight_any m g n n _ wA HMA.out).mono ?_
  rintro e wA ⟨rfl, rfl⟩
  have hun := HUN.out wA.drew _ (HMA.out.up (bdr (brf wA)))
  go_wp2_with fail
  refine Can.wp_region_can (fun w' => w'.cell? ⟨tb, 0, none⟩ = some (.func (.func F) #[] #[]) ∧ w'.cell? ⟨p, 0, none⟩ = some (.pointer (some ⟨m, 0, none⟩))) 6 [0, 1, 2, 3, 4, 5, 6] (by kernel_rfl) (by kernel_rfl) (fun _ _ d _ _ h => by cases d <;> exact h) ⟨dT, c0'⟩ (fun hHeld => ?_)
  repeat (refine Can.can_pure (v := ?_) rfl rfl (Or.inl ⟨by rfl, ?_⟩) ?_; rotate_left; (focus ((intro w hSw); (try dsimp only at hSw); go_simp; (try with_reducible rfl))); (try simp only [Act.put, List.getElem_toArray, List.getElem_cons_succ, List.getElem_cons_zero, List.setIfInBounds_toArray, List.set_cons_zero, List.set_cons_succ]))
  refine Can.can_tail rfl rfl (by rfl) (fun K hK => ?_)
  go_simp
  refine (hun).mono ?_
  rintro e w5 ⟨rfl, hm5, hb5, hf5⟩
  refine hK.out _ _ ?_
  clear hK K
  have HQ5 := Lib.hid ((HQA.out.up (bdr (brf wA))).frm hf5 (by decide) (by decide) (by decide) (by decide))
  have HP5 : Hid (ParA w5 p m pv (.pointer (some ⟨q1, 0, none⟩))) := Lib.hid (hf5.blk (HPA.out.up (bdr (brf wA))) (by decide))
  have HB5 := Lib.hid (HBA.out.trans ((bdr (brf wA)).mono (Nat.le_trans hbase (Nat.le_of_lt (Blk.lt HPA.out)))) |>.trans (hb5.mono hbg))
  have HM5 := Lib.hid hm5
  clear hHeld hun hm5 hb5 hf5 c0' dT HMA HQA HPA HBA HUN
  go_wp2_with fail
  have hfp := buildFP_any q2 v w5 HQ5.out h1 h40
  rw [← HN.out] at hfp
  refine hfp.mono ?_
  rintro e w6 ⟨p2, g2, rfl, ⟨FP, hf1, hf2⟩, hp2, hg2, hb6⟩
  have hm6 : MatAt w6 p2 g2 n n (givB v) := hf1.congr (fun x y hx hy => by rw [Bool.eq_iff_iff]; exact hf2 x y hx hy)
  have hml := (HM5.out.up hb6).lts
  have hm6l := hm6.lts
  have hpl : p < w6.heap.size := Blk.lt (HP5.out.up hb6)
  have hbw : base ≤ w6.heap.size := by omega
  have HM6 := Lib.hid (HM5.out.up hb6)
  have HFP := Lib.hid hm6
  have HQ6 := Lib.hid (HQ5.out.up hb6)
  have c0 : w6.cell? ⟨p, 0, none⟩ = some (.pointer (some ⟨m, 0, none⟩)) := by rw [(HP5.out.up hb6).cell]; rfl
  have HB6 : Hid (Below base w w6) := Lib.hid (HB5.out.trans (hb6.mono (Nat.le_trans hbase (Nat.le_of_lt (Blk.lt HP5.out)))))
  have HC6 := Lib.hid c0
  clear hfp hf1 hf2 hp2 hg2 hb6 hm6 c0 HQ5 HP5 HB5 HM5 hbase
  have hvt := verTot_any q2 v w6 HQ6.out
  have hst := RcS.begin_ v (totOf v) bits w6
  have hmkb := mk_bytes (totOf v) w6 (by omega)
  have hbX := bal (brf w6) (.cells (yv (List.replicate (totOf v) 0)).toArray 5)
  have HBX : Hid (Below base w (w6.alloc (.cells (yv (List.replicate (totOf v) 0)).toArray 5))) := Lib.hid (HB6.out.alloc (by omega) _)
  have HG1 : Hid (∀ wr c r, Below w6.heap.size (w6.alloc (.cells (yv (List.replicate (totOf v) 0)).toArray 5)) wr → c < n → r < n → Calls Try.prog 105 #[.pointer (some ⟨p2, 0, none⟩), .int .i64 (c : Nat), .int .i64 (r : Nat)] wr fun e w' => e = .returned (.bool (givB v c r)) ∧ w' = wr) := Lib.hid (fun wr c r hb hc hr =>
    matGet_any p2 g2 n n c r (givB v) wr ((HFP.out.up (bal (brf w6) _)).under hb hm6l.1 hm6l.2) hc hr (by omega) (by omega))
  have HG2 : Hid (∀ wr c r, Below w6.heap.size (w6.alloc (.cells (yv (List.replicate (totOf v) 0)).toArray 5)) wr → c < n → r < n → Calls Try.prog 105 #[.pointer (some ⟨m, 0, none⟩), .int .i64 (c : Nat), .int .i64 (r : Nat)] wr fun e w' => e = .returned (.bool (modF v l mk bits c r != maskB mk c r)) ∧ w' = wr) := Lib.hid (fun wr c r hb hc hr =>
    matGet_any m g n n c r _ wr ((HM6.out.up (bal (brf w6) _)).under hb hml.1 hml.2) hc hr (by omega) (by omega))
  have HC0 : Hid (∀ wr, Below w6.heap.size (w6.alloc (.cells (yv (List.replicate (totOf v) 0)).toArray 5)) wr → wr.cell? ⟨p, 0, none⟩ = some (.pointer (some ⟨m, 0, none⟩))) := Lib.hid (fun wr hb => (below_cells hb p 0 hpl).trans (cell_up HC6.out (bal (brf w6) _)))
  have HQX : Hid (∀ wr, Below w6.heap.size (w6.alloc (.cells (yv (List.replicate (totOf v) 0)).toArray 5)) wr → VerAt wr q2 v) := Lib.hid (fun wr hb => HQ6.out.up (hbX.trans hb))
  clear hbX HB6 HFP HM6 HQ6 HC6 hml hm6l
  obtain ⟨T, hT⟩ : ∃ T, T = totOf v := ⟨_, rfl⟩
  rw [← hT] at hT5 hvt hst hmkb HBX HG1 HG2 HC0 HWL HQX
  have HT := Lib.hid hT
  clear hT
  go_wp2_with fail
  refine hvt.mono ?_
  rintro e w6 ⟨rfl, rfl⟩
  clear hvt
  go_wp2_with fail
  clear hmkb
  have hgr : p < w6.heap.size ∧ base ≤ w6.heap.size := ⟨hpl, hbw⟩
  obtain ⟨wX, hwX⟩ : ∃ wX, wX = w6.alloc (.cells (yv (List.replicate T 0)).toArray 5) := ⟨_, rfl⟩
  obtain ⟨gr, hgre⟩ : ∃ gr, gr = w6.heap.size := ⟨_, rfl⟩
  rw [← hwX] at hst HBX HG1 HG2 HC0 HQX ⊢
  rw [← hgre] at hst HG1 HG2 HC0 HQX hgr ⊢
  have HGRE := Lib.hid hgre
  clear hwX hpl hgre
  have HS0 := Lib.hid hst
  clear hst
  obtain ⟨mm, hm⟩ : ∃ mm, mm = (n - 1) / 2 := ⟨_, rfl⟩
  have hm2 : n ≤ 2 * mm + 1 ∧ 2 * mm + 1 ≤ n := by have := HN.out; omega
  have hm10 : 10 ≤ mm ∧ mm ≤ 88 := by omega
  have HWE2 : Hid (wayE v = mm * n * 2) := Lib.hid (by rw [HWE.out, hm])
  clear hm HWE
  have h0i : headI n 0 = (n : Int) - 1 := by unfold headI; rw [if_pos (by omega)]; omega
  have HI0 := Lib.hid h0i
  clear h0i
  go_loopw [10, 12, 13, 14, 15] (fun uv ov cv bv jv wr => ∃ (k o b z : Nat), k ≤ mm ∧ jv = .int .i64 (headI n k) ∧ uv = .bool (decide (k % 2 = 0)) ∧ ov = .int .i64 (o : Int) ∧ cv = .int .i64 (z : Int) ∧ bv = .int .i64 (b : Int) ∧ o ≤ T ∧ b < 8 ∧ z < 128 ∧ Hid (RcS v T gr bits wX (k * n * 2) o b z wr)) (fun _ _ _ _ jv _ => (intOf jv + 1).toNat)
  case atStart => exact ⟨0, 0, 0, 0, by omega, by rw [HI0.out], rfl, rfl, rfl, rfl, by omega, by omega, by omega, by rw [Nat.zero_mul]; exact HS0⟩
  case round =>
    clear HS0 HI0
    obtain ⟨k, o, b, z, hk, rfl, rfl, rfl, rfl, rfl, ho, hb, hz, HS⟩ := hrel
    by_cases hkl : k < mm
    · obtain ⟨R, hR⟩ : ∃ R, R = rgt n k := ⟨_, rfl⟩
      have hnx : (R : Int) - 2 = headI n (k + 1) := by
        rcases headI_next n k (by omega) with h | h
        · rw [hR]; exact h
        · omega
      have hRb : 1 ≤ R ∧ R < n ∧ (2 * k + 7 = n → R = 5) ∧ (¬ 2 * k + 7 = n → headI n k = (R : Int) ∧ R ≠ 6) := by
        rw [hR]; unfold rgt headI; split <;> split <;> omega
      obtain ⟨hR1, hR2, hR3, hR4⟩ := hRb
      have HR : Hid (R = rgt (17 + 4 * v) k) := Lib.hid (by rw [← HN.out]; exact hR)
      have HNXT := Lib.hid hnx
      have HKE : Hid ((k * n + n) * 2 ≤ wayE v) := Lib.hid (by
        rw [HWE2.out]
        have h9 : (k + 1) * n ≤ mm * n := Nat.mul_le_mul_right n hkl
        rw [Nat.add_mul, Nat.one_mul] at h9
        omega)
      clear hR hnx
      by_cases hB : 2 * k + 7 = n
      · have hh : headI n k = 6 := by unfold headI; rw [if_pos (by omega)]; omega
        obtain rfl := hR3 hB
        rw [hh]
        clear hh hR3 hR4 hB
        by_cases hpar : k % 2 = 0
        · have HNX : Hid (decide ((k + 1) % 2 = 0) = false) := Lib.hid (decide_eq_false (by omega))
          have HRW0 : Hid (∀ i r, r = n - 1 - i → r = rowW (17 + 4 * v) k i) := Lib.hid (fun i r hr => by rw [← HN.out, hr]; unfold rowW; rw [if_pos hpar])
          rw [decide_eq_true hpar]
          clear hpar
          go_wp2_with fail
          go_loopw [12, 13, 14, 16] (fun ov cv bv iv wr => ∃ (i o b z : Nat), i ≤ n ∧ iv = .int .i64 (i : Int) ∧ ov = .int .i64 (o : Int) ∧ cv = .int .i64 (z : Int) ∧ bv = .int .i64 (b : Int) ∧ o ≤ T ∧ b < 8 ∧ z < 128 ∧ Hid (RcS v T gr bits wX ((k * n + i) * 2) o b z wr)) (fun _ _ _ iv _ => n - (intOf iv).toNat)
          case atStart => exact ⟨0, o, b, z, by omega, rfl, rfl, rfl, rfl, ho, hb, hz, HS⟩
          case round =>
            clear HS ho hb hz
            rename World => wi
            obtain ⟨i, o, b, z, hi, rfl, rfl, rfl, rfl, ho, hb, hz, HS⟩ := hrel
            by_cases hil : i < n
            · obtain ⟨r, hr⟩ : ∃ r, r = n - 1 - i := ⟨_, rfl⟩
              have e1 : (n : Int) - 1 - (i : Int) = (r : Int) := by omega
              have HRW := Lib.hid (HRW0.out i r hr)
              have hrn : r < n := by omega
              clear hr
              go_wp2_with fail
              clear e1
              -- the two columns of row r (HRW.out its fact, 5 the right column)
              go_loopw [12, 13, 14, 18] (fun ov cv bv dv wr => ∃ (d o b z : Nat), d ≤ 2 ∧ dv = .int .i64 (d : Int) ∧ ov = .int .i64 (o : Int) ∧ cv = .int .i64 (z : Int) ∧ bv = .int .i64 (b : Int) ∧ o ≤ T ∧ b < 8 ∧ z < 128 ∧ Hid (RcS v T gr bits wX ((k * n + i) * 2 + d) o b z wr)) (fun _ _ _ dv _ => 2 - (intOf dv).toNat)
              case atStart => exact ⟨0, o, b, z, by omega, rfl, rfl, rfl, rfl, ho, hb, hz, HS⟩
              case round =>
                clear HS ho hb hz
                rename World => wd
                obtain ⟨d, o, b, z, hd, rfl, rfl, rfl, rfl, ho, hb, hz, HS⟩ := hrel
                by_cases hdl : d < 2
                · obtain ⟨c, hc⟩ : ∃ c, c = 5 - d := ⟨_, rfl⟩
                  have e1 : (5 : Int) - (d : Int) = (c : Int) := by omega
                  have hcn : c < n := by omega
                  have hpl : plc n ((k * n + i) * 2 + d) = (r, c) := by
                    have h9 := HN.out
                    subst h9
                    rw [plc_at _ k i d (by omega) hdl, ← HRW.out, ← HR.out, ← hc]
                  have htE : (k * n + i) * 2 + d < wayE v := by
                    have h9 := HKE.out
                    omega
                  have hbt := HBIT.out _ htE
                  rw [hpl, ← HS.out.len] at hbt
                  have hg1 := HG1.out wd c r HS.out.bel hcn (by omega)
                  have hg2 := HG2.out wd c r HS.out.bel hcn (by omega)
                  have c0 := HC0.out wd HS.out.bel
                  have hngv : ngB v (plc (17 + 4 * v) ((k * n + i) * 2 + d)) = !givB v c r := by
                    rw [← HN.out, hpl]; rfl
                  have HHT := Lib.hid htE
                  clear hc hpl htE
                  obtain ⟨gv, hgv⟩ : ∃ gv, givB v c r = gv := ⟨_, rfl⟩
                  rw [hgv] at hg1 hngv
                  cases gv
                  · have HNG : Hid (ngB v (plc (17 + 4 * v) ((k * n + i) * 2 + d)) = true) := Lib.hid hngv
                    obtain ⟨hlt9, hbt9⟩ := hbt (by unfold ngB; show (!givB v c r) = true; rw [hgv]; rfl)
                    rw [hbt9] at hg2
                    clear hbt9 hngv hgv
                    obtain ⟨bt, hbtt⟩ : ∃ bt, bt = bits.getD (8 * o + b) false := ⟨_, rfl⟩
                    rw [← hbtt] at hg2
                    have HBT : Hid (bits.getD (8 * o + b) false = bt) := Lib.hid hbtt.symm
                    clear hbtt
                    go_wp2_with fail
                    refine hg1.mono ?_
                    rintro e wd ⟨rfl, rfl⟩
                    clear hg1 hbt
                    -- the bit bt is read: z3 is the number then
                    obtain ⟨z2, hz2⟩ : ∃ z2, z2 = z * 2 := ⟨_, rfl⟩
                    have ez2 : (z : Int) * 2 = (z2 : Int) := by omega
                    have hor : Go.bits .or .i64 (z2 : Int) 1 = ((z2 + 1 : Nat) : Int) := by
                      have h1 := i64_or z2 1 (by omega) (by decide)
                      have h2 : z2 ||| 1 = z2 + 1 := by
                        rw [hz2]
                        have := Nat.two_pow_add_eq_or_of_lt (i := 1) (b := 1) (by decide) z
                        rw [Nat.pow_one, Nat.mul_comm] at this
                        exact this.symm
                      rw [h2] at h1
                      exact h1
                    obtain ⟨z3, hz3⟩ : ∃ z3, z3 = z2 + 1 := ⟨_, rfl⟩
                    rw [← hz3] at hor
                    obtain ⟨b1, hb1⟩ : ∃ b1, b1 = b + 1 := ⟨_, rfl⟩
                    have eb1 : (b : Int) + 1 = (b1 : Int) := by omega
                    by_cases hb7 : b = 7
                    · have hoT : o < T := by have h9 := HS.out.len; have h8 := HWL.out; omega
                      have fb : ((b1 : Int) == 8) = true := by rw [beq_iff_eq]; omega
                      have cO := HS.out.cell hoT
                      have fO := HS.out.blk.frozen o
                      have hlt2 : z < 128 := hz
                      have w2b : IntKind.u8.wrap (z2 : Int) = (z2 : Int) := by rw [IntKind.wrap_u8]; omega
                      have w3b : IntKind.u8.wrap (z3 : Int) = (z3 : Int) := by rw [IntKind.wrap_u8]; omega
                      have m2b : (z2 : Int) % 256 = (z2 : Int) := by omega
                      have m3b : (z3 : Int) % 256 = (z3 : Int) := by omega
                      have HS2 : Hid (RcS v T gr bits wX ((k * n + i) * 2 + (d + 1)) (o + 1) 0 0 (wd.setCell ⟨gr, o, none⟩ (.int .u8 ((z2 + (bt).toNat : Nat) : Int)))) := Lib.hid (by
                        have h9 := HS.out
                        subst hb7
                        have h8 := h9.full HNG.out hoT
                        rw [HBT.out, ← hz2] at h8
                        exact h8)
                      clear hz2 hb1 hb7 HNG HBT
                      cases bt
                      · have e0 : z2 + (false).toNat = z2 := rfl
                        rw [e0] at HS2
                        clear hz3 e0
                        go_wp2_with fail
                        refine hg2.mono ?_
                        rintro e wd ⟨rfl, rfl⟩
                        clear HS
                        (try clear e1)
                        go_wp2_with fail
                        go_roundw
                        case rel => exact ⟨d + 1, (o + 1), 0, 0, by omega, by go_num, by go_num, by go_num, by go_num, by omega, by omega, by omega, HS2⟩
                        case measure => simp [intOf]; omega
                      · have e0 : z2 + (true).toNat = z3 := by rw [hz3]; rfl
                        rw [e0] at HS2
                        clear hz3 e0
                        go_wp2_with fail
                        refine hg2.mono ?_
                        rintro e wd ⟨rfl, rfl⟩
                        clear HS
                        (try clear e1)
                        go_wp2_with fail
                        go_roundw
                        case rel => exact ⟨d + 1, (o + 1), 0, 0, by omega, by go_num, by go_num, by go_num, by go_num, by omega, by omega, by omega, HS2⟩
                        case measure => simp [intOf]; omega
                    · have fb : ((b1 : Int) == 8) = false := by rw [beq_eq_false_iff_ne]; omega
                      have HS2 : Hid (RcS v T gr bits wX ((k * n + i) * 2 + (d + 1)) o b1 (z2 + (bt).toNat) wd) := Lib.hid (by
                        have h8 := HS.out.more HNG.out
                        rw [HBT.out, ← hz2, ← hb1] at h8
                        exact h8)
                      have hz4 : z2 + (bt).toNat < 128 := Nat.lt_of_lt_of_le HS2.out.lt (Nat.pow_le_pow_right (n := 2) (j := 7) (by decide) (by omega))
                      have hb18 : b1 < 8 := by omega
                      clear hz2 hb1 hb7 HNG HBT
                      cases bt
                      · have e0 : z2 + (false).toNat = z2 := rfl
                        rw [e0] at HS2 hz4
                        clear hz3 e0
                        go_wp2_with fail
                        refine hg2.mono ?_
                        rintro e wd ⟨rfl, rfl⟩
                        clear HS
                        (try clear e1)
                        go_wp2_with fail
                        go_roundw
                        case rel => exact ⟨d + 1, o, b1, z2, by omega, by go_num, by go_num, by go_num, by go_num, by omega, by omega, by omega, HS2⟩
                        case measure => simp [intOf]; omega
                      · have e0 : z2 + (true).toNat = z3 := by rw [hz3]; rfl
                        rw [e0] at HS2 hz4
                        clear hz3 e0
                        go_wp2_with fail
                        refine hg2.mono ?_
                        rintro e wd ⟨rfl, rfl⟩
                        clear HS
                        (try clear e1)
                        go_wp2_with fail
                        go_roundw
                        case rel => exact ⟨d + 1, o, b1, z3, by omega, by go_num, by go_num, by go_num, by go_num, by omega, by omega, by omega, HS2⟩
                        case measure => simp [intOf]; omega
                  · have HS2 : Hid (RcS v T gr bits wX ((k * n + i) * 2 + (d + 1)) o b z wd) := Lib.hid (HS.out.skip hngv)
                    clear hbt hg2 hngv hgv c0
                    go_wp2_with fail
                    refine hg1.mono ?_
                    rintro e wd ⟨rfl, rfl⟩
                    clear hg1 e1
                    clear HS
                    (try clear e1)
                    go_wp2_with fail
                    go_roundw
                    case rel => exact ⟨d + 1, o, b, z, by omega, by go_num, by go_num, by go_num, by go_num, by omega, by omega, by omega, HS2⟩
                    case measure => simp [intOf]; omega
                · obtain rfl : d = 2 := by omega
                  have HS2 : Hid (RcS v T gr bits wX ((k * n + (i + 1)) * 2) o b z wd) := Lib.hid (by rw [show (k * n + (i + 1)) * 2 = (k * n + i) * 2 + 2 by omega]; exact HS.out)
                  clear HS hdl hd
                  go_wp2_with fail
                  go_roundw
                  case rel => exact ⟨i + 1, o, b, z, by omega, by go_num, rfl, rfl, rfl, ho, hb, hz, HS2⟩
                  case measure => simp [intOf]; omega
            · obtain rfl : n = i := by omega
              have e : (k * n + n) * 2 = (k + 1) * n * 2 := by rw [Nat.add_mul k 1, Nat.one_mul]
              rw [e] at HS
              clear e hil hi
              go_wp2_with fail
              go_roundw
              case rel => exact ⟨k + 1, o, b, z, by omega, (by first | exact congrArg (Value.int .i64) HNXT.out | (rw [← HNXT.out]; rfl)), (by rw [HNX.out]), rfl, rfl, rfl, ho, hb, hz, HS⟩
              case measure => have h9 := HNXT.out; first | (simp [intOf]; done) | (simp [intOf]; omega)
        · have HNX : Hid (decide ((k + 1) % 2 = 0) = true) := Lib.hid (decide_eq_true (by omega))
          have HRW0 : Hid (∀ i, i = rowW (17 + 4 * v) k i) := Lib.hid (fun i => by unfold rowW; rw [if_neg hpar])
          rw [decide_eq_false hpar]
          clear hpar
          go_wp2_with fail
          go_loopw [12, 13, 14, 16] (fun ov cv bv iv wr => ∃ (i o b z : Nat), i ≤ n ∧ iv = .int .i64 (i : Int) ∧ ov = .int .i64 (o : Int) ∧ cv = .int .i64 (z : Int) ∧ bv = .int .i64 (b : Int) ∧ o ≤ T ∧ b < 8 ∧ z < 128 ∧ Hid (RcS v T gr bits wX ((k * n + i) * 2) o b z wr)) (fun _ _ _ iv _ => n - (intOf iv).toNat)
          case atStart => exact ⟨0, o, b, z, by omega, rfl, rfl, rfl, rfl, ho, hb, hz, HS⟩
          case round =>
            clear HS ho hb hz
            rename World => wi
            obtain ⟨i, o, b, z, hi, rfl, rfl, rfl, rfl, ho, hb, hz, HS⟩ := hrel
            by_cases hil : i < n
            · have HRW := Lib.hid (HRW0.out i)
              go_wp2_with fail
              -- the two columns of row i (HRW.out its fact, 5 the right column)
              go_loopw [12, 13, 14, 18] (fun ov cv bv dv wr => ∃ (d o b z : Nat), d ≤ 2 ∧ dv = .int .i64 (d : Int) ∧ ov = .int .i64 (o : Int) ∧ cv = .int .i64 (z : Int) ∧ bv = .int .i64 (b : Int) ∧ o ≤ T ∧ b < 8 ∧ z < 128 ∧ Hid (RcS v T gr bits wX ((k * n + i) * 2 + d) o b z wr)) (fun _ _ _ dv _ => 2 - (intOf dv).toNat)
              case atStart => exact ⟨0, o, b, z, by omega, rfl, rfl, rfl, rfl, ho, hb, hz, HS⟩
              case round =>
                clear HS ho hb hz
                rename World => wd
                obtain ⟨d, o, b, z, hd, rfl, rfl, rfl, rfl, ho, hb, hz, HS⟩ := hrel
                by_cases hdl : d < 2
                · obtain ⟨c, hc⟩ : ∃ c, c = 5 - d := ⟨_, rfl⟩
                  have e1 : (5 : Int) - (d : Int) = (c : Int) := by omega
                  have hcn : c < n := by omega
                  have hpl : plc n ((k * n + i) * 2 + d) = (i, c) := by
                    have h9 := HN.out
                    subst h9
                    rw [plc_at _ k i d (by omega) hdl, ← HRW.out, ← HR.out, ← hc]
                  have htE : (k * n + i) * 2 + d < wayE v := by
                    have h9 := HKE.out
                    omega
                  have hbt := HBIT.out _ htE
                  rw [hpl, ← HS.out.len] at hbt
                  have hg1 := HG1.out wd c i HS.out.bel hcn (by omega)
                  have hg2 := HG2.out wd c i HS.out.bel hcn (by omega)
                  have c0 := HC0.out wd HS.out.bel
                  have hngv : ngB v (plc (17 + 4 * v) ((k * n + i) * 2 + d)) = !givB v c i := by
                    rw [← HN.out, hpl]; rfl
                  have HHT := Lib.hid htE
                  clear hc hpl htE
                  obtain ⟨gv, hgv⟩ : ∃ gv, givB v c i = gv := ⟨_, rfl⟩
                  rw [hgv] at hg1 hngv
                  cases gv
                  · have HNG : Hid (ngB v (plc (17 + 4 * v) ((k * n + i) * 2 + d)) = true) := Lib.hid hngv
                    obtain ⟨hlt9, hbt9⟩ := hbt (by unfold ngB; show (!givB v c i) = true; rw [hgv]; rfl)
                    rw [hbt9] at hg2
                    clear hbt9 hngv hgv
                    obtain ⟨bt, hbtt⟩ : ∃ bt, bt = bits.getD (8 * o + b) false := ⟨_, rfl⟩
                    rw [← hbtt] at hg2
                    have HBT : Hid (bits.getD (8 * o + b) false = bt) := Lib.hid hbtt.symm
                    clear hbtt
                    go_wp2_with fail
                    refine hg1.mono ?_
                    rintro e wd ⟨rfl, rfl⟩
                    clear hg1 hbt
                    -- the bit bt is read: z3 is the number then
                    obtain ⟨z2, hz2⟩ : ∃ z2, z2 = z * 2 := ⟨_, rfl⟩
                    have ez2 : (z : Int) * 2 = (z2 : Int) := by omega
                    have hor : Go.bits .or .i64 (z2 : Int) 1 = ((z2 + 1 : Nat) : Int) := by
                      have h1 := i64_or z2 1 (by omega) (by decide)
                      have h2 : z2 ||| 1 = z2 + 1 := by
                        rw [hz2]
                        have := Nat.two_pow_add_eq_or_of_lt (i := 1) (b := 1) (by decide) z
                        rw [Nat.pow_one, Nat.mul_comm] at this
                        exact this.symm
                      rw [h2] at h1
                      exact h1
                    obtain ⟨z3, hz3⟩ : ∃ z3, z3 = z2 + 1 := ⟨_, rfl⟩
                    rw [← hz3] at hor
                    obtain ⟨b1, hb1⟩ : ∃ b1, b1 = b + 1 := ⟨_, rfl⟩
                    have eb1 : (b : Int) + 1 = (b1 : Int) := by omega
                    by_cases hb7 : b = 7
                    · have hoT : o < T := by have h9 := HS.out.len; have h8 := HWL.out; omega
                      have fb : ((b1 : Int) == 8) = true := by rw [beq_iff_eq]; omega
                      have cO := HS.out.cell hoT
                      have fO := HS.out.blk.frozen o
                      have hlt2 : z < 128 := hz
                      have w2b : IntKind.u8.wrap (z2 : Int) = (z2 : Int) := by rw [IntKind.wrap_u8]; omega
                      have w3b : IntKind.u8.wrap (z3 : Int) = (z3 : Int) := by rw [IntKind.wrap_u8]; omega
                      have m2b : (z2 : Int) % 256 = (z2 : Int) := by omega
                      have m3b : (z3 : Int) % 256 = (z3 : Int) := by omega
                      have HS2 : Hid (RcS v T gr bits wX ((k * n + i) * 2 + (d + 1)) (o + 1) 0 0 (wd.setCell ⟨gr, o, none⟩ (.int .u8 ((z2 + (bt).toNat : Nat) : Int)))) := Lib.hid (by
                        have h9 := HS.out
                        subst hb7
                        have h8 := h9.full HNG.out hoT
                        rw [HBT.out, ← hz2] at h8
                        exact h8)
                      clear hz2 hb1 hb7 HNG HBT
                      cases bt
                      · have e0 : z2 + (false).toNat = z2 := rfl
                        rw [e0] at HS2
                        clear hz3 e0
                        go_wp2_with fail
                        refine hg2.mono ?_
                        rintro e wd ⟨rfl, rfl⟩
                        clear HS
                        (try clear e1)
                        go_wp2_with fail
                        go_roundw
                        case rel => exact ⟨d + 1, (o + 1), 0, 0, by omega, by go_num, by go_num, by go_num, by go_num, by omega, by omega, by omega, HS2⟩
                        case measure => simp [intOf]; omega
                      · have e0 : z2 + (true).toNat = z3 := by rw [hz3]; rfl
                        rw [e0] at HS2
                        clear hz3 e0
                        go_wp2_with fail
                        refine hg2.mono ?_
                        rintro e wd ⟨rfl, rfl⟩
                        clear HS
                        (try clear e1)
                        go_wp2_with fail
                        go_roundw
                        case rel => exact ⟨d + 1, (o + 1), 0, 0, by omega, by go_num, by go_num, by go_num, by go_num, by omega, by omega, by omega, HS2⟩
                        case measure => simp [intOf]; omega
                    · have fb : ((b1 : Int) == 8) = false := by rw [beq_eq_false_iff_ne]; omega
                      have HS2 : Hid (RcS v T gr bits wX ((k * n + i) * 2 + (d + 1)) o b1 (z2 + (bt).toNat) wd) := Lib.hid (by
                        have h8 := HS.out.more HNG.out
                        rw [HBT.out, ← hz2, ← hb1] at h8
                        exact h8)
                      have hz4 : z2 + (bt).toNat < 128 := Nat.lt_of_lt_of_le HS2.out.lt (Nat.pow_le_pow_right (n := 2) (j := 7) (by decide) (by omega))
                      have hb18 : b1 < 8 := by omega
                      clear hz2 hb1 hb7 HNG HBT
                      cases bt
                      · have e0 : z2 + (false).toNat = z2 := rfl
                        rw [e0] at HS2 hz4
                        clear hz3 e0
                        go_wp2_with fail
                        refine hg2.mono ?_
                        rintro e wd ⟨rfl, rfl⟩
                        clear HS
                        (try clear e1)
                        go_wp2_with fail
                        go_roundw
                        case rel => exact ⟨d + 1, o, b1, z2, by omega, by go_num, by go_num, by go_num, by go_num, by omega, by omega, by omega, HS2⟩
                        case measure => simp [intOf]; omega
                      · have e0 : z2 + (true).toNat = z3 := by rw [hz3]; rfl
                        rw [e0] at HS2 hz4
                        clear hz3 e0
                        go_wp2_with fail
                        refine hg2.mono ?_
                        rintro e wd ⟨rfl, rfl⟩
                        clear HS
                        (try clear e1)
                        go_wp2_with fail
                        go_roundw
                        case rel => exact ⟨d + 1, o, b1, z3, by omega, by go_num, by go_num, by go_num, by go_num, by omega, by omega, by omega, HS2⟩
                        case measure => simp [intOf]; omega
                  · have HS2 : Hid (RcS v T gr bits wX ((k * n + i) * 2 + (d + 1)) o b z wd) := Lib.hid (HS.out.skip hngv)
                    clear hbt hg2 hngv hgv c0
                    go_wp2_with fail
                    refine hg1.mono ?_
                    rintro e wd ⟨rfl, rfl⟩
                    clear hg1 e1
                    clear HS
                    (try clear e1)
                    go_wp2_with fail
                    go_roundw
                    case rel => exact ⟨d + 1, o, b, z, by omega, by go_num, by go_num, by go_num, by go_num, by omega, by omega, by omega, HS2⟩
                    case measure => simp [intOf]; omega
                · obtain rfl : d = 2 := by omega
                  have HS2 : Hid (RcS v T gr bits wX ((k * n + (i + 1)) * 2) o b z wd) := Lib.hid (by rw [show (k * n + (i + 1)) * 2 = (k * n + i) * 2 + 2 by omega]; exact HS.out)
                  clear HS hdl hd
                  go_wp2_with fail
                  go_roundw
                  case rel => exact ⟨i + 1, o, b, z, by omega, by go_num, rfl, rfl, rfl, ho, hb, hz, HS2⟩
                  case measure => simp [intOf]; omega
            · obtain rfl : n = i := by omega
              have e : (k * n + n) * 2 = (k + 1) * n * 2 := by rw [Nat.add_mul k 1, Nat.one_mul]
              rw [e] at HS
              clear e hil hi
              go_wp2_with fail
              go_roundw
              case rel => exact ⟨k + 1, o, b, z, by omega, (by first | exact congrArg (Value.int .i64) HNXT.out | (rw [← HNXT.out]; rfl)), (by rw [HNX.out]), rfl, rfl, rfl, ho, hb, hz, HS⟩
              case measure => have h9 := HNXT.out; first | (simp [intOf]; done) | (simp [intOf]; omega)
      · obtain ⟨hh, h6⟩ := hR4 hB
        rw [hh]
        have hR0 : decide ((0 : Int) < (R : Int)) = true := decide_eq_true (by omega)
        have hR00 : 0 < R := by omega
        have hR6 : ((R : Int) == 6) = false := by rw [beq_eq_false_iff_ne]; omega
        clear hh hR3 hR4 hB
        by_cases hpar : k % 2 = 0
        · have HNX : Hid (decide ((k + 1) % 2 = 0) = false) := Lib.hid (decide_eq_false (by omega))
          have HRW0 : Hid (∀ i r, r = n - 1 - i → r = rowW (17 + 4 * v) k i) := Lib.hid (fun i r hr => by rw [← HN.out, hr]; unfold rowW; rw [if_pos hpar])
          rw [decide_eq_true hpar]
          clear hpar
          go_wp2_with fail
          go_loopw [12, 13, 14, 16] (fun ov cv bv iv wr => ∃ (i o b z : Nat), i ≤ n ∧ iv = .int .i64 (i : Int) ∧ ov = .int .i64 (o : Int) ∧ cv = .int .i64 (z : Int) ∧ bv = .int .i64 (b : Int) ∧ o ≤ T ∧ b < 8 ∧ z < 128 ∧ Hid (RcS v T gr bits wX ((k * n + i) * 2) o b z wr)) (fun _ _ _ iv _ => n - (intOf iv).toNat)
          case atStart => exact ⟨0, o, b, z, by omega, rfl, rfl, rfl, rfl, ho, hb, hz, HS⟩
          case round =>
            clear HS ho hb hz
            rename World => wi
            obtain ⟨i, o, b, z, hi, rfl, rfl, rfl, rfl, ho, hb, hz, HS⟩ := hrel
            by_cases hil : i < n
            · obtain ⟨r, hr⟩ : ∃ r, r = n - 1 - i := ⟨_, rfl⟩
              have e1 : (n : Int) - 1 - (i : Int) = (r : Int) := by omega
              have HRW := Lib.hid (HRW0.out i r hr)
              have hrn : r < n := by omega
              clear hr
              go_wp2_with fail
              clear e1
              -- the two columns of row r (HRW.out its fact, R the right column)
              go_loopw [12, 13, 14, 18] (fun ov cv bv dv wr => ∃ (d o b z : Nat), d ≤ 2 ∧ dv = .int .i64 (d : Int) ∧ ov = .int .i64 (o : Int) ∧ cv = .int .i64 (z : Int) ∧ bv = .int .i64 (b : Int) ∧ o ≤ T ∧ b < 8 ∧ z < 128 ∧ Hid (RcS v T gr bits wX ((k * n + i) * 2 + d) o b z wr)) (fun _ _ _ dv _ => 2 - (intOf dv).toNat)
              case atStart => exact ⟨0, o, b, z, by omega, rfl, rfl, rfl, rfl, ho, hb, hz, HS⟩
              case round =>
                clear HS ho hb hz
                rename World => wd
                obtain ⟨d, o, b, z, hd, rfl, rfl, rfl, rfl, ho, hb, hz, HS⟩ := hrel
                by_cases hdl : d < 2
                · obtain ⟨c, hc⟩ : ∃ c, c = R - d := ⟨_, rfl⟩
                  have e1 : (R : Int) - (d : Int) = (c : Int) := by omega
                  have hcn : c < n := by omega
                  have hpl : plc n ((k * n + i) * 2 + d) = (r, c) := by
                    have h9 := HN.out
                    subst h9
                    rw [plc_at _ k i d (by omega) hdl, ← HRW.out, ← HR.out, ← hc]
                  have htE : (k * n + i) * 2 + d < wayE v := by
                    have h9 := HKE.out
                    omega
                  have hbt := HBIT.out _ htE
                  rw [hpl, ← HS.out.len] at hbt
                  have hg1 := HG1.out wd c r HS.out.bel hcn (by omega)
                  have hg2 := HG2.out wd c r HS.out.bel hcn (by omega)
                  have c0 := HC0.out wd HS.out.bel
                  have hngv : ngB v (plc (17 + 4 * v) ((k * n + i) * 2 + d)) = !givB v c r := by
                    rw [← HN.out, hpl]; rfl
                  have HHT := Lib.hid htE
                  clear hc hpl htE
                  obtain ⟨gv, hgv⟩ : ∃ gv, givB v c r = gv := ⟨_, rfl⟩
                  rw [hgv] at hg1 hngv
                  cases gv
                  · have HNG : Hid (ngB v (plc (17 + 4 * v) ((k * n + i) * 2 + d)) = true) := Lib.hid hngv
                    obtain ⟨hlt9, hbt9⟩ := hbt (by unfold ngB; show (!givB v c r) = true; rw [hgv]; rfl)
                    rw [hbt9] at hg2
                    clear hbt9 hngv hgv
                    obtain ⟨bt, hbtt⟩ : ∃ bt, bt = bits.getD (8 * o + b) false := ⟨_, rfl⟩
                    rw [← hbtt] at hg2
                    have HBT : Hid (bits.getD (8 * o + b) false = bt) := Lib.hid hbtt.symm
                    clear hbtt
                    go_wp2_with fail
                    refine hg1.mono ?_
                    rintro e wd ⟨rfl, rfl⟩
                    clear hg1 hbt
                    -- the bit bt is read: z3 is the number then
                    obtain ⟨z2, hz2⟩ : ∃ z2, z2 = z * 2 := ⟨_, rfl⟩
                    have ez2 : (z : Int) * 2 = (z2 : Int) := by omega
                    have hor : Go.bits .or .i64 (z2 : Int) 1 = ((z2 + 1 : Nat) : Int) := by
                      have h1 := i64_or z2 1 (by omega) (by decide)
                      have h2 : z2 ||| 1 = z2 + 1 := by
                        rw [hz2]
                        have := Nat.two_pow_add_eq_or_of_lt (i := 1) (b := 1) (by decide) z
                        rw [Nat.pow_one, Nat.mul_comm] at this
                        exact this.symm
                      rw [h2] at h1
                      exact h1
                    obtain ⟨z3, hz3⟩ : ∃ z3, z3 = z2 + 1 := ⟨_, rfl⟩
                    rw [← hz3] at hor
                    obtain ⟨b1, hb1⟩ : ∃ b1, b1 = b + 1 := ⟨_, rfl⟩
                    have eb1 : (b : Int) + 1 = (b1 : Int) := by omega
                    by_cases hb7 : b = 7
                    · have hoT : o < T := by have h9 := HS.out.len; have h8 := HWL.out; omega
                      have fb : ((b1 : Int) == 8) = true := by rw [beq_iff_eq]; omega
                      have cO := HS.out.cell hoT
                      have fO := HS.out.blk.frozen o
                      have hlt2 : z < 128 := hz
                      have w2b : IntKind.u8.wrap (z2 : Int) = (z2 : Int) := by rw [IntKind.wrap_u8]; omega
                      have w3b : IntKind.u8.wrap (z3 : Int) = (z3 : Int) := by rw [IntKind.wrap_u8]; omega
                      have m2b : (z2 : Int) % 256 = (z2 : Int) := by omega
                      have m3b : (z3 : Int) % 256 = (z3 : Int) := by omega
                      have HS2 : Hid (RcS v T gr bits wX ((k * n + i) * 2 + (d + 1)) (o + 1) 0 0 (wd.setCell ⟨gr, o, none⟩ (.int .u8 ((z2 + (bt).toNat : Nat) : Int)))) := Lib.hid (by
                        have h9 := HS.out
                        subst hb7
                        have h8 := h9.full HNG.out hoT
                        rw [HBT.out, ← hz2] at h8
                        exact h8)
                      clear hz2 hb1 hb7 HNG HBT
                      cases bt
                      · have e0 : z2 + (false).toNat = z2 := rfl
                        rw [e0] at HS2
                        clear hz3 e0
                        go_wp2_with fail
                        refine hg2.mono ?_
                        rintro e wd ⟨rfl, rfl⟩
                        clear HS
                        (try clear e1)
                        go_wp2_with fail
                        go_roundw
                        case rel => exact ⟨d + 1, (o + 1), 0, 0, by omega, by go_num, by go_num, by go_num, by go_num, by omega, by omega, by omega, HS2⟩
                        case measure => simp [intOf]; omega
                      · have e0 : z2 + (true).toNat = z3 := by rw [hz3]; rfl
                        rw [e0] at HS2
                        clear hz3 e0
                        go_wp2_with fail
                        refine hg2.mono ?_
                        rintro e wd ⟨rfl, rfl⟩
                        clear HS
                        (try clear e1)
                        go_wp2_with fail
                        go_roundw
                        case rel => exact ⟨d + 1, (o + 1), 0, 0, by omega, by go_num, by go_num, by go_num, by go_num, by omega, by omega, by omega, HS2⟩
                        case measure => simp [intOf]; omega
                    · have fb : ((b1 : Int) == 8) = false := by rw [beq_eq_false_iff_ne]; omega
                      have HS2 : Hid (RcS v T gr bits wX ((k * n + i) * 2 + (d + 1)) o b1 (z2 + (bt).toNat) wd) := Lib.hid (by
                        have h8 := HS.out.more HNG.out
                        rw [HBT.out, ← hz2, ← hb1] at h8
                        exact h8)
                      have hz4 : z2 + (bt).toNat < 128 := Nat.lt_of_lt_of_le HS2.out.lt (Nat.pow_le_pow_right (n := 2) (j := 7) (by decide) (by omega))
                      have hb18 : b1 < 8 := by omega
                      clear hz2 hb1 hb7 HNG HBT
                      cases bt
                      · have e0 : z2 + (false).toNat = z2 := rfl
                        rw [e0] at HS2 hz4
                        clear hz3 e0
                        go_wp2_with fail
                        refine hg2.mono ?_
                        rintro e wd ⟨rfl, rfl⟩
                        clear HS
                        (try clear e1)
                        go_wp2_with fail
                        go_roundw
                        case rel => exact ⟨d + 1, o, b1, z2, by omega, by go_num, by go_num, by go_num, by go_num, by omega, by omega, by omega, HS2⟩
                        case measure => simp [intOf]; omega
                      · have e0 : z2 + (true).toNat = z3 := by rw [hz3]; rfl
                        rw [e0] at HS2 hz4
                        clear hz3 e0
                        go_wp2_with fail
                        refine hg2.mono ?_
                        rintro e wd ⟨rfl, rfl⟩
                        clear HS
                        (try clear e1)
                        go_wp2_with fail
                        go_roundw
                        case rel => exact ⟨d + 1, o, b1, z3, by omega, by go_num, by go_num, by go_num, by go_num, by omega, by omega, by omega, HS2⟩
                        case measure => simp [intOf]; omega
                  · have HS2 : Hid (RcS v T gr bits wX ((k * n + i) * 2 + (d + 1)) o b z wd) := Lib.hid (HS.out.skip hngv)
                    clear hbt hg2 hngv hgv c0
                    go_wp2_with fail
                    refine hg1.mono ?_
                    rintro e wd ⟨rfl, rfl⟩
                    clear hg1 e1
                    clear HS
                    (try clear e1)
                    go_wp2_with fail
                    go_roundw
                    case rel => exact ⟨d + 1, o, b, z, by omega, by go_num, by go_num, by go_num, by go_num, by omega, by omega, by omega, HS2⟩
                    case measure => simp [intOf]; omega
                · obtain rfl : d = 2 := by omega
                  have HS2 : Hid (RcS v T gr bits wX ((k * n + (i + 1)) * 2) o b z wd) := Lib.hid (by rw [show (k * n + (i + 1)) * 2 = (k * n + i) * 2 + 2 by omega]; exact HS.out)
                  clear HS hdl hd
                  go_wp2_with fail
                  go_roundw
                  case rel => exact ⟨i + 1, o, b, z, by omega, by go_num, rfl, rfl, rfl, ho, hb, hz, HS2⟩
                  case measure => simp [intOf]; omega
            · obtain rfl : n = i := by omega
              have e : (k * n + n) * 2 = (k + 1) * n * 2 := by rw [Nat.add_mul k 1, Nat.one_mul]
              rw [e] at HS
              clear e hil hi
              go_wp2_with fail
              go_roundw
              case rel => exact ⟨k + 1, o, b, z, by omega, (by first | exact congrArg (Value.int .i64) HNXT.out | (rw [← HNXT.out]; rfl)), (by rw [HNX.out]), rfl, rfl, rfl, ho, hb, hz, HS⟩
              case measure => have h9 := HNXT.out; first | (simp [intOf]; done) | (simp [intOf]; omega)
        · have HNX : Hid (decide ((k + 1) % 2 = 0) = true) := Lib.hid (decide_eq_true (by omega))
          have HRW0 : Hid (∀ i, i = rowW (17 + 4 * v) k i) := Lib.hid (fun i => by unfold rowW; rw [if_neg hpar])
          rw [decide_eq_false hpar]
          clear hpar
          go_wp2_with fail
          go_loopw [12, 13, 14, 16] (fun ov cv bv iv wr => ∃ (i o b z : Nat), i ≤ n ∧ iv = .int .i64 (i : Int) ∧ ov = .int .i64 (o : Int) ∧ cv = .int .i64 (z : Int) ∧ bv = .int .i64 (b : Int) ∧ o ≤ T ∧ b < 8 ∧ z < 128 ∧ Hid (RcS v T gr bits wX ((k * n + i) * 2) o b z wr)) (fun _ _ _ iv _ => n - (intOf iv).toNat)
          case atStart => exact ⟨0, o, b, z, by omega, rfl, rfl, rfl, rfl, ho, hb, hz, HS⟩
          case round =>
            clear HS ho hb hz
            rename World => wi
            obtain ⟨i, o, b, z, hi, rfl, rfl, rfl, rfl, ho, hb, hz, HS⟩ := hrel
            by_cases hil : i < n
            · have HRW := Lib.hid (HRW0.out i)
              go_wp2_with fail
              -- the two columns of row i (HRW.out its fact, R the right column)
              go_loopw [12, 13, 14, 18] (fun ov cv bv dv wr => ∃ (d o b z : Nat), d ≤ 2 ∧ dv = .int .i64 (d : Int) ∧ ov = .int .i64 (o : Int) ∧ cv = .int .i64 (z : Int) ∧ bv = .int .i64 (b : Int) ∧ o ≤ T ∧ b < 8 ∧ z < 128 ∧ Hid (RcS v T gr bits wX ((k * n + i) * 2 + d) o b z wr)) (fun _ _ _ dv _ => 2 - (intOf dv).toNat)
              case atStart => exact ⟨0, o, b, z, by omega, rfl, rfl, rfl, rfl, ho, hb, hz, HS⟩
              case round =>
                clear HS ho hb hz
                rename World => wd
                obtain ⟨d, o, b, z, hd, rfl, rfl, rfl, rfl, ho, hb, hz, HS⟩ := hrel
                by_cases hdl : d < 2
                · obtain ⟨c, hc⟩ : ∃ c, c = R - d := ⟨_, rfl⟩
                  have e1 : (R : Int) - (d : Int) = (c : Int) := by omega
                  have hcn : c < n := by omega
                  have hpl : plc n ((k * n + i) * 2 + d) = (i, c) := by
                    have h9 := HN.out
                    subst h9
                    rw [plc_at _ k i d (by omega) hdl, ← HRW.out, ← HR.out, ← hc]
                  have htE : (k * n + i) * 2 + d < wayE v := by
                    have h9 := HKE.out
                    omega
                  have hbt := HBIT.out _ htE
                  rw [hpl, ← HS.out.len] at hbt
                  have hg1 := HG1.out wd c i HS.out.bel hcn (by omega)
                  have hg2 := HG2.out wd c i HS.out.bel hcn (by omega)
                  have c0 := HC0.out wd HS.out.bel
                  have hngv : ngB v (plc (17 + 4 * v) ((k * n + i) * 2 + d)) = !givB v c i := by
                    rw [← HN.out, hpl]; rfl
                  have HHT := Lib.hid htE
                  clear hc hpl htE
                  obtain ⟨gv, hgv⟩ : ∃ gv, givB v c i = gv := ⟨_, rfl⟩
                  rw [hgv] at hg1 hngv
                  cases gv
                  · have HNG : Hid (ngB v (plc (17 + 4 * v) ((k * n + i) * 2 + d)) = true) := Lib.hid hngv
                    obtain ⟨hlt9, hbt9⟩ := hbt (by unfold ngB; show (!givB v c i) = true; rw [hgv]; rfl)
                    rw [hbt9] at hg2
                    clear hbt9 hngv hgv
                    obtain ⟨bt, hbtt⟩ : ∃ bt, bt = bits.getD (8 * o + b) false := ⟨_, rfl⟩
                    rw [← hbtt] at hg2
                    have HBT : Hid (bits.getD (8 * o + b) false = bt) := Lib.hid hbtt.symm
                    clear hbtt
                    go_wp2_with fail
                    refine hg1.mono ?_
                    rintro e wd ⟨rfl, rfl⟩
                    clear hg1 hbt
                    -- the bit bt is read: z3 is the number then
                    obtain ⟨z2, hz2⟩ : ∃ z2, z2 = z * 2 := ⟨_, rfl⟩
                    have ez2 : (z : Int) * 2 = (z2 : Int) := by omega
                    have hor : Go.bits .or .i64 (z2 : Int) 1 = ((z2 + 1 : Nat) : Int) := by
                      have h1 := i64_or z2 1 (by omega) (by decide)
                      have h2 : z2 ||| 1 = z2 + 1 := by
                        rw [hz2]
                        have := Nat.two_pow_add_eq_or_of_lt (i := 1) (b := 1) (by decide) z
                        rw [Nat.pow_one, Nat.mul_comm] at this
                        exact this.symm
                      rw [h2] at h1
                      exact h1
                    obtain ⟨z3, hz3⟩ : ∃ z3, z3 = z2 + 1 := ⟨_, rfl⟩
                    rw [← hz3] at hor
                    obtain ⟨b1, hb1⟩ : ∃ b1, b1 = b + 1 := ⟨_, rfl⟩
                    have eb1 : (b : Int) + 1 = (b1 : Int) := by omega
                    by_cases hb7 : b = 7
                    · have hoT : o < T := by have h9 := HS.out.len; have h8 := HWL.out; omega
                      have fb : ((b1 : Int) == 8) = true := by rw [beq_iff_eq]; omega
                      have cO := HS.out.cell hoT
                      have fO := HS.out.blk.frozen o
                      have hlt2 : z < 128 := hz
                      have w2b : IntKind.u8.wrap (z2 : Int) = (z2 : Int) := by rw [IntKind.wrap_u8]; omega
                      have w3b : IntKind.u8.wrap (z3 : Int) = (z3 : Int) := by rw [IntKind.wrap_u8]; omega
                      have m2b : (z2 : Int) % 256 = (z2 : Int) := by omega
                      have m3b : (z3 : Int) % 256 = (z3 : Int) := by omega
                      have HS2 : Hid (RcS v T gr bits wX ((k * n + i) * 2 + (d + 1)) (o + 1) 0 0 (wd.setCell ⟨gr, o, none⟩ (.int .u8 ((z2 + (bt).toNat : Nat) : Int)))) := Lib.hid (by
                        have h9 := HS.out
                        subst hb7
                        have h8 := h9.full HNG.out hoT
                        rw [HBT.out, ← hz2] at h8
                        exact h8)
                      clear hz2 hb1 hb7 HNG HBT
                      cases bt
                      · have e0 : z2 + (false).toNat = z2 := rfl
                        rw [e0] at HS2
                        clear hz3 e0
                        go_wp2_with fail
                        refine hg2.mono ?_
                        rintro e wd ⟨rfl, rfl⟩
                        clear HS
                        (try clear e1)
                        go_wp2_with fail
                        go_roundw
                        case rel => exact ⟨d + 1, (o + 1), 0, 0, by omega, by go_num, by go_num, by go_num, by go_num, by omega, by omega, by omega, HS2⟩
                        case measure => simp [intOf]; omega
                      · have e0 : z2 + (true).toNat = z3 := by rw [hz3]; rfl
                        rw [e0] at HS2
                        clear hz3 e0
                        go_wp2_with fail
                        refine hg2.mono ?_
                        rintro e wd ⟨rfl, rfl⟩
                        clear HS
                        (try clear e1)
                        go_wp2_with fail
                        go_roundw
                        case rel => exact ⟨d + 1, (o + 1), 0, 0, by omega, by go_num, by go_num, by go_num, by go_num, by omega, by omega, by omega, HS2⟩
                        case measure => simp [intOf]; omega
                    · have fb : ((b1 : Int) == 8) = false := by rw [beq_eq_false_iff_ne]; omega
                      have HS2 : Hid (RcS v T gr bits wX ((k * n + i) * 2 + (d + 1)) o b1 (z2 + (bt).toNat) wd) := Lib.hid (by
                        have h8 := HS.out.more HNG.out
                        rw [HBT.out, ← hz2, ← hb1] at h8
                        exact h8)
                      have hz4 : z2 + (bt).toNat < 128 := Nat.lt_of_lt_of_le HS2.out.lt (Nat.pow_le_pow_right (n := 2) (j := 7) (by decide) (by omega))
                      have hb18 : b1 < 8 := by omega
                      clear hz2 hb1 hb7 HNG HBT
                      cases bt
                      · have e0 : z2 + (false).toNat = z2 := rfl
                        rw [e0] at HS2 hz4
                        clear hz3 e0
                        go_wp2_with fail
                        refine hg2.mono ?_
                        rintro e wd ⟨rfl, rfl⟩
                        clear HS
                        (try clear e1)
                        go_wp2_with fail
                        go_roundw
                        case rel => exact ⟨d + 1, o, b1, z2, by omega, by go_num, by go_num, by go_num, by go_num, by omega, by omega, by omega, HS2⟩
                        case measure => simp [intOf]; omega
                      · have e0 : z2 + (true).toNat = z3 := by rw [hz3]; rfl
                        rw [e0] at HS2 hz4
                        clear hz3 e0
                        go_wp2_with fail
                        refine hg2.mono ?_
                        rintro e wd ⟨rfl, rfl⟩
                        clear HS
                        (try clear e1)
                        go_wp2_with fail
                        go_roundw
                        case rel => exact ⟨d + 1, o, b1, z3, by omega, by go_num, by go_num, by go_num, by go_num, by omega, by omega, by omega, HS2⟩
                        case measure => simp [intOf]; omega
                  · have HS2 : Hid (RcS v T gr bits wX ((k * n + i) * 2 + (d + 1)) o b z wd) := Lib.hid (HS.out.skip hngv)
                    clear hbt hg2 hngv hgv c0
                    go_wp2_with fail
                    refine hg1.mono ?_
                    rintro e wd ⟨rfl, rfl⟩
                    clear hg1 e1
                    clear HS
                    (try clear e1)
                    go_wp2_with fail
                    go_roundw
                    case rel => exact ⟨d + 1, o, b, z, by omega, by go_num, by go_num, by go_num, by go_num, by omega, by omega, by omega, HS2⟩
                    case measure => simp [intOf]; omega
                · obtain rfl : d = 2 := by omega
                  have HS2 : Hid (RcS v T gr bits wX ((k * n + (i + 1)) * 2) o b z wd) := Lib.hid (by rw [show (k * n + (i + 1)) * 2 = (k * n + i) * 2 + 2 by omega]; exact HS.out)
                  clear HS hdl hd
                  go_wp2_with fail
                  go_roundw
                  case rel => exact ⟨i + 1, o, b, z, by omega, by go_num, rfl, rfl, rfl, ho, hb, hz, HS2⟩
                  case measure => simp [intOf]; omega
            · obtain rfl : n = i := by omega
              have e : (k * n + n) * 2 = (k + 1) * n * 2 := by rw [Nat.add_mul k 1, Nat.one_mul]
              rw [e] at HS
              clear e hil hi
              go_wp2_with fail
              go_roundw
              case rel => exact ⟨k + 1, o, b, z, by omega, (by first | exact congrArg (Value.int .i64) HNXT.out | (rw [← HNXT.out]; rfl)), (by rw [HNX.out]), rfl, rfl, rfl, ho, hb, hz, HS⟩
              case measure => have h9 := HNXT.out; first | (simp [intOf]; done) | (simp [intOf]; omega)
    · obtain rfl : k = mm := by omega
      have hh : headI n k = -1 := by unfold headI; rw [if_neg (by omega)]; omega
      rw [hh]
      clear hh
      have hoT : o = T := by
        have h9 := HS.out.len
        rw [← HWE2.out] at h9
        have h8 := HWL.out
        unfold wayL at h8
        omega
      have hvt := verTot_any q2 v wr (HQX.out wr HS.out.bel)
      rw [← HT.out] at hvt
      have HR : Hid (RdT wr 5 (.slice (some ⟨gr, 0, none⟩) T T) (yv (byteL bits T))) := Lib.hid (by
        have h9 := HS.out.blk
        rw [hoT] at h9
        have h8 := fill_full (byteL bits T) 0
        rw [byteL_len] at h8
        rw [h8] at h9
        exact RdT.of_blk h9 (by rw [yv_len, byteL_len]) (by rw [yv_len, byteL_len]; exact Nat.le_refl _) (by unfold maxLen; omega))
      have HBZ : Hid (Below base w wr) := Lib.hid (HBX.out.trans (HS.out.bel.mono (by omega)))
      subst hoT
      clear HS hb hz ho
      go_wp2_with fail
      refine hvt.mono ?_
      rintro e wr ⟨rfl, rfl⟩
      clear hvt
      go_wp2_with fail
      go_ret2
      exact ⟨_, rfl, by rw [← HT.out]; exact HR.out, HBZ.out⟩
end Go.Proofs.Ytfgajbhgkdkmbaa
