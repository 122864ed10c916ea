/-
  WALK: BitMatrixParser.ReadVersion.
-/
import Derived.Test.YtfgajbhgkdkmbaaVc2
import Derived.Test.YtfgajbhgkdkmbaaVc3
import Derived.Test.YtfgajbhgkdkmbaaSh1
import Derived.Test.YtfgajbhgkdkmbaaFrm
namespace Go.Proofs.Ytfgajbhgkdkmbaa
open Go.RowKit

/-- One bit more of a number is read. -/
theorem bit_acc (a s : Nat) : a / 2 ^ (s + 1) * 2 + (bitN a (s : Int)).toNat = a / 2 ^ s := by
  unfold bitN
  rw [Int.toNat_natCast, Nat.pow_succ, ← Nat.div_div_eq_div_mul]
  rcases Nat.mod_two_eq_zero_or_one (a / 2 ^ s) with h | h
  · rw [h]; show _ + 0 = _; omega
  · rw [h]; show _ + 1 = _; omega
theorem bit_top (a s : Nat) (h : a < 2 ^ s) : a / 2 ^ s = 0 := Nat.div_eq_of_lt h
theorem bit_le (a s : Nat) : a / 2 ^ s ≤ a := Nat.div_le_self _ _
theorem ParA.up {w w' : World} {p m : Nat} {pv pf : Value} (h : ParA w p m pv pf) (hb : Below w.heap.size w w') : ParA w' p m pv pf := Blk.up h hb
theorem VerAt.frm {w w' : World} {q v : Nat} {T : TypeId} (h : VerAt w q v) (k : Frm T w w') (h1 : 133 ≠ T) (h2 : 3 ≠ T) (h3 : 198 ≠ T) (h4 : 195 ≠ T) : VerAt w' q v := by
  obtain ⟨cs, vc, ge, g0, g1, g2, g3, e0, e1, e2, e3, l0, l1, l2, l3, h⟩ := h
  exact ⟨cs, vc, ge, g0, g1, g2, g3, e0, e1, e2, e3, l0, l1, l2, l3, h.tab, k.blk h.head h1, k.rdT h.mid h2, k.blk h.levels h3, k.blk h.b0 h4, k.blk h.b1 h4, k.blk h.b2 h4, k.blk h.b3 h4⟩
/-- A cell of another kind of block is written. -/
theorem Blk.kind {w : World} {p q : Nat} {t t' : TypeId} {cs cs' : Array Value} (h : Blk w q t cs) (hp : Blk w p t' cs') (ht : t' ≠ t) (i : Nat) (u : Value) : Blk (w.setCell ⟨p, i, none⟩ u) q t cs := by
  refine h.far (fun he => ?_) u
  have he' : q = p := he
  subst he'
  unfold Blk at h hp
  rw [h] at hp
  injection hp with hp
  injection hp with _ h6
  exact ht h6.symm
theorem VerAt.kind {w : World} {p q v : Nat} {cs' : Array Value} (h : VerAt w q v) (hp : Blk w p 125 cs') (i : Nat) (u : Value) : VerAt (w.setCell ⟨p, i, none⟩ u) q v := by
  obtain ⟨cs, vc, ge, g0, g1, g2, g3, e0, e1, e2, e3, l0, l1, l2, l3, h⟩ := h
  exact ⟨cs, vc, ge, g0, g1, g2, g3, e0, e1, e2, e3, l0, l1, l2, l3, h.tab, h.head.kind hp (by decide) i u, h.mid.far (p := ⟨p, i, none⟩) hp (by decide) u, h.levels.kind hp (by decide) i u, h.b0.kind hp (by decide) i u, h.b1.kind hp (by decide) i u, h.b2.kind hp (by decide) i u, h.b3.kind hp (by decide) i u⟩
theorem MatAt.kind {w : World} {p m g W H : Nat} {f : Nat → Nat → Bool} {cs' : Array Value} (h : MatAt w m g W H f) (hp : Blk w p 125 cs') (i : Nat) (u : Value) : MatAt (w.setCell ⟨p, i, none⟩ u) m g W H f := by
  obtain ⟨ws, h1, h2⟩ := h
  exact ⟨ws, ⟨h1.head.kind hp (by decide) i u, h1.rows.kind hp (by decide) i u, h1.lt, h1.len, h1.apart⟩, h2⟩
/-- An error, or none. -/
def ErrI (v : Value) : Prop := v = .nilIface ∨ ∃ t u, v = .iface t u
theorem wrapEx_any (s : ByteArray) (v : Value) (w : World) (hv : ErrI v) : Calls Try.prog 116 #[.string s, v] w fun e w' => e = .returned (.agg #[.string s, v]) ∧ Below w.heap.size w w' := by
  rcases hv with rfl | ⟨t, u, rfl⟩
  · go_enter Try.func116, Try.ntmps116
    go_wp2
    go_returns
    exact ⟨rfl, by go_grown⟩
  · go_enter Try.func116, Try.ntmps116
    go_wp2
    go_returns
    exact ⟨rfl, by go_grown⟩
theorem wrapFE_any (v : Value) (w : World) (hv : ErrI v) : Calls Try.prog 72 #[v] w fun e w' => (∃ t u, e = .returned (.iface t u)) ∧ Below w.heap.size w w' := by
  have h := fun s w' => wrapEx_any s v w' hv
  go_enter Try.func72, Try.ntmps72
  go_wp2_with fail
  refine (h _ _).mono ?_
  rintro e w1 ⟨rfl, hb⟩
  go_wp2
  go_ret
  exact ⟨⟨_, _, rfl⟩, hb⟩
set_option maxRecDepth 100000 in
set_option maxHeartbeats 4000000 in
theorem readVersion_hi (p m g base v n a b : Nat) (pf : Value) (f : Nat → Nat → Bool) (w : World) (hp : ParA w p m (.pointer none) pf) (hm : MatAt w m g n n f) (hn : n = 17 + 4 * v) (hv7 : 7 ≤ v) (hv40 : v ≤ 40) (hbase : base ≤ p)
    (ha : a < 262144) (hb : b < 262144) (hA : ∀ k, k < 18 → f (n - 11 + k % 3) (k / 3) = bitN a (k : Int)) (hB : ∀ k, k < 18 → f (k / 3) (n - 11 + k % 3) = bitN b (k : Int)) :
    Calls Try.prog 43 #[.pointer (some ⟨p, 0, none⟩)] w fun e w' =>
      ((dV a v ≤ 3 ∨ dV b v ≤ 3) ∧ ∃ q, e = .returned (.tuple #[.pointer (some ⟨q, 0, none⟩), .nilIface]) ∧ VerAt w' q v ∧ ParA w' p m (.pointer (some ⟨q, 0, none⟩)) pf ∧ MatAt w' m g n n f ∧ Below base w w' ∧ Frm 125 w w') ∨
      (¬ (dV a v ≤ 3 ∨ dV b v ≤ 3) ∧ ∃ t u, e = .returned (.tuple #[.pointer none, .iface t u]) ∧ Below base w w') := by
  have c1 : w.cell? ⟨p, 1, none⟩ = some (.pointer none) := by rw [hp.cell]; rfl
  have c0 : w.cell? ⟨p, 0, none⟩ = some (.pointer (some ⟨m, 0, none⟩)) := by rw [hp.cell]; rfl
  have hH := matHeight_any m g n n f w hm
  have hCB := fun x y vb h1 h2 h3 => copyBit_any p m g n x y vb (.pointer none) pf f w hp hm h1 h2 (by omega) h3
  have HCB := Lib.hid hCB; have HA := Lib.hid hA; have HB := Lib.hid hB; have HP := Lib.hid hp; have HM := Lib.hid hm
  have hn45 : 45 ≤ n := by omega
  have hn177 : n ≤ 177 := by omega
  have t1 : Int.tdiv ((n : Int) - 17) 4 = (v : Int) := by rw [Int.tdiv_eq_ediv_of_nonneg (by omega)]; omega
  have t2 : ((n : Int) - 17) / 4 = (v : Int) := by omega
  have HN := Lib.hid hn
  clear hCB hA hB hp hm hn
  go_enter Try.func43, Try.ntmps43
  go_wp2_with fail
  refine hH.mono ?_
  rintro e w ⟨rfl, rfl⟩
  go_wp2_with fail
  obtain ⟨wq, rfl⟩ : ∃ wo : World, wo = w := ⟨_, rfl⟩
  -- reading 18 bits: the number, the outer slot, the inner slot, its bound, column, row, the fact of its bits
  go_loopw [6, 8] (fun bv jv wr => ∃ (jj z : Nat), jj ≤ 6 ∧ jv = .int .i64 ((jj : Int) - 1) ∧ bv = .int .i64 z ∧ z < 262144 ∧ Hid (z = a / 2 ^ (3 * jj)) ∧ wr = wq) (fun _ jv _ => (intOf jv + 1).toNat)
  case atStart => exact ⟨6, 0, by omega, rfl, rfl, by omega, Lib.hid (bit_top a 18 ha).symm, rfl⟩
  case round =>
    obtain ⟨jj, z, hjj, rfl, rfl, hz, HBA, rfl⟩ := hrel
    rename World => wq
    by_cases hj : 1 ≤ jj
    · obtain ⟨jq, hjq⟩ : ∃ jq, jq = jj - 1 := ⟨_, rfl⟩
      have e1 : (jj : Int) - 1 = (jq : Int) := by omega
      have hjq5 : jq ≤ 5 := by omega
      have HB3 : Hid (z = a / 2 ^ (3 * jq + 3)) := Lib.hid (by rw [HBA.out]; congr 2; omega)
      clear HBA hjq
      rw [e1]
      clear e1
      go_wp2_with fail
      go_loopw [6, 9] (fun bv iv wr => ∃ (ii z : Nat), ii ≤ 3 ∧ iv = .int .i64 ((n : Int) - 12 + (ii : Int)) ∧ bv = .int .i64 z ∧ z < 262144 ∧ Hid (z = a / 2 ^ (3 * jq + ii)) ∧ wr = wq) (fun _ iv _ => (intOf iv - (n : Int) + 12).toNat)
      case atStart => exact ⟨3, z, by omega, by congr 1; omega, rfl, hz, HB3, rfl⟩
      case round =>
        clear HB3 hz
        obtain ⟨ii, z, hii, rfl, rfl, hz, HBA, rfl⟩ := hrel
        rename World => wq
        by_cases hi : 1 ≤ ii
        · obtain ⟨iq, hiq⟩ : ∃ iq, iq = ii - 1 := ⟨_, rfl⟩
          obtain ⟨xq, hxq⟩ : ∃ xq, xq = n - 11 + iq := ⟨_, rfl⟩
          have e2 : (n : Int) - 12 + (ii : Int) = (xq : Int) := by omega
          have hx1 : xq < n := by omega
          have hx2 : jq < n := by omega
          have e3 : (xq : Int) - 1 = (n : Int) - 12 + (iq : Int) := by omega
          have HE3 := Lib.hid e3
          have hi2 : iq ≤ 2 := by omega
          have HB2 : Hid (z * 2 + (f xq jq).toNat = a / 2 ^ (3 * jq + iq)) := Lib.hid (by
            have h9 := HA.out (3 * jq + iq) (by omega)
            rw [show (3 * jq + iq) % 3 = iq by omega, show (3 * jq + iq) / 3 = jq by omega, ← hxq] at h9
            rw [h9, HBA.out, show 3 * jq + ii = 3 * jq + iq + 1 by omega]
            exact bit_acc a (3 * jq + iq))
          have hbb : z * 2 + (f xq jq).toNat < 262144 := by rw [HB2.out]; exact Nat.lt_of_le_of_lt (bit_le _ _) ha
          have hcb := HCB.out xq jq z (by assumption) (by assumption) (by omega)
          obtain ⟨z2, hz2⟩ : ∃ z2, z2 = z * 2 + (f xq jq).toNat := ⟨_, rfl⟩
          rw [← hz2] at HB2 hbb hcb
          clear HBA e3 hiq hxq hz2
          go_wp2_with fail
          refine hcb.mono ?_
          rintro e wq ⟨rfl, rfl⟩
          clear hcb
          go_wp2_with fail
          go_roundw
          case rel => exact ⟨iq, z2, by omega, by first | rfl | exact congrArg (Value.int .i64) HE3.out, rfl, hbb, HB2, trivial⟩
          case measure => simp [intOf] <;> omega
        · obtain rfl : ii = 0 := by omega
          go_wp2_with fail
          go_roundw
          case rel => exact ⟨jq, z, by omega, rfl, rfl, hz, HBA, trivial⟩
          case measure => simp [intOf] <;> omega
    · obtain rfl : jj = 0 := by omega
      obtain rfl : a = z := by have := HBA.out; rw [Nat.mul_zero, Nat.pow_zero, Nat.div_one] at this; exact this.symm
      clear HBA hj hz hjj
      have HVN := Lib.hid hv7
      clear c1 c0 hH hn45 HA
      go_wp2_with fail
      refine (decodeV_any a _ ha).mono ?_
      rintro e w1 ⟨r, hr, hb1, hrest⟩
      have HB1 := Lib.hid hb1
      have c1 : w1.cell? ⟨p, 1, none⟩ = some (.pointer none) := by rw [(HP.out.up HB1.out).cell]; rfl
      have HCB1 : Hid (∀ (x y vb : Nat), x < n → y < n → vb ≤ 1048576 → Calls Try.prog 69 #[.pointer (some ⟨p, 0, none⟩), .int .i64 x, .int .i64 y, .int .i64 vb] w1 fun e w' => e = .returned (.int .i64 ((vb * 2 + (f x y).toNat : Nat) : Int)) ∧ w' = w1) := Lib.hid (fun x y vb h1 h2 h3 => copyBit_any p m g n x y vb (.pointer none) pf f w1 (HP.out.up HB1.out) (HM.out.up HB1.out) h1 h2 (by omega) h3)
      clear hb1 HCB
      have f1 : w1.frozen? ⟨p, 1, none⟩ = false := Blk.frozen (HP.out.up HB1.out) 1
      have hfin : ∀ w2 q, Below wq.heap.size wq w2 → VerAt w2 q v → VerAt (w2.setCell ⟨p, 1, none⟩ (.pointer (some ⟨q, 0, none⟩))) q v ∧ ParA (w2.setCell ⟨p, 1, none⟩ (.pointer (some ⟨q, 0, none⟩))) p m (.pointer (some ⟨q, 0, none⟩)) pf ∧ MatAt (w2.setCell ⟨p, 1, none⟩ (.pointer (some ⟨q, 0, none⟩))) m g n n f ∧ Below base wq (w2.setCell ⟨p, 1, none⟩ (.pointer (some ⟨q, 0, none⟩))) ∧ Frm 125 wq (w2.setCell ⟨p, 1, none⟩ (.pointer (some ⟨q, 0, none⟩))) := fun w2 q h1 h2 =>
        ⟨h2.kind (HP.out.up h1) _ _, Blk.put (HP.out.up h1) 1 (.pointer (some ⟨q, 0, none⟩)), (HM.out.up h1).kind (HP.out.up h1) _ _, (h1.mono (Nat.le_trans hbase (Nat.le_of_lt (Blk.lt HP.out)))).setCell (p := ⟨p, 1, none⟩) hbase _, Frm.put (p := ⟨p, 1, none⟩) (Frm.below h1) (HP.out.up h1) _⟩
      have HFin := Lib.hid hfin; clear hfin
      by_cases hna : dV a v ≤ 3
      · have hrv := decV_near ⟨hv7, hv40⟩ hr hna
        subst hrv
        clear hr HCB1
        rcases hrest with ⟨h0, _⟩ | ⟨k, q, h0, hk7, hk40, rfl, hq⟩
        · cases h0
        · injection h0 with h0
          subst h0
          have hvd := verDim_any q v w1 hq hk40
          rw [← HN.out] at hvd
          have HQ := Lib.hid hq
          clear hq
          go_wp2_with fail
          refine hvd.mono ?_
          rintro e w1 ⟨rfl, rfl⟩
          clear hvd
          go_wp2_with fail
          go_ret2
          exact .inl ⟨.inl hna, q, rfl, HFin.out _ _ HB1.out HQ.out⟩
      · have HNA := Lib.hid hna
        have H2 : Hid (∀ w2, Below wq.heap.size wq w2 → Below base wq w2) := Lib.hid (fun w2 h1 => h1.mono (Nat.le_trans hbase (Nat.le_of_lt (Blk.lt HP.out))))
        rcases hrest with ⟨h0, bb, rfl⟩ | ⟨k, q, h0, hk7, hk40, rfl, hq⟩
        · clear hr h0 hna
          unfold errV
          go_wp2_with fail
          have HCB := HCB1
          clear HCB1
          -- reading 18 bits: the number, the outer slot, the inner slot, its bound, column, row, the fact of its bits
          go_loopw [6, 12] (fun bv jv wr => ∃ (jj z : Nat), jj ≤ 6 ∧ jv = .int .i64 ((jj : Int) - 1) ∧ bv = .int .i64 z ∧ z < 262144 ∧ Hid (z = b / 2 ^ (3 * jj)) ∧ wr = w1) (fun _ jv _ => (intOf jv + 1).toNat)
          case atStart => exact ⟨6, 0, by omega, rfl, rfl, by omega, Lib.hid (bit_top b 18 hb).symm, rfl⟩
          case round =>
            obtain ⟨jj, z, hjj, rfl, rfl, hz, HBA, rfl⟩ := hrel
            rename World => w1
            by_cases hj : 1 ≤ jj
            · obtain ⟨jq, hjq⟩ : ∃ jq, jq = jj - 1 := ⟨_, rfl⟩
              have e1 : (jj : Int) - 1 = (jq : Int) := by omega
              have hjq5 : jq ≤ 5 := by omega
              have HB3 : Hid (z = b / 2 ^ (3 * jq + 3)) := Lib.hid (by rw [HBA.out]; congr 2; omega)
              clear HBA hjq
              rw [e1]
              clear e1
              go_wp2_with fail
              go_loopw [6, 13] (fun bv iv wr => ∃ (ii z : Nat), ii ≤ 3 ∧ iv = .int .i64 ((n : Int) - 12 + (ii : Int)) ∧ bv = .int .i64 z ∧ z < 262144 ∧ Hid (z = b / 2 ^ (3 * jq + ii)) ∧ wr = w1) (fun _ iv _ => (intOf iv - (n : Int) + 12).toNat)
              case atStart => exact ⟨3, z, by omega, by congr 1; omega, rfl, hz, HB3, rfl⟩
              case round =>
                clear HB3 hz
                obtain ⟨ii, z, hii, rfl, rfl, hz, HBA, rfl⟩ := hrel
                rename World => w1
                by_cases hi : 1 ≤ ii
                · obtain ⟨iq, hiq⟩ : ∃ iq, iq = ii - 1 := ⟨_, rfl⟩
                  obtain ⟨xq, hxq⟩ : ∃ xq, xq = n - 11 + iq := ⟨_, rfl⟩
                  have e2 : (n : Int) - 12 + (ii : Int) = (xq : Int) := by omega
                  have hx1 : xq < n := by omega
                  have hx2 : jq < n := by omega
                  have e3 : (xq : Int) - 1 = (n : Int) - 12 + (iq : Int) := by omega
                  have HE3 := Lib.hid e3
                  have hi2 : iq ≤ 2 := by omega
                  have HB2 : Hid (z * 2 + (f jq xq).toNat = b / 2 ^ (3 * jq + iq)) := Lib.hid (by
                    have h9 := HB.out (3 * jq + iq) (by omega)
                    rw [show (3 * jq + iq) % 3 = iq by omega, show (3 * jq + iq) / 3 = jq by omega, ← hxq] at h9
                    rw [h9, HBA.out, show 3 * jq + ii = 3 * jq + iq + 1 by omega]
                    exact bit_acc b (3 * jq + iq))
                  have hbb : z * 2 + (f jq xq).toNat < 262144 := by rw [HB2.out]; exact Nat.lt_of_le_of_lt (bit_le _ _) hb
                  have hcb := HCB.out jq xq z (by assumption) (by assumption) (by omega)
                  obtain ⟨z2, hz2⟩ : ∃ z2, z2 = z * 2 + (f jq xq).toNat := ⟨_, rfl⟩
                  rw [← hz2] at HB2 hbb hcb
                  clear HBA e3 hiq hxq hz2
                  go_wp2_with fail
                  refine hcb.mono ?_
                  rintro e w1 ⟨rfl, rfl⟩
                  clear hcb
                  go_wp2_with fail
                  go_roundw
                  case rel => exact ⟨iq, z2, by omega, by first | rfl | exact congrArg (Value.int .i64) HE3.out, rfl, hbb, HB2, trivial⟩
                  case measure => simp [intOf] <;> omega
                · obtain rfl : ii = 0 := by omega
                  go_wp2_with fail
                  go_roundw
                  case rel => exact ⟨jq, z, by omega, rfl, rfl, hz, HBA, trivial⟩
                  case measure => simp [intOf] <;> omega
            · obtain rfl : jj = 0 := by omega
              obtain rfl : b = z := by have := HBA.out; rw [Nat.mul_zero, Nat.pow_zero, Nat.div_one] at this; exact this.symm
              clear HBA hj hz hjj
              clear HCB HB
              go_wp2_with fail
              refine (decodeV_any b _ hb).mono ?_
              rintro e w2 ⟨r, hr, hb2, hrest⟩
              have HB2 := Lib.hid (bup HB1.out hb2)
              have c1 : w2.cell? ⟨p, 1, none⟩ = some (.pointer none) := by rw [(HP.out.up HB2.out).cell]; rfl
              have f2 : w2.frozen? ⟨p, 1, none⟩ = false := Blk.frozen (HP.out.up HB2.out) 1
              clear hb2 f1
              by_cases hnb : dV b v ≤ 3
              · have hrv := decV_near ⟨hv7, hv40⟩ hr hnb
                subst hrv
                clear hr
                rcases hrest with ⟨h0, _⟩ | ⟨k, q, h0, hk7, hk40, rfl, hq⟩
                · cases h0
                · injection h0 with h0
                  subst h0
                  have hvd := verDim_any q v w2 hq hk40
                  rw [← HN.out] at hvd
                  have HQ := Lib.hid hq
                  clear hq
                  go_wp2_with fail
                  refine hvd.mono ?_
                  rintro e w2 ⟨rfl, rfl⟩
                  clear hvd
                  go_wp2_with fail
                  go_ret2
                  exact .inl ⟨.inr hnb, q, rfl, HFin.out _ _ HB2.out HQ.out⟩
              · have HNB := Lib.hid hnb
                rcases hrest with ⟨h0, bb, rfl⟩ | ⟨k, q, h0, hk7, hk40, rfl, hq⟩
                · clear hr h0 hnb
                  unfold errV
                  go_wp2_with fail
                  refine (wrapFE_any _ _ (.inr ⟨_, _, rfl⟩)).mono ?_
                  rintro e w3 ⟨⟨t, u, rfl⟩, hb3⟩
                  have HB3 := Lib.hid (bup HB2.out hb3)
                  clear hb3
                  go_wp2_with fail
                  go_ret2
                  exact .inr ⟨fun h => h.elim HNA.out HNB.out, t, u, rfl, H2.out _ HB3.out⟩
                · subst h0
                  have hkv : k ≠ v := fun he => by
                    have := decV_far hr
                    rw [he] at this
                    exact hnb this.2.2
                  have hvd := verDim_any q k w2 hq hk40
                  have hne : (((17 + 4 * k : Nat) : Int) == (n : Int)) = false := by rw [beq_eq_false_iff_ne]; have := HN.out; omega
                  clear hr hq hnb
                  obtain ⟨N2, hN2⟩ : ∃ N2, N2 = 17 + 4 * k := ⟨_, rfl⟩
                  rw [← hN2] at hvd hne
                  clear hN2
                  go_wp2_with fail
                  refine hvd.mono ?_
                  rintro e w2 ⟨rfl, rfl⟩
                  clear hvd hkv
                  go_wp2_with fail
                  clear hne
                  refine (wrapFE_any _ _ (.inl rfl)).mono ?_
                  rintro e w3 ⟨⟨t, u, rfl⟩, hb3⟩
                  have HB3 := Lib.hid (bup HB2.out hb3)
                  clear hb3
                  go_wp2_with fail
                  go_ret2
                  exact .inr ⟨fun h => h.elim HNA.out HNB.out, t, u, rfl, H2.out _ HB3.out⟩
        · subst h0
          have hkv : k ≠ v := fun he => by
            have := decV_far hr
            rw [he] at this
            exact hna this.2.2
          have hvd := verDim_any q k w1 hq hk40
          have hne : (((17 + 4 * k : Nat) : Int) == (n : Int)) = false := by rw [beq_eq_false_iff_ne]; have := HN.out; omega
          clear hr hq hna
          obtain ⟨N2, hN2⟩ : ∃ N2, N2 = 17 + 4 * k := ⟨_, rfl⟩
          rw [← hN2] at hvd hne
          clear hN2
          go_wp2_with fail
          refine hvd.mono ?_
          rintro e w1 ⟨rfl, rfl⟩
          clear hvd hkv
          go_wp2_with fail
          clear hne
          have HCB := HCB1
          clear HCB1
          -- reading 18 bits: the number, the outer slot, the inner slot, its bound, column, row, the fact of its bits
          go_loopw [6, 12] (fun bv jv wr => ∃ (jj z : Nat), jj ≤ 6 ∧ jv = .int .i64 ((jj : Int) - 1) ∧ bv = .int .i64 z ∧ z < 262144 ∧ Hid (z = b / 2 ^ (3 * jj)) ∧ wr = w1) (fun _ jv _ => (intOf jv + 1).toNat)
          case atStart => exact ⟨6, 0, by omega, rfl, rfl, by omega, Lib.hid (bit_top b 18 hb).symm, rfl⟩
          case round =>
            obtain ⟨jj, z, hjj, rfl, rfl, hz, HBA, rfl⟩ := hrel
            rename World => w1
            by_cases hj : 1 ≤ jj
            · obtain ⟨jq, hjq⟩ : ∃ jq, jq = jj - 1 := ⟨_, rfl⟩
              have e1 : (jj : Int) - 1 = (jq : Int) := by omega
              have hjq5 : jq ≤ 5 := by omega
              have HB3 : Hid (z = b / 2 ^ (3 * jq + 3)) := Lib.hid (by rw [HBA.out]; congr 2; omega)
              clear HBA hjq
              rw [e1]
              clear e1
              go_wp2_with fail
              go_loopw [6, 13] (fun bv iv wr => ∃ (ii z : Nat), ii ≤ 3 ∧ iv = .int .i64 ((n : Int) - 12 + (ii : Int)) ∧ bv = .int .i64 z ∧ z < 262144 ∧ Hid (z = b / 2 ^ (3 * jq + ii)) ∧ wr = w1) (fun _ iv _ => (intOf iv - (n : Int) + 12).toNat)
              case atStart => exact ⟨3, z, by omega, by congr 1; omega, rfl, hz, HB3, rfl⟩
              case round =>
                clear HB3 hz
                obtain ⟨ii, z, hii, rfl, rfl, hz, HBA, rfl⟩ := hrel
                rename World => w1
                by_cases hi : 1 ≤ ii
                · obtain ⟨iq, hiq⟩ : ∃ iq, iq = ii - 1 := ⟨_, rfl⟩
                  obtain ⟨xq, hxq⟩ : ∃ xq, xq = n - 11 + iq := ⟨_, rfl⟩
                  have e2 : (n : Int) - 12 + (ii : Int) = (xq : Int) := by omega
                  have hx1 : xq < n := by omega
                  have hx2 : jq < n := by omega
                  have e3 : (xq : Int) - 1 = (n : Int) - 12 + (iq : Int) := by omega
                  have HE3 := Lib.hid e3
                  have hi2 : iq ≤ 2 := by omega
                  have HB2 : Hid (z * 2 + (f jq xq).toNat = b / 2 ^ (3 * jq + iq)) := Lib.hid (by
                    have h9 := HB.out (3 * jq + iq) (by omega)
                    rw [show (3 * jq + iq) % 3 = iq by omega, show (3 * jq + iq) / 3 = jq by omega, ← hxq] at h9
                    rw [h9, HBA.out, show 3 * jq + ii = 3 * jq + iq + 1 by omega]
                    exact bit_acc b (3 * jq + iq))
                  have hbb : z * 2 + (f jq xq).toNat < 262144 := by rw [HB2.out]; exact Nat.lt_of_le_of_lt (bit_le _ _) hb
                  have hcb := HCB.out jq xq z (by assumption) (by assumption) (by omega)
                  obtain ⟨z2, hz2⟩ : ∃ z2, z2 = z * 2 + (f jq xq).toNat := ⟨_, rfl⟩
                  rw [← hz2] at HB2 hbb hcb
                  clear HBA e3 hiq hxq hz2
                  go_wp2_with fail
                  refine hcb.mono ?_
                  rintro e w1 ⟨rfl, rfl⟩
                  clear hcb
                  go_wp2_with fail
                  go_roundw
                  case rel => exact ⟨iq, z2, by omega, by first | rfl | exact congrArg (Value.int .i64) HE3.out, rfl, hbb, HB2, trivial⟩
                  case measure => simp [intOf] <;> omega
                · obtain rfl : ii = 0 := by omega
                  go_wp2_with fail
                  go_roundw
                  case rel => exact ⟨jq, z, by omega, rfl, rfl, hz, HBA, trivial⟩
                  case measure => simp [intOf] <;> omega
            · obtain rfl : jj = 0 := by omega
              obtain rfl : b = z := by have := HBA.out; rw [Nat.mul_zero, Nat.pow_zero, Nat.div_one] at this; exact this.symm
              clear HBA hj hz hjj
              clear HCB HB
              go_wp2_with fail
              refine (decodeV_any b _ hb).mono ?_
              rintro e w2 ⟨r, hr, hb2, hrest⟩
              have HB2 := Lib.hid (bup HB1.out hb2)
              have c1 : w2.cell? ⟨p, 1, none⟩ = some (.pointer none) := by rw [(HP.out.up HB2.out).cell]; rfl
              have f2 : w2.frozen? ⟨p, 1, none⟩ = false := Blk.frozen (HP.out.up HB2.out) 1
              clear hb2 f1
              by_cases hnb : dV b v ≤ 3
              · have hrv := decV_near ⟨hv7, hv40⟩ hr hnb
                subst hrv
                clear hr
                rcases hrest with ⟨h0, _⟩ | ⟨k, q, h0, hk7, hk40, rfl, hq⟩
                · cases h0
                · injection h0 with h0
                  subst h0
                  have hvd := verDim_any q v w2 hq hk40
                  rw [← HN.out] at hvd
                  have HQ := Lib.hid hq
                  clear hq
                  go_wp2_with fail
                  refine hvd.mono ?_
                  rintro e w2 ⟨rfl, rfl⟩
                  clear hvd
                  go_wp2_with fail
                  go_ret2
                  exact .inl ⟨.inr hnb, q, rfl, HFin.out _ _ HB2.out HQ.out⟩
              · have HNB := Lib.hid hnb
                rcases hrest with ⟨h0, bb, rfl⟩ | ⟨k, q, h0, hk7, hk40, rfl, hq⟩
                · clear hr h0 hnb
                  unfold errV
                  go_wp2_with fail
                  refine (wrapFE_any _ _ (.inr ⟨_, _, rfl⟩)).mono ?_
                  rintro e w3 ⟨⟨t, u, rfl⟩, hb3⟩
                  have HB3 := Lib.hid (bup HB2.out hb3)
                  clear hb3
                  go_wp2_with fail
                  go_ret2
                  exact .inr ⟨fun h => h.elim HNA.out HNB.out, t, u, rfl, H2.out _ HB3.out⟩
                · subst h0
                  have hkv : k ≠ v := fun he => by
                    have := decV_far hr
                    rw [he] at this
                    exact hnb this.2.2
                  have hvd := verDim_any q k w2 hq hk40
                  have hne : (((17 + 4 * k : Nat) : Int) == (n : Int)) = false := by rw [beq_eq_false_iff_ne]; have := HN.out; omega
                  clear hr hq hnb
                  obtain ⟨N2, hN2⟩ : ∃ N2, N2 = 17 + 4 * k := ⟨_, rfl⟩
                  rw [← hN2] at hvd hne
                  clear hN2
                  go_wp2_with fail
                  refine hvd.mono ?_
                  rintro e w2 ⟨rfl, rfl⟩
                  clear hvd hkv
                  go_wp2_with fail
                  clear hne
                  refine (wrapFE_any _ _ (.inl rfl)).mono ?_
                  rintro e w3 ⟨⟨t, u, rfl⟩, hb3⟩
                  have HB3 := Lib.hid (bup HB2.out hb3)
                  clear hb3
                  go_wp2_with fail
                  go_ret2
                  exact .inr ⟨fun h => h.elim HNA.out HNB.out, t, u, rfl, H2.out _ HB3.out⟩
end Go.Proofs.Ytfgajbhgkdkmbaa
