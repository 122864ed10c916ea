/-
  WALKS: intSet.contains of an empty set, DecodedBitStreamParser_decode of Data Matrix.
-/
import Derived.Test.YtjpcajecmfhppaaDoorDa4
import Derived.MapKept
namespace Go.Proofs.YtjpcajecmfhppaaDoor
open Go.RowKit

theorem z0 (w : World) : (zeroValue 99).run Tryd.prog w = .ok (.agg #[]) w := by kernel_rfl
theorem chkKey (w : World) (b : Bool) (n : Int) (m : Nat) : (Instr.checkKey b (m + 1) 3 (.int .i64 n)).run Tryd.prog w = .ok () w := by
  unfold Instr.checkKey
  simp [run_underlying Tryd.underlying3]
theorem chkKey2 (w : World) (b : Bool) (n : Int)  : (Instr.checkKey b 10000 3 (.int .i64 n)).run Tryd.prog w = .ok () w := chkKey w b n 9999
/-- A map that is empty. -/
def Map0 (w : World) (g : Nat) : Prop := w.heap[g]? = some (.map #[] 0)
theorem Map0.fresh {w : World} {g : Nat} (h : w.heap.size = g) : Map0 (w.alloc (.map #[] 0)) g := by
  subst h
  show (w.heap.push _)[w.heap.size]? = _
  simp
theorem Map0.up {w w' : World} {g : Nat} (h : Map0 w g) (hb : Below w.heap.size w w') : Map0 w' g := (hb.block g (heap_lt h)).trans h
theorem Map0.fr {w w' : World} {p g base n : Nat} {v v' : Value} {xs : List Value} {e t : TypeId} {cs : Array Value} (h : Map0 w g) (k : Fr w p v w' v') (hp : Blk w p t cs) (ho : w.ownsRow base e 1 v n xs) : Map0 w' g := by
  refine (k.same g (heap_lt h) (fun he => ?_) (fun he => ?_)).trans h
  · subst he
    unfold Blk at hp; unfold Map0 at h
    rw [h] at hp; cases hp
  · obtain ⟨_, ⟨rfl, _⟩ | ⟨r, cap, cur, rfl, _, hr, _⟩⟩ := ho
    · simp [Value.ownBlock] at he
    · simp only [Value.ownBlock, Option.some.injEq] at he
      subst he
      unfold Map0 at h
      rw [h] at hr; cases hr
theorem Map0.onl {w w' : World} {p g : Nat} {t : TypeId} {cs : Array Value} (h : Map0 w g) (k : Onl p w w') (hp : Blk w p t cs) : Map0 w' g := by
  refine (k.same g (heap_lt h) (fun he => ?_)).trans h
  subst he
  unfold Blk at hp; unfold Map0 at h
  rw [h] at hp; cases hp
theorem run_lookup0 (w : World) (g : Nat) (n : Int) (h : Map0 w g) : (Instr.lookup 63 (.map (some g)) (.int .i64 n) true).run Tryd.prog w = .ok (.tuple #[.agg #[], .bool false]) w := by
  unfold Map0 at h
  unfold Instr.lookup
  simp [run_underlying Tryd.underlying63, run_underlying Tryd.underlying3, MapKept.run_getObj_map h, chkKey2, Instr.findKey, Instr.findNow, z0 w, Result.andThen]
def mes5 (m : Int) (x : Nat) : Nat := if m = 0 then 0 else x
theorem mes5_le (m : Int) (x : Nat) : mes5 m x ≤ x := by unfold mes5; split <;> omega
theorem mes5_pos {m : Int} (h : ¬ m = 0) (x : Nat) : mes5 m x = x := by unfold mes5; rw [if_neg h]
set_option maxRecDepth 100000 in
theorem contains_any (g : Nat) (n : Int) (w : World) (h : Map0 w g) : Calls Tryd.prog 38 #[.map (some g), .int .i64 n] w fun e w' => e = .returned (.bool false) ∧ Below w.heap.size w w' := by
  have hl := run_lookup0 w g n h
  go_enter Tryd.func38, Tryd.ntmps38
  go_wp2_with fail
  go_ret
  exact ⟨rfl, bal (brf w) _⟩
theorem newMod_any (A : Option Addr) (n c : Nat) (s : ByteArray) (w : World) (hn : n ≤ 2147483647) : Calls Tryd.prog 39 #[.slice A n c, .string s, .slice none 0 0, .string ⟨#[]⟩, .int .i64 1] w fun e w' => e = .returned (.pointer (some ⟨w.heap.size, 0, none⟩)) ∧ w' = w.alloc (.cells (drC A n c s none 0 0 ⟨#[]⟩ (-1) (-1) 1) 84) := by
  go_enter Tryd.func39, Tryd.ntmps39
  go_wp2_with fail
  refine (newDec_any A n c s ⟨#[]⟩ none 0 0 (-1) (-1) 1 _ hn).mono ?_
  rintro e w' ⟨rfl, rfl⟩
  go_wp2
  go_ret
  exact ⟨rfl, rfl⟩
/-- The world behind the five things that are made at the start. -/
def dmW (w : World) (A : Option Addr) (n c : Nat) : World := ((((w.alloc (.cells #[.slice A n c, .int .i64 0, .int .i64 0] 86)).alloc (.cells (rep 100 (.int .u8 0)) 5)).alloc (.cells (rep 0 (.int .u8 0)) 5)).alloc (.cells (rep 1 (.slice none 0 0)) 27)).alloc (.map #[] 0)
set_option maxRecDepth 100000 in
set_option maxHeartbeats 4000000 in
theorem dmDecode_any (A : Option Addr) (n c : Nat) (bs : List Nat) (t : List UInt8) (w : World) (hd : RdB w 5 w.heap.size (.slice A n c) (wv8 bs)) (hbs : ∀ x ∈ bs, x < 256) (hl : bs.length ≤ 2147483647) (hS : Said 1 bs t) (ht : t.length ≤ 10000000000) :
    Calls Tryd.prog 15 #[.slice A n c] w fun e w' => ∃ g, e = .returned (.tuple #[.pointer (some ⟨g, 0, none⟩), .nilIface]) ∧ Blk w' g 84 (drC A n c (ofL t) none 0 0 ⟨#[]⟩ (-1) (-1) 1) ∧ Below w.heap.size w w' := by
  obtain ⟨i0, hi0, hz0, hz1, hz2⟩ := info_parts info_u8P
  have hnl : n = bs.length := by
    obtain ⟨A', cap, hv, -⟩ := hd
    injection hv with _ h2 _
    rw [h2, wv8_len]
  have hn31 : n ≤ 2147483647 := by omega
  have HNL := Lib.hid hnl
  clear hnl
  have hmk1 : ∀ w', (Instr.makeSlice 27 (.int .i64 0) (.int .i64 100)).run Tryd.prog w' = .ok (.slice (some ⟨w'.heap.size, 0, none⟩) 0 100) (w'.alloc (.cells (rep 100 (.int .u8 0)) 5)) := fun w' => run_mk0 (P := Tryd.prog) 27 5 i0 _ 1 Tryd.underlying27 hi0 hz0 hz1 hz2 rfl 100 (by omega) (by omega) w'
  have hmk2 : ∀ w', (Instr.makeSlice 27 (.int .i64 0) (.int .i64 0)).run Tryd.prog w' = .ok (.slice (some ⟨w'.heap.size, 0, none⟩) 0 0) (w'.alloc (.cells (rep 0 (.int .u8 0)) 5)) := fun w' => run_mk0 (P := Tryd.prog) 27 5 i0 _ 1 Tryd.underlying27 hi0 hz0 hz1 hz2 rfl 0 (by omega) (by omega) w'
  obtain ⟨i1, hi1, hy0, hy1, hy2⟩ := info_parts (P := Tryd.prog) (e := 27) (z := .slice none 0 0) (bytes := 24) (size := 1) (by kernel_rfl)
  have hmk3 : ∀ w', (Instr.makeSlice 34 (.int .i64 0) (.int .i64 1)).run Tryd.prog w' = .ok (.slice (some ⟨w'.heap.size, 0, none⟩) 0 1) (w'.alloc (.cells (rep 1 (.slice none 0 0)) 27)) := fun w' => run_mk0 (P := Tryd.prog) 34 27 i1 _ 24 Tryd.underlying34 hi1 hy0 hy1 hy2 rfl 1 (by omega) (by omega) w'
  have hmm := @run_makeMap Tryd.prog
  go_enter Tryd.func15, Tryd.ntmps15
  go_wp2_with fail
  refine (newBits_any A n c _).mono ?_
  rintro e w1 ⟨rfl, rfl⟩
  go_wp2_with fail
  clear hmk1 hmk2 hmk3 hmm
  have HK : Hid (SrcOk w w.heap.size w.heap.size (.slice A n c) bs) := Lib.hid ⟨hd, hbs, hl, Nat.le_refl _⟩
  have HS : Hid (SrcAt (dmW w A n c) w.heap.size (.slice A n c) (8 * 0)) := Lib.hid (((((Blk.fresh w _ _).alloc _).alloc _).alloc _).alloc _)
  have hb1 := bal (brf w) (.cells #[.slice A n c, .int .i64 0, .int .i64 0] 86)
  have hb5 : Below w.heap.size w (dmW w A n c) := bal (bal (bal (bal hb1 _) _) _) _
  have hsz : (dmW w A n c).heap.size = w.heap.size + 5 := by simp [dmW]
  have hO : (dmW w A n c).ownsRow w.heap.size 5 1 (.slice (some ⟨w.heap.size + 1, 0, none⟩) 0 100) 0 (bl []) := by
    have h1 : Blk ((w.alloc (.cells #[.slice A n c, .int .i64 0, .int .i64 0] 86)).alloc (.cells (rep 100 (.int .u8 0)) 5)) (w.heap.size + 1) 5 (rep 100 (.int .u8 0)) := Blk.fresh' (by simp)
    exact own_made (((h1.alloc _).alloc _).alloc _) (by omega) (by unfold maxLen; omega)
  have hM : Map0 (dmW w A n c) (w.heap.size + 1 + 1 + 1 + 1) := Map0.fresh (by simp)
  have HO := Lib.hid hO
  have HM := Lib.hid hM
  have HB := Lib.hid hb5
  have HZ : Hid (w.heap.size ≤ (dmW w A n c).heap.size) := Lib.hid (by omega)
  have HSD := Lib.hid hS
  clear hd hbs hS hO hM hb5 hb1 hsz
  go_loopw [5, 6, 7, 8, 11] (fun ov tv bv mv uv wr => ∃ (j m n' : Nat) (out t' : List UInt8), tv = .slice (some ⟨w.heap.size + 1 + 1, 0, none⟩) 0 0 ∧ bv = .slice (some ⟨w.heap.size + 1 + 1 + 1, 0, none⟩) 0 1 ∧ mv = .int .i64 (m : Int) ∧ uv = .bool false ∧ j ≤ bs.length ∧ n' + t'.length ≤ 10000000000 ∧ Hid (wr.ownsRow w.heap.size 5 1 ov n' (bl out)) ∧ Hid (n' = out.length) ∧ Hid (SrcAt wr w.heap.size (.slice A n c) (8 * j)) ∧ Hid (Said m (bs.drop j) t') ∧ Hid (out ++ t' = t) ∧ Hid (Below w.heap.size w wr) ∧ Hid (w.heap.size ≤ wr.heap.size) ∧ Hid (Map0 wr (w.heap.size + 1 + 1 + 1 + 1))) (fun _ _ _ mv _ wr => mes5 (intOf mv) (8 * bs.length + 8 - posOf wr w.heap.size))
  case atStart => exact ⟨0, 1, 0, [], t, rfl, rfl, rfl, rfl, Nat.zero_le _, by omega, HO, Lib.hid rfl, HS, HSD, Lib.hid rfl, HB, HZ, HM⟩
  case round =>
    clear HO HS HSD HB HZ HM ht
    obtain ⟨j, m, n', out, t', rfl, rfl, rfl, rfl, hj, ht, HO, HN, HS, HSD, HE, HB, HZ, HM⟩ := hrel
    rename World => wr
    have HPS : Hid (posOf wr w.heap.size = 8 * j) := Lib.hid (posOf_at HS.out)
    have hmode := HSD.out.mode
    rcases hmode with hm | hm | hm | hm
    · have hmi : (m : Int) = 0 := by omega
      have ht0 : t' = [] := by
        have h9 := HSD.out
        rw [hm] at h9
        cases h9; rfl
      clear hm HSD
      go_wp2_with fail
      refine (contains_any _ 0 wr HM.out).mono ?_
      rintro e wa ⟨rfl, hb9⟩
      have HM := Lib.hid (HM.out.up hb9)
      have HO := Lib.hid (own_up HO.out hb9)
      have HB := Lib.hid (bup HB.out hb9)
      clear hb9
      go_wp2_with fail
      refine (contains_any _ 4 wa HM.out).mono ?_
      rintro e wb ⟨rfl, hb9⟩
      have HM := Lib.hid (HM.out.up hb9)
      have HO := Lib.hid (own_up HO.out hb9)
      have HB := Lib.hid (bup HB.out hb9)
      clear hb9
      go_wp2_with fail
      refine (contains_any _ 1 wb HM.out).mono ?_
      rintro e wc ⟨rfl, hb9⟩
      have HM := Lib.hid (HM.out.up hb9)
      have HO := Lib.hid (own_up HO.out hb9)
      have HB := Lib.hid (bup HB.out hb9)
      clear hb9
      go_wp2_with fail
      refine (contains_any _ 5 wc HM.out).mono ?_
      rintro e wd ⟨rfl, hb9⟩
      have HM := Lib.hid (HM.out.up hb9)
      have HO := Lib.hid (own_up HO.out hb9)
      have HB := Lib.hid (bup HB.out hb9)
      clear hb9
      have hot : out = t := by have h9 := HE.out; rw [ht0, List.append_nil] at h9; exact h9
      have hcs := conv_str (P := Tryd.prog) wd wd.heap.size 27 5 9 Tryd.underlying27 Tryd.underlying5 Tryd.underlying9 _ (ofL out) (by rw [bytesOf_ofL]; exact (RdT.of_own HO.out).rd)
      rw [hot] at hcs
      go_wp2_with fail
      refine (newMod_any A n c (ofL t) wd hn31).mono ?_
      rintro e we ⟨rfl, rfl⟩
      go_wp2_with fail
      go_ret2
      exact ⟨_, rfl, Blk.fresh wd _ _, bal HB.out _⟩
    · have hmi : (m : Int) = 1 := by omega
      have h9 := HSD.out
      rw [hm] at h9
      obtain ⟨t1, t2, k, m2, h1, h2, h3⟩ := h9.asc_inv
      have hp1 := h1.pos
      rw [List.length_drop] at hp1
      rw [h3, List.length_append] at ht
      have HA := Lib.hid h1
      have HSD2 : Hid (Said m2 (bs.drop (j + k)) t2) := Lib.hid (by rw [List.drop_drop] at h2; exact h2)
      have HE2 : Hid (out ++ t1 ++ t2 = t) := Lib.hid (by rw [List.append_assoc, ← h3]; exact HE.out)
      have hjk : j + k ≤ bs.length := by omega
      have hj1 : j < bs.length := by omega
      have hk1 : 1 ≤ k := hp1.1
      clear h1 h2 h3 hp1 h9 hm HSD HE
      have hav := avail_src HK.out (8 * j) wr HB.out HZ.out HS.out (by omega)
      obtain ⟨Ra, hRa⟩ : ∃ x, x = 8 * bs.length - 8 * j := ⟨_, rfl⟩
      rw [← hRa] at hav
      have hRpa : 0 < Ra ∧ Ra ≤ 8 * bs.length := by omega
      clear hRa
      go_wp2_with fail
      refine hav.mono ?_
      rintro e wa ⟨rfl, hs2, ho2, hb2⟩
      have HOa := Lib.hid (own_onl HO.out ho2 HS.out (by decide))
      have HMa := Lib.hid (HM.out.onl ho2 HS.out)
      have HSa := Lib.hid hs2
      have HBa := Lib.hid hb2
      have HZa : Hid (w.heap.size ≤ wa.heap.size) := Lib.hid (Nat.le_trans HZ.out ho2.size)
      clear hs2 ho2 hb2 HO HM HS HB HZ hav
      go_wp2_with fail
      refine (decAsc_any HK.out j w.heap.size n' _ _ _ out t1 k m2 wa HBa.out HSa.out HA.out HOa.out HN.out (Nat.le_refl _) HZa.out (by omega)).mono ?_
      rintro e wb ⟨v', rfl, hq⟩
      have HM9 := Lib.hid (HMa.out.fr hq.fr HSa.out HOa.out)
      have HO9 := Lib.hid hq.own
      have HS9 := Lib.hid hq.src
      have HB9 := Lib.hid hq.below
      have HZ9 : Hid (w.heap.size ≤ wb.heap.size) := Lib.hid (Nat.le_trans HZa.out hq.size)
      clear hq HOa HMa HSa HBa HZa HA
      go_wp2_with fail
      go_roundw
      case rel => exact ⟨j + k, m2, _, _, t2, rfl, rfl, rfl, rfl, hjk, by rw [List.length_append, ← HN.out]; omega, HO9, Lib.hid rfl, HS9, HSD2, HE2, HB9, HZ9, HM9⟩
      case measure =>
        rw [posOf_at HS9.out, HPS.out, hmi]
        refine Nat.lt_of_le_of_lt (mes5_le _ _) ?_
        rw [mes5_pos (show ¬ intOf _ = 0 by decide)]
        omega
    · have hmi : (m : Int) = 2 := by omega
      have h9 := HSD.out
      rw [hm] at h9
      obtain ⟨t1, t2, k, h1, h2, h3⟩ := h9.c40_inv
      have hjk : j + k < bs.length := by
        obtain ⟨vs, r, hd, h6, _, hk, hr⟩ := h1
        have h7 := congrArg List.length hd
        rw [List.length_drop, List.length_append, List.length_cons, tripW_len vs.length vs (Nat.le_refl _) h6] at h7
        omega
      have hk1 : 1 ≤ k := by obtain ⟨vs, r, _, _, _, hk, _⟩ := h1; omega
      rw [h3, List.length_append] at ht
      have HA := Lib.hid h1
      have HSD2 : Hid (Said 1 (bs.drop (j + k)) t2) := Lib.hid (by rw [List.drop_drop] at h2; exact h2)
      have HE2 : Hid (out ++ t1 ++ t2 = t) := Lib.hid (by rw [List.append_assoc, ← h3]; exact HE.out)
      have hj1 : j < bs.length := by omega
      clear h1 h2 h3 h9 hm HSD HE
      have hav := avail_src HK.out (8 * j) wr HB.out HZ.out HS.out (by omega)
      obtain ⟨Ra, hRa⟩ : ∃ x, x = 8 * bs.length - 8 * j := ⟨_, rfl⟩
      rw [← hRa] at hav
      have hRpa : 0 < Ra ∧ Ra ≤ 8 * bs.length := by omega
      clear hRa
      go_wp2_with fail
      refine hav.mono ?_
      rintro e wa ⟨rfl, hs2, ho2, hb2⟩
      have HOa := Lib.hid (own_onl HO.out ho2 HS.out (by decide))
      have HMa := Lib.hid (HM.out.onl ho2 HS.out)
      have HSa := Lib.hid hs2
      have HBa := Lib.hid hb2
      have HZa : Hid (w.heap.size ≤ wa.heap.size) := Lib.hid (Nat.le_trans HZ.out ho2.size)
      clear hs2 ho2 hb2 HO HM HS HB HZ hav
      go_wp2_with fail
      refine (decC40_any HK.out j w.heap.size n' _ _ out t1 k wa HBa.out HSa.out HA.out HOa.out HN.out (Nat.le_refl _) HZa.out (by omega)).mono ?_
      rintro e wb ⟨v', rfl, hq⟩
      have HM9 := Lib.hid (HMa.out.fr hq.fr HSa.out HOa.out)
      have HO9 := Lib.hid hq.own
      have HS9 := Lib.hid hq.src
      have HB9 := Lib.hid hq.below
      have HZ9 : Hid (w.heap.size ≤ wb.heap.size) := Lib.hid (Nat.le_trans HZa.out hq.size)
      clear hq HOa HMa HSa HBa HZa HA
      go_wp2_with fail
      go_roundw
      case rel => exact ⟨j + k, 1, _, _, t2, rfl, rfl, rfl, rfl, by omega, by rw [List.length_append, ← HN.out]; omega, HO9, Lib.hid rfl, HS9, HSD2, HE2, HB9, HZ9, HM9⟩
      case measure =>
        rw [posOf_at HS9.out, HPS.out, hmi]
        refine Nat.lt_of_le_of_lt (mes5_le _ _) ?_
        rw [mes5_pos (show ¬ intOf _ = 0 by decide)]
        omega
    · have hmi : (m : Int) = 5 := by omega
      have h9 := HSD.out
      rw [hm] at h9
      obtain ⟨t1, t2, k, h1, h2, h3⟩ := h9.edi_inv
      have hjk : j + k < bs.length := by
        obtain ⟨_, _, hk, hr⟩ := h1
        rw [List.length_drop] at hr
        omega
      have hk1 : 1 ≤ k := by obtain ⟨_, _, hk, _⟩ := h1; omega
      rw [h3, List.length_append] at ht
      have HA := Lib.hid h1
      have HSD2 : Hid (Said 1 (bs.drop (j + k)) t2) := Lib.hid (by rw [List.drop_drop] at h2; exact h2)
      have HE2 : Hid (out ++ t1 ++ t2 = t) := Lib.hid (by rw [List.append_assoc, ← h3]; exact HE.out)
      have hj1 : j < bs.length := by omega
      clear h1 h2 h3 h9 hm HSD HE
      have hav := avail_src HK.out (8 * j) wr HB.out HZ.out HS.out (by omega)
      obtain ⟨Ra, hRa⟩ : ∃ x, x = 8 * bs.length - 8 * j := ⟨_, rfl⟩
      rw [← hRa] at hav
      have hRpa : 0 < Ra ∧ Ra ≤ 8 * bs.length := by omega
      clear hRa
      go_wp2_with fail
      refine hav.mono ?_
      rintro e wa ⟨rfl, hs2, ho2, hb2⟩
      have HOa := Lib.hid (own_onl HO.out ho2 HS.out (by decide))
      have HMa := Lib.hid (HM.out.onl ho2 HS.out)
      have HSa := Lib.hid hs2
      have HBa := Lib.hid hb2
      have HZa : Hid (w.heap.size ≤ wa.heap.size) := Lib.hid (Nat.le_trans HZ.out ho2.size)
      clear hs2 ho2 hb2 HO HM HS HB HZ hav
      go_wp2_with fail
      refine (decEdi_any HK.out j w.heap.size n' _ out t1 k wa HBa.out HSa.out HA.out HOa.out HN.out (Nat.le_refl _) HZa.out (by omega) (by omega)).mono ?_
      rintro e wb ⟨v', rfl, hq⟩
      have HM9 := Lib.hid (HMa.out.fr hq.fr HSa.out HOa.out)
      have HO9 := Lib.hid hq.own
      have HS9 := Lib.hid hq.src
      have HB9 := Lib.hid hq.below
      have HZ9 : Hid (w.heap.size ≤ wb.heap.size) := Lib.hid (Nat.le_trans HZa.out hq.size)
      clear hq HOa HMa HSa HBa HZa HA
      go_wp2_with fail
      go_roundw
      case rel => exact ⟨j + k, 1, _, _, t2, rfl, rfl, rfl, rfl, by omega, by rw [List.length_append, ← HN.out]; omega, HO9, Lib.hid rfl, HS9, HSD2, HE2, HB9, HZ9, HM9⟩
      case measure =>
        rw [posOf_at HS9.out, HPS.out, hmi]
        refine Nat.lt_of_le_of_lt (mes5_le _ _) ?_
        rw [mes5_pos (show ¬ intOf _ = 0 by decide)]
        omega
end Go.Proofs.YtjpcajecmfhppaaDoor
