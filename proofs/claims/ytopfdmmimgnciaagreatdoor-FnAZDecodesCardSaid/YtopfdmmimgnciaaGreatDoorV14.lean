/-
  GROUND: words of 32 bits. WALKS: gozxing.BitMatrix: its words told by a list of numbers. WALKS: the small parts of aztec's Decode: the detector's result, bytes of bits, a decoder's result, impl.decoded. WALKS: the detector's result of a matrix, a byte of bits, bits as bytes. GROUND: an append that tells in which block its result lies. WALKS: the writer of bits: put, where the bits may lie below the writer.
-/
import Derived.Test.YtopfdmmimgnciaaGreatDoorV01
import Derived.Test.YtopfdmmimgnciaaGreatDoorV03
import Derived.Test.YtopfdmmimgnciaaGreatDoorV02
import Derived.Laws.CopyOwn
import Derived.Great.BuildSlice
import Derived.Test.YtopfdmmimgnciaaGreatDoorV04
namespace Go.Proofs.YtopfdmmimgnciaaGreatDoor
open Go.RowKit

theorem u32_of (a : Nat) (ha : a < 4294967296) : (BitVec.ofInt 32 (a : Int)).toNat = a := by
  rw [BitVec.ofInt_natCast, BitVec.toNat_ofNat]; exact Nat.mod_eq_of_lt (by omega)
theorem u32_and (a b : Nat) (ha : a < 4294967296) (hb : b < 4294967296) : bits .and .u32 (a : Int) (b : Int) = ((a &&& b : Nat) : Int) := by
  have hx : a &&& b < 2 ^ 32 := Nat.and_lt_two_pow _ (by omega)
  show IntKind.u32.wrap ((BitVec.ofInt 32 (a : Int) &&& BitVec.ofInt 32 (b : Int)).toNat : Int) = _
  rw [BitVec.toNat_and, u32_of a ha, u32_of b hb, IntKind.wrap_u32]
  omega
theorem u32_or (a b : Nat) (ha : a < 4294967296) (hb : b < 4294967296) : bits .or .u32 (a : Int) (b : Int) = ((a ||| b : Nat) : Int) := by
  have hx : a ||| b < 2 ^ 32 := Nat.or_lt_two_pow (by omega) (by omega)
  show IntKind.u32.wrap ((BitVec.ofInt 32 (a : Int) ||| BitVec.ofInt 32 (b : Int)).toNat : Int) = _
  rw [BitVec.toNat_or, u32_of a ha, u32_of b hb, IntKind.wrap_u32]
  omega
theorem pow32 (k : Nat) (h : k < 32) : (2 : Int) ^ k % 4294967296 = ((2 ^ k : Nat) : Int) := by
  have h2 : 2 ^ k < 4294967296 := Nat.pow_lt_pow_right (n := 32) (by decide) h
  have e : (2 : Int) ^ k = ((2 ^ k : Nat) : Int) := by simp
  rw [e]
  generalize 2 ^ k = q at *
  omega
/-- Words as values. -/
def wv (ws : List Nat) : List Value := ws.map fun n : Nat => Value.int .u32 (n : Int)
theorem wv_at (ws : List Nat) (i : Nat) (h : i < ws.length) : (wv ws).toArray[i]? = some (.int .u32 ((ws[i] : Nat) : Int)) := by simp [wv, h]
theorem wv_set (ws : List Nat) (i v : Nat) : (wv ws).toArray.setIfInBounds i (.int .u32 (v : Int)) = (wv (ws.set i v)).toArray := by
  simp [wv, List.map_set]
theorem wv_rep (n : Nat) : (wv (List.replicate n 0)).toArray = rep n (.int .u32 0) := by simp [wv, rep]
end Go.Proofs.YtopfdmmimgnciaaGreatDoor
namespace Go.Proofs.YtopfdmmimgnciaaGreatDoor
open Go.RowKit

/-- The bit at column x and row y of words, rs of them a row. -/
def bitM (ws : List Nat) (rs x y : Nat) : Bool := (ws.getD (y * rs + x / 32) 0).testBit (x % 32)
/-- The words in which that bit is set. -/
def setM (ws : List Nat) (rs x y : Nat) : List Nat := ws.set (y * rs + x / 32) (ws.getD (y * rs + x / 32) 0 ||| 2 ^ (x % 32))
theorem setM_len (ws : List Nat) (rs x y : Nat) : (setM ws rs x y).length = ws.length := by simp [setM]
theorem setM_lt {ws : List Nat} {rs x y : Nat} (h : ∀ v ∈ ws, v < 4294967296) : ∀ v ∈ setM ws rs x y, v < 4294967296 := by
  intro v hv
  rcases List.mem_or_eq_of_mem_set hv with hv | hv
  · exact h v hv
  · rw [hv]
    have h1 : ws.getD (y * rs + x / 32) 0 < 2 ^ 32 := by
      rw [List.getD]
      rcases Nat.lt_or_ge (y * rs + x / 32) ws.length with hl | hl
      · rw [List.getElem?_eq_getElem hl]; exact h _ (List.getElem_mem hl)
      · rw [List.getElem?_eq_none hl]; decide
    exact Nat.or_lt_two_pow h1 (Nat.pow_lt_pow_right (n := 32) (by decide) (Nat.mod_lt _ (by decide)))
theorem place_inj {rs x y a b : Nat} (hx : x / 32 < rs) (ha : a / 32 < rs) (h : y * rs + x / 32 = b * rs + a / 32) : y = b ∧ x / 32 = a / 32 := by
  have h1 : (y * rs + x / 32) / rs = y := by rw [Nat.mul_comm, Nat.mul_add_div (by omega), Nat.div_eq_of_lt hx, Nat.add_zero]
  have h2 : (b * rs + a / 32) / rs = b := by rw [Nat.mul_comm, Nat.mul_add_div (by omega), Nat.div_eq_of_lt ha, Nat.add_zero]
  have h3 : y = b := by rw [← h1, ← h2, h]
  subst h3
  exact ⟨rfl, by omega⟩
theorem place_lt {rs x y H : Nat} (hx : x / 32 < rs) (hy : y < H) : y * rs + x / 32 < rs * H := by
  have h1 : (y + 1) * rs ≤ H * rs := Nat.mul_le_mul_right rs hy
  rw [Nat.add_mul, Nat.one_mul] at h1
  rw [Nat.mul_comm rs H]; omega
theorem setM_bit (ws : List Nat) (rs x y a b H : Nat) (hn : ws.length = rs * H) (hx : x / 32 < rs) (hy : y < H) (ha : a / 32 < rs) : bitM (setM ws rs x y) rs a b = (bitM ws rs a b || (decide (a = x) && decide (b = y))) := by
  unfold bitM setM
  by_cases h : y * rs + x / 32 = b * rs + a / 32
  · obtain ⟨h1, h2⟩ := place_inj hx ha h
    have hp := place_lt hx hy
    rw [List.getD, ← h, List.getElem?_set_self (by omega), Option.getD_some, Nat.testBit_or, Nat.testBit_two_pow]
    congr 1
    rw [Bool.eq_iff_iff]; simp; omega
  · rw [List.getD, List.getElem?_set_ne h, List.getD]
    have : (decide (a = x) && decide (b = y)) = false := by
      rw [Bool.and_eq_false_iff, decide_eq_false_iff_not, decide_eq_false_iff_not]
      by_cases h1 : a = x
      · right; intro h2; subst h1 h2; exact h rfl
      · exact .inl h1
    rw [this, Bool.or_false]
/-- Pointer p is a BitMatrix, W wide and H high; its words are ws, in block g. -/
structure MatW (w : World) (p g W H : Nat) (ws : List Nat) : Prop where
  head : Blk w p 156 #[.int .i64 W, .int .i64 H, .int .i64 ((W + 31) / 32 : Nat), .slice (some ⟨g, 0, none⟩) ws.length ws.length]
  rows : Blk w g 157 (wv ws).toArray
  lt : ∀ x ∈ ws, x < 4294967296
  len : ws.length = (W + 31) / 32 * H
  apart : p ≠ g
theorem MatW.up {w w' : World} {p g W H : Nat} {ws : List Nat} (h : MatW w p g W H ws) (hb : Below w.heap.size w w') : MatW w' p g W H ws :=
  ⟨h.head.up hb, h.rows.up hb, h.lt, h.len, h.apart⟩
/-- Its bits are f. -/
def MatAt (w : World) (p g W H : Nat) (f : Nat → Nat → Bool) : Prop := ∃ ws, MatW w p g W H ws ∧ ∀ x y, x < W → y < H → bitM ws ((W + 31) / 32) x y = f x y
theorem MatAt.up {w w' : World} {p g W H : Nat} {f : Nat → Nat → Bool} (h : MatAt w p g W H f) (hb : Below w.heap.size w w') : MatAt w' p g W H f := by
  obtain ⟨ws, h1, h2⟩ := h; exact ⟨ws, h1.up hb, h2⟩

theorem shr_bit (x k : Nat) : (((x / 2 ^ k % 2 : Nat) : Int) != 0) = x.testBit k := by
  rw [Nat.testBit_eq_decide_div_mod_eq]
  rcases Nat.mod_two_eq_zero_or_one (x / 2 ^ k) with h | h <;> rw [h] <;> rfl
theorem matGet_any (p g W H x y : Nat) (f : Nat → Nat → Bool) (w : World) (h : MatAt w p g W H f) (hx : x < W) (hy : y < H) (hW : W ≤ 4096) (hH : H ≤ 4096) :
    Calls Tryz.prog 66 #[.pointer (some ⟨p, 0, none⟩), .int .i64 x, .int .i64 y] w fun e w' => e = .returned (.bool (f x y)) ∧ w' = w := by
  obtain ⟨ws, h, hf⟩ := h
  have hr : x / 32 < (W + 31) / 32 := by omega
  have hpl := place_lt hr hy
  rw [← h.len] at hpl
  have hbit : (ws[y * ((W + 31) / 32) + x / 32]).testBit (x % 32) = f x y := by
    rw [← hf x y hx hy, bitM, List.getD, List.getElem?_eq_getElem hpl]; rfl
  have c0 : w.cell? ⟨p, 0, none⟩ = some (.int .i64 W) := by rw [h.head.cell]; rfl
  have c1 : w.cell? ⟨p, 1, none⟩ = some (.int .i64 H) := by rw [h.head.cell]; rfl
  have c2 : w.cell? ⟨p, 2, none⟩ = some (.int .i64 ((W + 31) / 32 : Nat)) := by rw [h.head.cell]; rfl
  have c3 : w.cell? ⟨p, 3, none⟩ = some (.slice (some ⟨g, 0, none⟩) ws.length ws.length) := by rw [h.head.cell]; rfl
  have c4 : w.cell? ⟨g, y * ((W + 31) / 32) + x / 32, none⟩ = some (.int .u32 ((ws[y * ((W + 31) / 32) + x / 32] : Nat) : Int)) := by rw [h.rows.cell, wv_at _ _ hpl]
  have hv := h.lt _ (List.getElem_mem hpl)
  have hlen : ws.length ≤ 129 * 4096 := by rw [h.len]; exact Nat.mul_le_mul (by omega) hH
  generalize ws[y * ((W + 31) / 32) + x / 32] = v at *
  generalize ws.length = n at *
  clear h hf
  have hrs : (W + 31) / 32 ≤ 129 := by omega
  generalize (W + 31) / 32 = rs at *
  have e1 : (y : Int) * (rs : Int) = ((y * rs : Nat) : Int) := by simp
  generalize y * rs = m at *
  rw [← hbit]
  clear hbit
  have e2 := shr_bit v (x % 32)
  have e3 : bits .and .u32 ((v : Int) / (2 : Int) ^ (x % 32)) 1 = ((v / 2 ^ (x % 32) % 2 : Nat) : Int) := by
    have h1 : v / 2 ^ (x % 32) ≤ v := Nat.div_le_self _ _
    have h2 := u32_and (v / 2 ^ (x % 32)) 1 (by omega) (by decide)
    rw [Nat.and_one_is_mod] at h2
    rw [← h2]; congr 1
  go_enter Tryz.func66, Tryz.ntmps66
  go_wp2
  go_ret
  exact ⟨ret_bool (by rw [← e2]; first | rfl | rw [e3]), rfl⟩
end Go.Proofs.YtopfdmmimgnciaaGreatDoor
namespace Go.Proofs.YtopfdmmimgnciaaGreatDoor
open Go.RowKit

theorem info_u8P : (Tryz.prog.info? 5).map (fun i => (i.zero, i.size, i.bytes)) = some (some (.int .u8 0), 1, 1) := by kernel_rfl
/-- The cells of a result. -/
def drZ (A : Option Addr) (n c : Nat) (nb : Int) (s s2 : ByteArray) : Array Value :=
  #[.slice A n c, .int .i64 nb, .string s, .slice none 0 0, .string s2, .int .i64 0, .int .i64 0, .nilIface, .int .i64 (-1), .int .i64 (-1), .int .i64 0]
theorem newDecP_any (A : Option Addr) (n c : Nat) (s s2 : ByteArray) (w : World) (hn : n ≤ 2147483647) : Calls Tryz.prog 82 #[.slice A n c, .string s, .slice none 0 0, .string s2, .int .i64 (-1), .int .i64 (-1), .int .i64 0] w fun e w' => e = .returned (.pointer (some ⟨w.heap.size, 0, none⟩)) ∧ w' = w.alloc (.cells (drZ A n c (8 * (n : Int)) s s2) 118) := by
  go_enter Tryz.func82, Tryz.ntmps82
  go_wp2
  go_ret
  exact ⟨rfl, rfl⟩
theorem newDecR_any (A : Option Addr) (n c : Nat) (s s2 : ByteArray) (w : World) (hn : n ≤ 2147483647) : Calls Tryz.prog 52 #[.slice A n c, .string s, .slice none 0 0, .string s2] w fun e w' => ∃ g, e = .returned (.pointer (some ⟨g, 0, none⟩)) ∧ Blk w' g 118 (drZ A n c (8 * (n : Int)) s s2) ∧ w.heap.size ≤ g ∧ Below w.heap.size w w' := by
  go_enter Tryz.func52, Tryz.ntmps52
  go_wp2_with fail
  refine (newDecP_any A n c s s2 w hn).mono ?_
  rintro e w1 ⟨rfl, rfl⟩
  go_wp2_with fail
  go_ret
  exact ⟨_, rfl, Blk.fresh w _ _, Nat.le_refl _, bal (brf w) _⟩
theorem setNumBits_any (A : Option Addr) (n c g B : Nat) (nb nb2 : Int) (s s2 : ByteArray) (w : World) (hg : Blk w g 118 (drZ A n c nb s s2)) (hB : B ≤ g) : Calls Tryz.prog 54 #[.pointer (some ⟨g, 0, none⟩), .int .i64 nb2] w fun e w' => e = .returned (.tuple #[]) ∧ w' = w.setCell ⟨g, 1, none⟩ (.int .i64 nb2) ∧ Blk w' g 118 (drZ A n c nb2 s s2) ∧ Below B w w' := by
  have c1 : w.cell? ⟨g, 1, none⟩ = some (.int .i64 nb) := by rw [hg.cell]; rfl
  have f1 := hg.frozen 1
  have HP := Lib.hid (And.intro (hg.put 1 (.int .i64 nb2)) ((Below.refl B w).setCell (p := ⟨g, 1, none⟩) hB (.int .i64 nb2)))
  clear hg
  go_enter Tryz.func54, Tryz.ntmps54
  go_wp2
  refine bodyPost_end (results_none rfl _ _ _) rfl ?_
  exact ⟨rfl, rfl, HP.out.1, HP.out.2⟩
theorem getText_any (g : Nat) (v : Value) (w : World) (h : w.cell? ⟨g, 2, none⟩ = some v) : Calls Tryz.prog 39 #[.pointer (some ⟨g, 0, none⟩)] w fun e w' => e = .returned v ∧ w' = w := by
  go_enter Tryz.func39, Tryz.ntmps39
  go_wp2
  go_ret
  exact ⟨rfl, rfl⟩
theorem getRawBytes_any (g : Nat) (v : Value) (w : World) (h : w.cell? ⟨g, 0, none⟩ = some v) : Calls Tryz.prog 40 #[.pointer (some ⟨g, 0, none⟩)] w fun e w' => e = .returned v ∧ w' = w := by
  go_enter Tryz.func40, Tryz.ntmps40
  go_wp2
  go_ret
  exact ⟨rfl, rfl⟩
theorem getByteSegments_any (g : Nat) (v : Value) (w : World) (h : w.cell? ⟨g, 3, none⟩ = some v) : Calls Tryz.prog 38 #[.pointer (some ⟨g, 0, none⟩)] w fun e w' => e = .returned v ∧ w' = w := by
  go_enter Tryz.func38, Tryz.ntmps38
  go_wp2
  go_ret
  exact ⟨rfl, rfl⟩
theorem getECLevel_any (g : Nat) (v : Value) (w : World) (h : w.cell? ⟨g, 4, none⟩ = some v) : Calls Tryz.prog 41 #[.pointer (some ⟨g, 0, none⟩)] w fun e w' => e = .returned v ∧ w' = w := by
  go_enter Tryz.func41, Tryz.ntmps41
  go_wp2
  go_ret
  exact ⟨rfl, rfl⟩
theorem getErrorsCorrected_any (g : Nat) (v : Value) (w : World) (h : w.cell? ⟨g, 5, none⟩ = some v) : Calls Tryz.prog 42 #[.pointer (some ⟨g, 0, none⟩)] w fun e w' => e = .returned v ∧ w' = w := by
  go_enter Tryz.func42, Tryz.ntmps42
  go_wp2
  go_ret
  exact ⟨rfl, rfl⟩
theorem getStructuredAppendSequenceNumber_any (g : Nat) (v : Value) (w : World) (h : w.cell? ⟨g, 9, none⟩ = some v) : Calls Tryz.prog 43 #[.pointer (some ⟨g, 0, none⟩)] w fun e w' => e = .returned v ∧ w' = w := by
  go_enter Tryz.func43, Tryz.ntmps43
  go_wp2
  go_ret
  exact ⟨rfl, rfl⟩
theorem getStructuredAppendParity_any (g : Nat) (v : Value) (w : World) (h : w.cell? ⟨g, 8, none⟩ = some v) : Calls Tryz.prog 44 #[.pointer (some ⟨g, 0, none⟩)] w fun e w' => e = .returned v ∧ w' = w := by
  go_enter Tryz.func44, Tryz.ntmps44
  go_wp2
  go_ret
  exact ⟨rfl, rfl⟩
theorem getSymbologyModifier_any (g : Nat) (v : Value) (w : World) (h : w.cell? ⟨g, 10, none⟩ = some v) : Calls Tryz.prog 45 #[.pointer (some ⟨g, 0, none⟩)] w fun e w' => e = .returned v ∧ w' = w := by
  go_enter Tryz.func45, Tryz.ntmps45
  go_wp2
  go_ret
  exact ⟨rfl, rfl⟩
theorem cell_back1 {fn : Func} {t1 u : Tmp} {ty : TypeId} (h : fn.results = #[.cell t1 ty, .tmp u]) (tmps : Array Value) (P : Program) (w : World) (g1 : Nat) (h1 : tmps.getD t1 undef = .pointer (some ⟨g1, 0, none⟩)) (c1 : Array Value) (x : Value) (h2 : tmps.getD u undef = x)
    (l1 : (loadVar ty ⟨g1, 0, none⟩).run P w = .ok (.agg c1) w) : (results fn tmps).run P w = .ok (.tuple #[.agg c1, x]) w := by
  rw [Array.getD_eq_getD_getElem?] at h1 h2
  simp [results, h, h1, h2, asAddr, l1]
def wv8 (l : List Nat) : List Value := l.map fun n : Nat => Value.int .u8 (n : Int)
theorem wv8_len (l : List Nat) : (wv8 l).length = l.length := by simp [wv8]
theorem RdT.setRow {w : World} {e : TypeId} {v : Value} {xs : List Value} (h : RdT w e v xs) {p : Nat} {t : TypeId} {cs : Array Value} (hp : Blk w p t cs) (ht : t ≠ e) (row : Array Value) : RdT (w.setRow p row) e v xs := by
  obtain ⟨A, cap, hv, h1, h2, h3⟩ := h
  refine ⟨A, cap, hv, h1, h2, fun hl => ?_⟩
  obtain ⟨b, off, cs', fr, hA, hh, hc⟩ := h3 hl
  refine ⟨b, off, cs', fr, hA, (setRow_other w p b row (fun he => ?_)).trans hh, hc⟩
  subst he
  unfold Blk at hp
  rw [hh] at hp
  injection hp with hp
  injection hp with _ h6
  exact ht h6.symm
def impZ (s s2 : ByteArray) (raw : Value) : Array Value := #[.string s, raw, .slice none 0 0, .string s2, .int .i64 0, .int .i64 (-1), .int .i64 (-1), .int .i64 0]
def zImp : Array Value := #[.string ⟨#[]⟩, .slice none 0 0, .slice none 0 0, .string ⟨#[]⟩, .int .i64 0, .int .i64 0, .int .i64 0, .int .i64 0]
set_option maxRecDepth 100000 in
theorem decoded0_any (A : Option Addr) (n c g : Nat) (nb : Int) (s s2 : ByteArray) (bs : List Nat) (w : World) (hg : Blk w g 118 (drZ A n c nb s s2)) (hd : RdT w 5 (.slice A n c) (wv8 bs)) (hl : bs.length ≤ 2147483647) :
    Calls Tryz.prog 21 #[.pointer (some ⟨g, 0, none⟩), .nilIface] w fun e w' => Below w.heap.size w w' ∧ ∃ A1 l1 c1, e = .returned (.tuple #[.agg (impZ s s2 (.slice A1 l1 c1)), .bool true]) ∧ RdT w' 5 (.slice A1 l1 c1) (wv8 bs) := by
  obtain ⟨i0, hi0, hz0, hz1, hz2⟩ := info_parts info_u8P
  have HGB := Lib.hid hg
  have HD := Lib.hid hd
  clear hg hd
  go_enter Tryz.func21, Tryz.ntmps21
  go_wp2_with fail
  refine (getByteSegments_any g (.slice none 0 0) _ (by rw [Blk.cell (HGB.out.alloc _)]; rfl)).mono ?_
  rintro e wa ⟨rfl, hwa⟩
  have HBr : Hid (Below w.heap.size w wa) := Lib.hid (by rw [hwa]; exact bal (brf w) _)
  have HZr : Hid (Blk wa w.heap.size 35 zImp) := Lib.hid (by rw [hwa]; exact Blk.fresh w _ _)
  clear hwa
  go_wp2_with fail
  go_loopw [6, 15] (fun sv iv wr => sv = .slice none 0 0 ∧ iv = .int .i64 0 ∧ wr = wa) (fun _ _ _ => 0)
  case atStart => exact ⟨rfl, rfl, rfl⟩
  case round =>
    obtain ⟨rfl, rfl, rfl⟩ := hrel
    rename World => wr
    have HGw := Lib.hid (HGB.out.up HBr.out)
    have HDr := Lib.hid (HD.out.up HBr.out)
    have h51 := getText_any g (.string s) wr (by rw [HGw.out.cell]; rfl)
    have h52 := getRawBytes_any g (.slice A n c) wr (by rw [HGw.out.cell]; rfl)
    go_wp2_with fail
    refine h51.mono ?_
    rintro e wr ⟨rfl, rfl⟩
    clear h51
    go_wp2_with fail
    refine h52.mono ?_
    rintro e wr ⟨rfl, rfl⟩
    clear h52
    go_wp2_with (with_reducible refine stop_at (o := ⟨some 29, _, _, _, _, _⟩) ?_)
    refine Lib.hid ?_
    refine list_app_rd _ rfl _ _ _ rfl wr.heap.size 5 i0 _ 1 Tryz.underlying22 hi0 hz0 hz1 hz2 rfl _ 0 [] rfl (own_nil _ _ _) _ _ (wv8 bs) rfl HDr.out.rd (fun u hu => by simp [wv8] at hu; obtain ⟨x, _, rfl⟩ := hu; rfl) (by rw [wv8_len]; unfold maxLen; omega) (by rw [wv8_len]; omega) (Nat.le_refl _) ?_
    intro v1 w1 ho1 hg1
    rw [List.nil_append, Nat.zero_add] at ho1
    have hr1 := RdT.of_own ho1
    obtain ⟨A1, cp1, hv1, -, -⟩ := hr1.rd.form
    obtain ⟨l1, hl1⟩ : ∃ x, x = (wv8 bs).length := ⟨_, rfl⟩
    rw [← hl1] at hv1
    subst hv1
    have HRW := Lib.hid hr1
    have hbw : Below wr.heap.size wr w1 := below_grown (brf wr) hg1 (own_nil _ _ 5) (Nat.le_refl _)
    have HB1 := Lib.hid (bup HBr.out hbw)
    have HG1 := Lib.hid (HGw.out.up hbw)
    have HZ1 := Lib.hid (HZr.out.up hbw)
    clear ho1 hr1 hg1 hl1 hbw HDr HBr HGw HZr
    have h53 := getECLevel_any g (.string s2) w1 (by rw [HG1.out.cell]; rfl)
    have h54 := getErrorsCorrected_any g (.int .i64 0) w1 (by rw [HG1.out.cell]; rfl)
    have h55 := getStructuredAppendSequenceNumber_any g (.int .i64 (-1)) w1 (by rw [HG1.out.cell]; rfl)
    have h56 := getStructuredAppendParity_any g (.int .i64 (-1)) w1 (by rw [HG1.out.cell]; rfl)
    have h57 := getSymbologyModifier_any g (.int .i64 0) w1 (by rw [HG1.out.cell]; rfl)
    go_wp2_with fail
    refine h53.mono ?_
    rintro e w1 ⟨rfl, rfl⟩
    clear h53
    go_wp2_with fail
    refine h54.mono ?_
    rintro e w1 ⟨rfl, rfl⟩
    clear h54
    go_wp2_with fail
    refine h55.mono ?_
    rintro e w1 ⟨rfl, rfl⟩
    clear h55
    go_wp2_with fail
    refine h56.mono ?_
    rintro e w1 ⟨rfl, rfl⟩
    clear h56
    go_wp2_with fail
    refine h57.mono ?_
    rintro e w1 ⟨rfl, rfl⟩
    clear h57
    go_wp2_with (with_reducible refine stop_at (o := ⟨none, _, _, _, _, _⟩) ?_)
    refine Lib.hid ?_
    obtain ⟨cS, hcS⟩ : ∃ x : Array Value, x = impZ s s2 (.slice A1 l1 cp1) := ⟨_, rfl⟩
    refine wpList_store_rowTo rfl 35 _ _ rfl rfl w.heap.size cS rfl (by rw [hcS]; rfl) 35 _ HZ1.out (by rw [hcS]; kernel_rfl) (by rw [hcS]; rfl) (by rw [hcS]; simp [impZ, Value.oneCell']) ?_
    have K0 := Lib.hid (setRow_heap w1 w.heap.size _ cS 35 (0, 0) HZ1.out)
    have HB9 : Hid (Below w.heap.size w (w1.setRow w.heap.size cS)) := Lib.hid (below_setRow HB1.out (Nat.le_refl _) _)
    have HR9 := Lib.hid (RdT.setRow HRW.out HZ1.out (by decide) cS)
    go_wp2
    refine bodyPost_ret (cell_back1 rfl _ _ _ w.heap.size rfl cS (.bool true) rfl (run_loadVar_row _ _ _ _ _ _ _ K0.out Tryz.underlying35 rfl (by rw [hcS]; kernel_rfl))) rfl ?_
    exact ⟨HB9.out, A1, l1, cp1, by rw [hcS], HR9.out⟩
end Go.Proofs.YtopfdmmimgnciaaGreatDoor
namespace Go.Proofs.YtopfdmmimgnciaaGreatDoor
open Go.RowKit

theorem detMade_any (m : Nat) (c : Bool) (D L : Nat) (w : World) : Calls Tryz.prog 24 #[.pointer (some ⟨m, 0, none⟩), .slice none 0 0, .bool c, .int .i64 D, .int .i64 L] w fun e w' => ∃ d q, e = .returned (.pointer (some ⟨d, 0, none⟩)) ∧ Blk w' d 96 #[.pointer (some ⟨q, 0, none⟩), .bool c, .int .i64 D, .int .i64 L] ∧ Blk w' q 120 #[.pointer (some ⟨m, 0, none⟩), .slice none 0 0] ∧ Below w.heap.size w w' := by
  have hnew : Calls Tryz.prog 55 #[.pointer (some ⟨m, 0, none⟩), .slice none 0 0] w fun e w' => e = .returned (.pointer (some ⟨w.heap.size, 0, none⟩)) ∧ w' = w.alloc (.cells #[.pointer (some ⟨m, 0, none⟩), .slice none 0 0] 120) := by
    go_enter Tryz.func55, Tryz.ntmps55
    go_wp2
    go_ret
    exact ⟨rfl, rfl⟩
  go_enter Tryz.func24, Tryz.ntmps24
  go_wp2_with fail
  refine hnew.mono ?_
  rintro e w1 ⟨rfl, rfl⟩
  clear hnew
  go_wp2_with fail
  go_ret
  exact ⟨_, _, rfl, Blk.fresh' (by simp), (Blk.fresh w _ _).alloc _, bal (bal (brf w) _) _⟩
theorem getBits_any (q : Nat) (v : Value) (w : World) (h : w.cell? ⟨q, 0, none⟩ = some v) : Calls Tryz.prog 46 #[.pointer (some ⟨q, 0, none⟩)] w fun e w' => e = .returned v ∧ w' = w := by
  go_enter Tryz.func46, Tryz.ntmps46
  go_wp2
  go_ret
  exact ⟨rfl, rfl⟩
/-- Byte i of bits: eight of them, or fewer and zeros. -/
def byteZ (l : List Bool) (i : Nat) : Nat := (if i + 8 ≤ l.length then valL ((l.drop i).take 8) else valL ((l.drop i).take (l.length - i)) * 2 ^ (8 - (l.length - i))) % 256
set_option maxRecDepth 100000 in
theorem readByte_any (v : Value) (l : List Bool) (i B : Nat) (w : World) (hv : Rd w B v (bv l)) (hi : i < l.length) (hl : l.length ≤ 1000000) :
    Calls Tryz.prog 77 #[v, .int .i64 i] w fun e w' => e = .returned (.int .u8 (byteZ l i : Nat)) ∧ w' = w := by
  have HV := Lib.hid hv
  obtain ⟨A, cap, rfl, k1, k2, -⟩ := hv
  rw [bv_len] at *
  unfold maxLen at k2
  by_cases h8 : i + 8 ≤ l.length
  · have hrc := readCode_any _ l i 8 B w HV.out h8 (by decide) hl
    have hz : byteZ l i = valL ((l.drop i).take 8) % 256 := by unfold byteZ; rw [if_pos h8]
    have hlt := valL_lt ((l.drop i).take 8)
    rw [List.length_take, List.length_drop, Nat.min_eq_left (by omega)] at hlt
    generalize valL ((l.drop i).take 8) = x at *
    have HU := Lib.hid hz
    clear hz
    go_enter Tryz.func77, Tryz.ntmps77
    go_wp2_with fail
    refine hrc.mono ?_
    rintro e w1 ⟨rfl, rfl⟩
    clear hrc
    go_wp2_with fail
    go_ret
    exact ⟨ret_int (by rw [HU.out]; omega), rfl⟩
  · obtain ⟨n, hn⟩ : ∃ n, n = l.length - i := ⟨_, rfl⟩
    have hrc := readCode_any _ l i n B w HV.out (by omega) (by omega) hl
    have hz : byteZ l i = valL ((l.drop i).take n) * 2 ^ (8 - n) % 256 := by unfold byteZ; rw [if_neg h8, hn]
    have hlt := valL_lt ((l.drop i).take n)
    rw [List.length_take, List.length_drop, Nat.min_eq_left (by omega)] at hlt
    generalize valL ((l.drop i).take n) = x at *
    have e1 : (l.length : Int) - (i : Int) = (n : Int) := by omega
    have hn1 : 0 < n := by omega
    have hn8 : n < 8 := by omega
    obtain ⟨s, hs⟩ : ∃ s, s = 8 - n := ⟨_, rfl⟩
    rw [← hs] at hz
    have e2 : (8 : Int) - (n : Int) = (s : Int) := by omega
    have hp : x * 2 ^ s < 256 := by
      have h9 : 2 ^ n * 2 ^ s = 256 := by rw [← Nat.pow_add, show n + s = 8 by omega]
      have h7 : x * 2 ^ s < 2 ^ n * 2 ^ s := Nat.mul_lt_mul_of_pos_right hlt (Nat.two_pow_pos s)
      omega
    have HU := Lib.hid (And.intro hz hp)
    clear hn hlt hz hs hp
    go_enter Tryz.func77, Tryz.ntmps77
    go_wp2_with fail
    refine hrc.mono ?_
    rintro e w1 ⟨rfl, rfl⟩
    clear hrc
    go_wp2_with fail
    go_ret
    refine ⟨ret_int ?_, rfl⟩
    obtain ⟨hz, hp⟩ := HU.out
    obtain ⟨y, hy⟩ : ∃ y, y = x * 2 ^ s := ⟨_, rfl⟩
    have e : (x : Int) * 2 ^ s = (y : Int) := by rw [hy]; simp
    rw [hz, ← hy, e]
    rw [← hy] at hp
    have hw : wrap64 (y : Int) = (y : Int) := by unfold wrap64; omega
    rw [hw]; omega
def bytesZ (l : List Bool) : List Nat := (List.range ((l.length + 7) / 8)).map fun i => byteZ l (8 * i)
theorem bytesZ_len (l : List Bool) : (bytesZ l).length = (l.length + 7) / 8 := by simp [bytesZ]
theorem wv8_set (l : List Nat) (i z : Nat) : (wv8 l).toArray.setIfInBounds i (.int .u8 (z : Int)) = (wv8 (l.set i z)).toArray := by simp [wv8, List.map_set]
theorem mk_bytesZ (n : Nat) (W : World) (hn : n ≤ 65536) : (Instr.makeSlice 22 (.int .i64 (n : Int)) (.int .i64 (n : Int))).run Tryz.prog W =
    .ok (.slice (some ⟨W.heap.size, 0, none⟩) n n) (W.alloc (.cells (wv8 (List.replicate n 0)).toArray 5)) := by
  have h := run_mk (P := Tryz.prog) 22 5 (.int .u8 0) 1 Tryz.underlying22 info_u8P rfl n (by omega) (by omega) W
  rw [show rep n (.int .u8 0) = (wv8 (List.replicate n 0)).toArray by simp [rep, wv8]] at h
  exact h
set_option maxRecDepth 100000 in
set_option maxHeartbeats 2000000 in
theorem convert_any (v : Value) (l : List Bool) (w : World) (hv : Rd w w.heap.size v (bv l)) (hl : l.length ≤ 400000) :
    Calls Tryz.prog 50 #[v] w fun e w' => ∃ b n, e = .returned (.slice (some ⟨b, 0, none⟩) n n) ∧ n ≤ 65536 ∧ RdT w' 5 (.slice (some ⟨b, 0, none⟩) n n) (wv8 (bytesZ l)) ∧ Below w.heap.size w w' := by
  have HV := Lib.hid hv
  obtain ⟨A, cap, rfl, k1, k2, -⟩ := hv
  rw [bv_len] at *
  unfold maxLen at k2
  obtain ⟨n, hn⟩ : ∃ n, n = (l.length + 7) / 8 := ⟨_, rfl⟩
  have hn6 : n ≤ 65536 := by omega
  have hmk := mk_bytesZ n w hn6
  have e1 : Int.tdiv ((l.length : Int) + 7) 8 = (n : Int) := by rw [Int.tdiv_eq_ediv_of_nonneg (by omega)]; omega
  have e2 : ((l.length : Int) + 7) / 8 = (n : Int) := by omega
  obtain ⟨E, hE⟩ : ∃ E, E = bytesZ l := ⟨_, rfl⟩
  have hEl : E.length = n := by rw [hE, bytesZ_len, hn]
  have hEat : ∀ i (h : i < n), E.getD i 0 = byteZ l (8 * i) := fun i h => by rw [hE]; unfold bytesZ; rw [List.getD, List.getElem?_map, List.getElem?_range (by omega)]; rfl
  rw [← hE]
  have HEA := Lib.hid hEat
  have HN := Lib.hid hn
  have hB0 : Blk (w.alloc (.cells (wv8 (List.replicate n 0)).toArray 5)) w.heap.size 5 (wv8 (fillA E 0 n 0)).toArray := by rw [fill_zero]; exact Blk.fresh w _ _
  have HB0 := Lib.hid hB0
  have HB1 := Lib.hid (bal (brf w) (.cells (wv8 (List.replicate n 0)).toArray 5))
  have HEL := Lib.hid hEl
  clear hn hE hEl hEat hB0
  go_enter Tryz.func50, Tryz.ntmps50
  go_wp2_with fail
  clear hmk e1 e2
  go_loopw [4] (fun iv wr => ∃ (i : Nat), i ≤ n ∧ iv = .int .i64 (i : Int) ∧ Hid (Blk wr w.heap.size 5 (wv8 (fillA E 0 n i)).toArray) ∧ Hid (Below w.heap.size w wr)) (fun iv _ => n - (intOf iv).toNat)
  case atStart => exact ⟨0, Nat.zero_le _, rfl, HB0, HB1⟩
  case round =>
    clear HB0 HB1
    obtain ⟨i, hi, rfl, HK, HB⟩ := hrel
    by_cases hlt : i < n
    · have hEi : i < E.length := by rw [HEL.out]; exact hlt
      have h8 : 8 * i < l.length := by have := HN.out; omega
      have hrb := readByte_any _ l (8 * i) w.heap.size wr (HV.out.below HB.out) h8 (by omega)
      have hz : byteZ l (8 * i) = E[i] := by rw [← HEA.out i hlt, List.getD, List.getElem?_eq_getElem hEi]; rfl
      have hset := fill_set E 0 n i hEi (by rw [HEL.out]; exact Nat.le_refl _)
      rw [hz] at hrb
      generalize E[i] = z at *
      obtain ⟨q, hq⟩ : ∃ q, q = 8 * i := ⟨_, rfl⟩
      have eq1 : (8 : Int) * (i : Int) = (q : Int) := by omega
      rw [← hq] at hrb
      have hq6 : q ≤ 1000000 := by omega
      have cO : wr.cell? ⟨w.heap.size, i, none⟩ = some (.int .u8 0) := by
        rw [HK.out.cell, List.getElem?_toArray]
        unfold wv8
        rw [List.getElem?_map, fill_at_k E 0 n i hlt (by omega)]; rfl
      have fO := HK.out.frozen i
      have hb2 := HK.out.put i (.int .u8 (z : Int))
      rw [wv8_set, hset] at hb2
      have HK2 := Lib.hid hb2
      have HB2 := Lib.hid (HB.out.setCell (p := ⟨w.heap.size, i, none⟩) (Nat.le_refl _) (.int .u8 (z : Int)))
      have HRB := Lib.hid hrb
      clear hb2 hset hz hrb HK hq
      go_wp2_with fail
      refine HRB.out.mono ?_
      rintro e w2 ⟨rfl, rfl⟩
      go_wp2_with fail
      go_roundw
      case rel => exact ⟨i + 1, by omega, by go_num, HK2, HB2⟩
      case measure => simp [intOf]; omega
    · obtain rfl : i = n := by omega
      have hk := HK.out
      rw [← HEL.out, fill_full] at hk
      have HR := Lib.hid (RdT.of_blk hk rfl (Nat.le_refl _) (by rw [wv8_len, HEL.out]; unfold maxLen; omega))
      clear hk HK
      go_wp2_with fail
      go_ret
      exact ⟨_, _, rfl, hn6, by have h9 := HR.out; rw [wv8_len, HEL.out] at h9; exact h9, HB.out⟩
end Go.Proofs.YtopfdmmimgnciaaGreatDoor
namespace Go.Proofs.YtopfdmmimgnciaaGreatDoor
open Go.RowKit

section
variable {P : Program} {w : World}
theorem run_app2 (base : Nat) (t ty e : TypeId) (i : TypeInfo) (z : Value) (bytes : Nat) (ht : P.underlying t = some (.slice e)) (hi : P.info? e = some i) (hz : i.zero = some z)
    (hsize : i.size = 1) (hby : i.bytes = bytes) (hzs : z.cells.size = 1)
    (v : Value) (n : Nat) (xs : List Value) (hown : w.ownsRow base e 1 v n xs) (B : Nat) (src : Value) (ys : List Value) (hr : Rd w B src ys) (h1 : ∀ u ∈ ys, u.oneCell' = true)
    (h63 : n + ys.length ≤ maxLen) (hbytes : (n + ys.length) * bytes ≤ 140737488355328) (hbase : base ≤ w.heap.size) :
    ∃ v' w', (Builtin.append_ #[t, t] ty #[v, src]).run P w = .ok v' w' ∧ w'.ownsRow base e 1 v' (n + ys.length) (xs ++ ys) ∧ w.grownBy w' v.ownBlock ∧ (v'.ownBlock = v.ownBlock ∨ v'.ownBlock = some w.heap.size) := by
  obtain ⟨A, cap, rfl, _, _, h3⟩ := hr
  rcases A with _ | ad
  · have hn : ys = [] := by
      rcases ys with _ | ⟨y, r⟩
      · rfl
      · obtain ⟨b, off, he, _⟩ := h3 (by simp); cases he
    subst hn
    exact ⟨v, w, run_app_nil w base t ty e i ht hi v n xs hown cap, by simpa using hown, World.grownBy.refl w _, .inl rfl⟩
  · have hc : ∀ j u, ys[j]? = some u → w.cell? (ad.add j) = some u := by
      intro j u hu
      have hj : j < ys.length := (List.getElem?_eq_some_iff.1 hu).1
      obtain ⟨b, off, he, _, hcc⟩ := h3 (by omega)
      injection he with he
      subst he
      have e1 : (⟨b, off, none⟩ : Addr).add j = ⟨b, off + j, none⟩ := by unfold Addr.add; split <;> simp_all
      rw [e1]; exact hcc j u hu
    obtain ⟨v', w', hrun, h2, h4, _, h5⟩ := run_append_own_at (P := P) w base t ty e i z 1 bytes ht hi hz hsize hby hzs (by omega) v n xs hown ad ys.length cap ys (by simp) hc h1 h63 hbytes hbase
    exact ⟨v', w', hrun, h2, h4, h5⟩
theorem list_app2 {ops : Array Oper} {rest : List Oper} {o : Oper} {a : Act} {Q : Exit → Act → World → Prop} (hgd : o.guard = none) (s x : Operand) (t : TypeId)
    (ho : o.op = .call { callee := .builtin .append, args := #[s, x], argTypes := #[t, t] })
    (base : Nat) (e : TypeId) (i : TypeInfo) (z : Value) (bytes : Nat) (ht : P.underlying t = some (.slice e)) (hi : P.info? e = some i) (hz : i.zero = some z)
    (hsize : i.size = 1) (hby : i.bytes = bytes) (hzs : z.cells.size = 1)
    (v : Value) (n : Nat) (xs : List Value) (hs : a.eval s = v) (hown : w.ownsRow base e 1 v n xs) (B : Nat) (src : Value) (ys : List Value) (hx : a.eval x = src) (hr : Rd w B src ys) (h1 : ∀ u ∈ ys, u.oneCell' = true)
    (h63 : n + ys.length ≤ maxLen) (hbytes : (n + ys.length) * bytes ≤ 140737488355328) (hbase : base ≤ w.heap.size)
    (h : ∀ v' w', w'.ownsRow base e 1 v' (n + ys.length) (xs ++ ys) → w.grownBy w' v.ownBlock → (v'.ownBlock = v.ownBlock ∨ v'.ownBlock = some w.heap.size) → wpList P ops Q rest (a.put o.dst v') w') : wpList P ops Q (o :: rest) a w :=
  wpList_plain hgd fun _ hK => by
    obtain ⟨v', w', hrun, h2, h3, h4⟩ := run_app2 (P := P) base t o.type e i z bytes ht hi hz hsize hby hzs v n xs hown B src ys hr h1 h63 hbytes hbase
    unfold Oper.wp execOp
    simp only [ho, resolve, invoke, builtin, Sem.run_bind, Sem.run_pure, Result.andThen_ok, List.map_toArray, List.map_cons, List.map_nil, hs, hx, hrun]
    exact hK _ _ (h v' w' h2 h3 h4)
end
theorem own_grown {w w' : World} {base n : Nat} {e : TypeId} {v : Value} {xs : List Value} {row : Option Nat} (h : w.ownsRow base e 1 v n xs) (hg : w.grownBy w' row) (ha : ∀ b, v.ownBlock = some b → row ≠ some b) : w'.ownsRow base e 1 v n xs := by
  obtain ⟨h1, h2 | ⟨r, cap, cur, rfl, hb', hr, rest⟩⟩ := h
  · exact ⟨h1, .inl h2⟩
  · refine ⟨h1, .inr ⟨r, cap, cur, rfl, hb', (hg.block r (Blk.lt (w := w) (g := r) (t := e) (cs := cur) hr) (fun he => ha r rfl he.symm)).trans hr, rest⟩⟩
theorem own_lt {w : World} {base n b : Nat} {e : TypeId} {v : Value} {xs : List Value} (h : w.ownsRow base e 1 v n xs) (hb : v.ownBlock = some b) : b < w.heap.size := by
  obtain ⟨h1, ⟨rfl, _⟩ | ⟨r, cap, cur, rfl, hb', hr, rest⟩⟩ := h
  · simp [Value.ownBlock] at hb
  · simp only [Value.ownBlock, Option.some.injEq] at hb
    subst hb
    exact Blk.lt (w := w) (g := r) (t := e) (cs := cur) hr
/-- A cell of another block is written. -/
theorem own_off {w : World} {base n size : Nat} {e : TypeId} {v : Value} {xs : List Value} (h : w.ownsRow base e size v n xs) {p : Addr} (hp : v.ownBlock ≠ some p.block) (u : Value) : (w.setCell p u).ownsRow base e size v n xs := by
  obtain ⟨h1, h2 | ⟨r, cap, cur, rfl, hb', hr, rest⟩⟩ := h
  · exact ⟨h1, .inl h2⟩
  · refine ⟨h1, .inr ⟨r, cap, cur, rfl, hb', (Below.heap_setCell w p u r (fun he => hp ?_)).trans hr, rest⟩⟩
    simp only [Value.ownBlock, Option.some.injEq]; exact he
end Go.Proofs.YtopfdmmimgnciaaGreatDoor
namespace Go.Proofs.YtopfdmmimgnciaaGreatDoor
open Go.RowKit

/-- Pointer p is a writer that has written bits and a text, in a mode; its bits do not lie in its own block. -/
structure WrB (w : World) (p base : Nat) (bs : List Bool) (txt : ByteArray) (m : Nat) (n : Nat) : Prop where
  own : ∃ v, Blk w p 74 #[v, .string txt, .int .i64 m] ∧ w.ownsRow base 4 1 v n (bv bs) ∧ v.ownBlock ≠ some p
  len : n = bs.length
  lo : base ≤ p
theorem WrB.base_le {w : World} {p base : Nat} {bs : List Bool} {txt : ByteArray} {m n : Nat} (h : WrB w p base bs txt m n) : base ≤ w.heap.size := by
  obtain ⟨⟨v, h1, h2, h5⟩, h3, h4⟩ := h
  have := h1.lt
  omega
theorem WrB.up {w w' : World} {p base : Nat} {bs : List Bool} {txt : ByteArray} {m n : Nat} (h : WrB w p base bs txt m n) (hb : Below w.heap.size w w') : WrB w' p base bs txt m n := by
  obtain ⟨⟨v, h1, h2, h5⟩, h3, h4⟩ := h
  exact ⟨⟨v, h1.up hb, own_up h2 hb, h5⟩, h3, h4⟩
set_option maxRecDepth 100000 in
set_option maxHeartbeats 2000000 in
theorem putB_any (p base N many n : Nat) (bs : List Bool) (txt : ByteArray) (m B : Nat) (w : World) (h : WrB w p base bs txt m n) (hN : N < 4294967296) (hm : many ≤ 20) (hn : n ≤ 100000) (hB : B ≤ base) :
    Calls Tryz.prog 27 #[.pointer (some ⟨p, 0, none⟩), .int .i64 N, .int .i64 many] w fun e w' => e = .returned (.tuple #[]) ∧ WrB w' p base (bs ++ putL N many) txt m (n + many) ∧ Below B w w' ∧ w.heap.size ≤ w'.heap.size ∧ KeepT w w' := by
  obtain ⟨i0, hi0, hz0, hz1, hz2⟩ := info_parts info_bool
  have HWR := Lib.hid h; clear h
  go_enter Tryz.func27, Tryz.ntmps27
  go_wp2_with fail
  go_loopw [6] (fun kv wr => ∃ (j : Nat), j ≤ many ∧ kv = .int .i64 ((many : Int) - 1 - j) ∧ Hid (WrB wr p base (bs ++ (List.range j).map (fun i => (N / 2 ^ (many - 1 - i)) % 2 == 1)) txt m (n + j)) ∧ Hid (Below B w wr) ∧ Hid (w.heap.size ≤ wr.heap.size ∧ KeepT w wr)) (fun kv _ => (intOf kv + 1).toNat)
  case atStart => exact ⟨0, Nat.zero_le _, by simp, by simpa using HWR, Lib.hid (Below.refl _ _), Lib.hid ⟨Nat.le_refl _, KeepT.refl _⟩⟩
  case round =>
    clear HWR
    obtain ⟨j, hj, rfl, HWR, HB, HS⟩ := hrel
    by_cases hlt : j < many
    · obtain ⟨k, hk⟩ : ∃ k, k = many - 1 - j := ⟨_, rfl⟩
      have e1 : (many : Int) - 1 - (j : Int) = (k : Int) := by omega
      rw [e1]
      have hk2 : k ≤ 20 := by omega
      have HL : Hid ((List.range (j + 1)).map (fun i => (N / 2 ^ (many - 1 - i)) % 2 == 1) = (List.range j).map (fun i => (N / 2 ^ (many - 1 - i)) % 2 == 1) ++ [(N / 2 ^ k) % 2 == 1]) := Lib.hid (by rw [hk]; exact putL_part N many j)
      have HK := Lib.hid hk
      have ez : (k : Int) - 1 = (many : Int) - 1 - ((j + 1 : Nat) : Int) := by omega
      have HE := Lib.hid ez
      clear hk e1 ez
      obtain ⟨l2, hl2⟩ : ∃ l, l = (List.range (j + 1)).map (fun i => (N / 2 ^ (many - 1 - i)) % 2 == 1) := ⟨_, rfl⟩
      rw [← hl2] at HL
      have HL2 := Lib.hid hl2; clear hl2
      generalize (List.range j).map (fun i => (N / 2 ^ (many - 1 - i)) % 2 == 1) = l1 at *
      obtain ⟨bb, hbb⟩ : ∃ b, b = ((N / 2 ^ k) % 2 == 1) := ⟨_, rfl⟩
      have eb := shr_and1 N k (by omega)
      rw [← hbb] at eb HL
      clear hbb
      obtain ⟨v, h1, h2, hap⟩ := HWR.out.own
      have hlen := HWR.out.len
      have HN := Lib.hid hlen
      have hlo := HWR.out.lo
      have hbs := HWR.out.base_le
      have hpl := h1.lt
      have HH1 := Lib.hid h1
      have HH2 := Lib.hid h2
      have c0 : wr.cell? ⟨p, 0, none⟩ = some v := by rw [h1.cell]; rfl
      have f0 := h1.frozen 0
      clear h1 h2 hlen HWR
      go_wp2_with (with_reducible refine stop_at (o := ⟨some 25, _, _, _, _, _⟩) ?_)
      refine Lib.hid ?_
      clear eb
      refine list_app2 rfl _ _ 42 rfl base 4 i0 _ 1 Tryz.underlying42 hi0 hz0 hz1 hz2 rfl v (n + j) _ rfl (HH2.out.alloc _) _ _ [.bool bb] rfl (Rd.one rfl _ _) (fun u hu => by simp at hu; subst hu; rfl) (by simp only [List.length_singleton]; unfold maxLen; omega) (by simp only [List.length_singleton]; omega) (by have := HS.out.1; simp; omega) ?_
      intro v1 w3 ho1 hg1 hl1
      have ho2 : w3.ownsRow base 4 1 v1 (n + (j + 1)) (bv (bs ++ l2)) := by rw [HL.out, ← List.append_assoc, bv_app]; exact ho1
      obtain ⟨A1, n1, cap1, rfl⟩ : ∃ A n c, v1 = .slice A n c := by obtain ⟨A, c, h, _⟩ := RdT.of_own ho2; exact ⟨_, _, _, h⟩
      clear ho1
      have hB1 : Blk w3 p 74 #[v, .string txt, .int .i64 m] := Blk.grown (HH1.out.alloc _) hg1 (fun he => hap he.symm)
      have hap1 : (Value.slice A1 n1 cap1).ownBlock ≠ some p := fun he => by
        rcases hl1 with hl1 | hl1
        · rw [hl1] at he; exact hap he
        · rw [hl1] at he
          injection he with he
          simp at he
          omega
      have hF1 := hB1.frozen 0
      have c1 : w3.cell? ⟨p, 0, none⟩ = some v := by rw [hB1.cell]; rfl
      have hBB : Below B w w3 := below_grown (HB.out.alloc (by have := HS.out.1; have := HH1.out.lt; omega) _) hg1 (own_less (HH2.out.alloc _) (by omega)) (by have := HS.out.1; have := HH1.out.lt; simp; omega)
      have hsz : w.heap.size ≤ w3.heap.size := Nat.le_trans HS.out.1 (Nat.le_trans (by simp) hg1.size)
      have HO := Lib.hid ho2
      have HB1 := Lib.hid hB1
      have hKT : KeepT w (w3.setCell ⟨p, 0, none⟩ (.slice A1 n1 cap1)) := ((HS.out.2.trans (KeepT.below (bal (brf wr) _))).trans (KeepT.grown (HH2.out.alloc _) hg1)).trans (KeepT.set hB1 0 _)
      have HW := Lib.hid (And.intro hBB (And.intro hsz hKT))
      clear ho2 hg1 hB1 hBB hsz hKT HH1 HH2 HB HS c0 f0
      go_wp2
      go_roundw
      case rel =>
        refine ⟨j + 1, by omega, by rw [HE.out], Lib.hid (by rw [← HL2.out]; exact ⟨⟨_, HB1.out.put 0 _, own_off HO.out (p := ⟨p, 0, none⟩) hap1 _, hap1⟩, by have := HN.out; rw [HL.out]; simp only [List.length_append, List.length_singleton] at *; omega, hlo⟩), Lib.hid (HW.out.1.setCell (p := ⟨p, 0, none⟩) (Nat.le_trans hB hlo) _), Lib.hid ⟨by simpa using HW.out.2.1, HW.out.2.2⟩⟩
      case measure => simp [intOf] <;> omega
    · obtain rfl : j = many := by omega
      go_wp2
      refine bodyPost_end (results_none rfl _ _ _) rfl ?_
      exact ⟨rfl, HWR.out, HB.out, HS.out.1, HS.out.2⟩
end Go.Proofs.YtopfdmmimgnciaaGreatDoor
