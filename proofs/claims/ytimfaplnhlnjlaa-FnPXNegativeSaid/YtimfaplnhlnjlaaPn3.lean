/-
  WALKS: a binarizer of a picture's grays: made, its arrays laid, a row of its source read.
-/
import Derived.Test.YtimfaplnhlnjlaaPx3
import Derived.Test.YtimfaplnhlnjlaaPc3
namespace Go.Proofs.Ytimfaplnhlnjlaa
open Go.RowKit

def binV (p : Nat) : Value := .iface 79 (.pointer (some ⟨p, 0, none⟩))
def binC (s : Value) (ga n kb : Nat) : Array Value := #[s, .slice (some ⟨ga, 0, none⟩) n n, .slice (some ⟨kb, 0, none⟩) 32 32]
/-- As it was, but for two blocks. -/
structure Off (w w' : World) (p q : Nat) : Prop where
  same : ∀ b, b < w.heap.size → b ≠ p → b ≠ q → w'.heap[b]? = w.heap[b]?
  size : w.heap.size ≤ w'.heap.size
  below : ∀ B w0, Below B w0 w → B ≤ p → B ≤ q → B ≤ w.heap.size → Below B w0 w'
theorem Off.refl (w : World) (p q : Nat) : Off w w p q := ⟨fun _ _ _ _ => rfl, Nat.le_refl _, fun _ _ h _ _ _ => h⟩
theorem Off.trans {a b c : World} {p q : Nat} (h : Off a b p q) (k : Off b c p q) : Off a c p q :=
  ⟨fun x hx h1 h2 => (k.same x (Nat.lt_of_lt_of_le hx h.size) h1 h2).trans (h.same x hx h1 h2), Nat.le_trans h.size k.size,
    fun B w0 hB h1 h2 h3 => k.below B w0 (h.below B w0 hB h1 h2 h3) h1 h2 (Nat.le_trans h3 h.size)⟩
theorem Off.alloc (w : World) (o : Obj) (p q : Nat) : Off w (w.alloc o) p q :=
  ⟨fun b hb _ _ => Below.heap_alloc w o b hb, by simp, fun B w0 h _ _ h3 => h.alloc h3 o⟩
theorem Off.put1 (w : World) (p q i : Nat) (u : Value) : Off w (w.setCell ⟨p, i, none⟩ u) p q :=
  ⟨fun b _ h1 _ => Below.heap_setCell w ⟨p, i, none⟩ u b h1, by simp [World.setCell], fun B w0 h h1 _ _ => h.setCell (p := ⟨p, i, none⟩) h1 u⟩
theorem Off.put2 (w : World) (p q i : Nat) (u : Value) : Off w (w.setCell ⟨q, i, none⟩ u) p q :=
  ⟨fun b _ _ h2 => Below.heap_setCell w ⟨q, i, none⟩ u b h2, by simp [World.setCell], fun B w0 h _ h2 _ => h.setCell (p := ⟨q, i, none⟩) h2 u⟩
theorem Blk.off {w w' : World} {p q g : Nat} {t : TypeId} {cs : Array Value} (h : Blk w g t cs) (k : Off w w' p q) (h1 : g ≠ p) (h2 : g ≠ q) : Blk w' g t cs := (k.same g h.lt h1 h2).trans h

theorem mk32 (w : World) : (Instr.makeSlice 23 (.int .i64 32) (.int .i64 32)).run Try.prog w = .ok (.slice (some ⟨w.heap.size, 0, none⟩) 32 32) (w.alloc (.cells (rep 32 (.int .i64 0)) 3)) :=
  run_mk (P := Try.prog) 23 3 (.int .i64 0) 8 Try.underlying23 info_int rfl 32 (by omega) (by omega) w
set_option maxRecDepth 100000 in
/-- gozxing.NewGlobalHistgramBinarizer. -/
theorem newBin_any (q : Nat) (w : World) :
    Calls Try.prog 25 #[srcV q] w fun e w' => ∃ p ga kb, e = .returned (binV p) ∧ Blk w' p 81 (binC (srcV q) ga 0 kb) ∧ Blk w' kb 3 (nv (List.replicate 32 0)).toArray ∧
      kb < p ∧ w.heap.size ≤ kb ∧ Below w.heap.size w w' := by
  have hmk := mk32
  have hz := rep_nv 32
  generalize rep 32 (Value.int IntKind.i64 0) = z at *
  have HZ := Lib.hid hz; clear hz
  unfold srcV
  go_enter Try.func25, Try.ntmps25
  go_wp2
  go_ret
  refine ⟨w.heap.size + 1 + 1, w.heap.size, w.heap.size + 1, rfl, Blk.fresh' (by simp), ?_, by omega, by omega, bal (bal (bal (brf w) _) _) _⟩
  rw [← HZ.out]
  exact (Blk.fresh' (by simp)).alloc _
/-- The first numbers are 0. -/
def zer (cs : List Nat) (i : Nat) : List Nat := List.replicate i 0 ++ cs.drop i
theorem zer_len (cs : List Nat) (i : Nat) (h : i ≤ cs.length) : (zer cs i).length = cs.length := by simp [zer]; omega
theorem zer_set (cs : List Nat) (i : Nat) (h : i < cs.length) : (zer cs i).set i 0 = zer cs (i + 1) := by
  unfold zer
  rw [List.set_append_right _ _ (by simp), List.length_replicate, Nat.sub_self, List.drop_eq_getElem_cons h, List.set_cons_zero, List.replicate_succ', List.append_assoc, List.singleton_append]
theorem nv_set (cs : List Nat) (i v : Nat) : (nv cs).toArray.setIfInBounds i (.int .i64 (v : Int)) = (nv (cs.set i v)).toArray := by simp [nv, List.map_set]
set_option maxRecDepth 100000 in
set_option maxHeartbeats 2000000 in
/-- (*GlobalHistogramBinarizer).initArrays. -/
theorem initArrays_any (p ga n kb W : Nat) (s : Value) (cs : List Nat) (w : World) (hp : Blk w p 81 (binC s ga n kb)) (hk : Blk w kb 3 (nv cs).toArray) (hc : cs.length = 32) (hn : n < W) (hW : W ≤ 100000) (hpk : kb ≠ p) :
    Calls Try.prog 68 #[.pointer (some ⟨p, 0, none⟩), .int .i64 W] w fun e w' => e = .returned (.tuple #[]) ∧ Blk w' p 81 (binC s w.heap.size W kb) ∧
      Blk w' w.heap.size 5 (b8 (List.replicate W 0)).toArray ∧ Blk w' kb 3 (nv (List.replicate 32 0)).toArray ∧ Off w w' p kb := by
  have c1 : w.cell? ⟨p, 1, none⟩ = some (.slice (some ⟨ga, 0, none⟩) n n) := by rw [hp.cell]; rfl
  have hmk := run_mk (P := Try.prog) 30 5 (.int .u8 0) 1 Try.underlying30 info_b8 rfl W (by omega) (by omega) w
  have e2 : ¬ (W : Int) < 0 := by omega
  have hz : rep W (Value.int IntKind.u8 0) = (b8 (List.replicate W 0)).toArray := by simp [rep, b8]
  rw [hz] at hmk
  clear hz
  have hlp := hp.lt
  have hlk := hk.lt
  have f1 := hp.frozen 1
  obtain ⟨wa, hwa⟩ : ∃ wa, wa = (w.setCell ⟨p, 1, none⟩ (.slice (some ⟨w.heap.size, 0, none⟩) W W)).alloc (Obj.cells (b8 (List.replicate W 0)).toArray 5) := ⟨_, rfl⟩
  have HA : Hid (Blk wa w.heap.size 5 (b8 (List.replicate W 0)).toArray) := Lib.hid (by rw [hwa]; exact Blk.fresh' (by simp))
  have HP : Hid (Blk wa p 81 (binC s w.heap.size W kb)) := Lib.hid (by rw [hwa]; exact (hp.put 1 (.slice (some ⟨w.heap.size, 0, none⟩) W W)).alloc _)
  have HK : Hid (Blk wa kb 3 (nv cs).toArray) := Lib.hid (by rw [hwa]; exact (hk.far (p := ⟨p, 1, none⟩) hpk (.slice (some ⟨w.heap.size, 0, none⟩) W W)).alloc _)
  have HO : Hid (Off w wa p kb) := Lib.hid (by rw [hwa]; exact (Off.put1 w p kb 1 _).trans (Off.alloc _ _ _ _))
  have HWA := Lib.hid hwa.symm
  clear hwa hp hk
  go_enter Try.func68, Try.ntmps68
  go_wp2
  rw [HWA.out]
  clear HWA hmk f1 c1 e2
  have hgk : kb ≠ w.heap.size := by omega
  have hgp : p ≠ w.heap.size := by omega
  go_loopw [4] (fun iv wr => ∃ i : Nat, i ≤ 32 ∧ iv = .int .i64 i ∧ Hid (Blk wr p 81 (binC s w.heap.size W kb)) ∧ Hid (Blk wr w.heap.size 5 (b8 (List.replicate W 0)).toArray) ∧ Hid (Blk wr kb 3 (nv (zer cs i)).toArray) ∧ Hid (Off w wr p kb)) (fun iv _ => 32 - (intOf iv).toNat)
  case atStart => exact ⟨0, by omega, rfl, HP, HA, by simpa [zer] using HK, HO⟩
  case round =>
    clear HP HA HK HO
    obtain ⟨i, hi, rfl, HP, HA, HK, HO⟩ := hrel
    by_cases hlt : i < 32
    · have c2 : wr.cell? ⟨p, 2, none⟩ = some (.slice (some ⟨kb, 0, none⟩) 32 32) := by rw [HP.out.cell]; rfl
      have hzl := zer_len cs i (by omega)
      have cK : wr.cell? ⟨kb, i, none⟩ = some (.int .i64 (((zer cs i).getD i 0 : Nat) : Int)) := by rw [HK.out.cell, List.getElem?_toArray]; exact nv_at _ _ (by omega)
      have fK := HK.out.frozen i
      have HK2 := HK.out.put i (.int .i64 ((0 : Nat) : Int))
      rw [nv_set, zer_set cs i (by omega)] at HK2
      have HK2 := Lib.hid HK2
      have HP2 := Lib.hid (HP.out.far (p := ⟨kb, i, none⟩) (Ne.symm hpk) (.int .i64 ((0 : Nat) : Int)))
      have HA2 := Lib.hid (HA.out.far (p := ⟨kb, i, none⟩) (Ne.symm hgk) (.int .i64 ((0 : Nat) : Int)))
      have HO2 := Lib.hid (HO.out.trans (Off.put2 wr p kb i (.int .i64 ((0 : Nat) : Int))))
      generalize (zer cs i).getD i 0 = old at *
      clear HP HA HK HO hzl
      go_wp2
      go_roundw
      case rel => exact ⟨i + 1, by omega, by go_num, HP2, HA2, HK2, HO2⟩
      case measure => simp [intOf]; omega
    · obtain rfl : i = 32 := by omega
      have hz : zer cs 32 = List.replicate 32 0 := by unfold zer; rw [List.drop_eq_nil_of_le (by omega), List.append_nil]
      have HZ := Lib.hid hz; clear hz
      go_wp2
      refine bodyPost_end (results_none rfl _ _ _) rfl ?_
      exact ⟨rfl, HP.out, HA.out, by rw [← HZ.out]; exact HK.out, HO.out⟩
end Go.Proofs.Ytimfaplnhlnjlaa
