/-
  WALKS: impl.decoded where no bytes were told apart, impl.DMParse.
-/
import Derived.Test.YtjpcajecmfhppaaDoorDa5
namespace Go.Proofs.YtjpcajecmfhppaaDoor
open Go.RowKit

def impD (s : ByteArray) (raw : Value) : Array Value := #[.string s, raw, .slice none 0 0, .string ⟨#[]⟩, .int .i64 0, .int .i64 (-1), .int .i64 (-1), .int .i64 1]
def zImp : Array Value := #[.string ⟨#[]⟩, .slice none 0 0, .slice none 0 0, .string ⟨#[]⟩, .int .i64 0, .int .i64 0, .int .i64 0, .int .i64 0]
set_option maxRecDepth 100000 in
theorem decoded0_any (A : Option Addr) (n c g : Nat) (s : ByteArray) (bs : List Nat) (w : World) (hg : Blk w g 84 (drC A n c s none 0 0 ⟨#[]⟩ (-1) (-1) 1)) (hd : RdT w 5 (.slice A n c) (wv8 bs)) (hl : bs.length ≤ 2147483647) :
    Calls Tryd.prog 14 #[.pointer (some ⟨g, 0, none⟩), .nilIface] w fun e w' => Below w.heap.size w w' ∧ ∃ A1 l1 c1, e = .returned (.tuple #[.agg (impD s (.slice A1 l1 c1)), .bool true]) := by
  obtain ⟨i0, hi0, hz0, hz1, hz2⟩ := info_parts info_u8P
  have HGB := Lib.hid hg
  have HD := Lib.hid hd
  clear hg hd
  go_enter Tryd.func14, Tryd.ntmps14
  go_wp2_with fail
  refine (getByteSegments_any g (.slice none 0 0) _ (by rw [Blk.cell (HGB.out.alloc _)]; rfl)).mono ?_
  rintro e wa ⟨rfl, hwa⟩
  have HBr : Hid (Below w.heap.size w wa) := Lib.hid (by rw [hwa]; exact bal (brf w) _)
  have HZr : Hid (Blk wa w.heap.size 36 zImp) := Lib.hid (by rw [hwa]; exact Blk.fresh w _ _)
  clear hwa
  go_wp2_with fail
  go_loopw [6, 15] (fun sv iv wr => sv = .slice none 0 0 ∧ iv = .int .i64 0 ∧ wr = wa) (fun _ _ _ => 0)
  case atStart => exact ⟨rfl, rfl, rfl⟩
  case round =>
    obtain ⟨rfl, rfl, rfl⟩ := hrel
    rename World => wr
    have HGw := Lib.hid (HGB.out.up HBr.out)
    have HDr := Lib.hid (HD.out.up HBr.out)
    have h51 := getText_any g (.string s) wr (by rw [HGw.out.cell]; rfl)
    have h52 := getRawBytes_any g (.slice A n c) wr (by rw [HGw.out.cell]; rfl)
    go_wp2_with fail
    refine h51.mono ?_
    rintro e wr ⟨rfl, rfl⟩
    clear h51
    go_wp2_with fail
    refine h52.mono ?_
    rintro e wr ⟨rfl, rfl⟩
    clear h52
    go_wp2_with (with_reducible refine stop_at (o := ⟨some 29, _, _, _, _, _⟩) ?_)
    refine Lib.hid ?_
    refine list_app_rd _ rfl _ _ _ rfl wr.heap.size 5 i0 _ 1 Tryd.underlying27 hi0 hz0 hz1 hz2 rfl _ 0 [] rfl (own_nil _ _ _) _ _ (wv8 bs) rfl HDr.out.rd (fun u hu => by simp [wv8] at hu; obtain ⟨x, _, rfl⟩ := hu; rfl) (by rw [wv8_len]; unfold maxLen; omega) (by rw [wv8_len]; omega) (Nat.le_refl _) ?_
    intro v1 w1 ho1 hg1
    rw [List.nil_append, Nat.zero_add] at ho1
    obtain ⟨A1, cp1, hv1, -, -⟩ := (RdT.of_own ho1).rd.form
    obtain ⟨l1, hl1⟩ : ∃ x, x = (wv8 bs).length := ⟨_, rfl⟩
    rw [← hl1] at hv1
    subst hv1
    have hbw : Below wr.heap.size wr w1 := below_grown (brf wr) hg1 (own_nil _ _ 5) (Nat.le_refl _)
    have HB1 := Lib.hid (bup HBr.out hbw)
    have HG1 := Lib.hid (HGw.out.up hbw)
    have HZ1 := Lib.hid (HZr.out.up hbw)
    clear ho1 hg1 hl1 hbw HDr HBr HGw HZr
    have h53 := getECLevel_any g (.string ⟨#[]⟩) w1 (by rw [HG1.out.cell]; rfl)
    have h54 := getErrorsCorrected_any g (.int .i64 0) w1 (by rw [HG1.out.cell]; rfl)
    have h55 := getStructuredAppendSequenceNumber_any g (.int .i64 (-1)) w1 (by rw [HG1.out.cell]; rfl)
    have h56 := getStructuredAppendParity_any g (.int .i64 (-1)) w1 (by rw [HG1.out.cell]; rfl)
    have h57 := getSymbologyModifier_any g (.int .i64 1) w1 (by rw [HG1.out.cell]; rfl)
    go_wp2_with fail
    refine h53.mono ?_
    rintro e w1 ⟨rfl, rfl⟩
    clear h53
    go_wp2_with fail
    refine h54.mono ?_
    rintro e w1 ⟨rfl, rfl⟩
    clear h54
    go_wp2_with fail
    refine h55.mono ?_
    rintro e w1 ⟨rfl, rfl⟩
    clear h55
    go_wp2_with fail
    refine h56.mono ?_
    rintro e w1 ⟨rfl, rfl⟩
    clear h56
    go_wp2_with fail
    refine h57.mono ?_
    rintro e w1 ⟨rfl, rfl⟩
    clear h57
    go_wp2_with (with_reducible refine stop_at (o := ⟨none, _, _, _, _, _⟩) ?_)
    refine Lib.hid ?_
    obtain ⟨cS, hcS⟩ : ∃ x : Array Value, x = impD s (.slice A1 l1 cp1) := ⟨_, rfl⟩
    refine wpList_store_rowTo rfl 36 _ _ rfl rfl w.heap.size cS rfl (by rw [hcS]; rfl) 36 _ HZ1.out (by rw [hcS]; kernel_rfl) (by rw [hcS]; rfl) (by rw [hcS]; simp [impD, Value.oneCell']) ?_
    have HO9 := Lib.hid (Onl.row w1 w.heap.size cS)
    have K0 := Lib.hid (setRow_heap w1 w.heap.size _ cS 36 (0, 0) HZ1.out)
    have HB9 : Hid (Below w.heap.size w (w1.setRow w.heap.size cS)) := Lib.hid (HO9.out.below _ _ HB1.out (Nat.le_refl _) HB1.out.size)
    go_wp2
    refine bodyPost_ret (cell_back1 rfl _ _ _ w.heap.size rfl cS (.bool true) rfl (run_loadVar_row _ _ _ _ _ _ _ K0.out Tryd.underlying36 rfl (by rw [hcS]; kernel_rfl))) rfl ?_
    exact ⟨HB9.out, A1, l1, cp1, by rw [hcS]⟩
set_option maxRecDepth 100000 in
theorem dmParse_any (v : Value) (bs : List Nat) (t : List UInt8) (w : World) (hv : Rd w w.heap.size v (wv8 bs)) (hbs : ∀ x ∈ bs, x < 256) (hl : bs.length ≤ 2147483647) (hS : Said 1 bs t) (ht : t.length ≤ 10000000000) :
    Calls Tryd.prog 8 #[v] w fun e w' => ∃ A1 l1 c1, e = .returned (.tuple #[.agg (impD (ofL t) (.slice A1 l1 c1)), .bool true]) ∧ Below w.heap.size w w' := by
  obtain ⟨i0, hi0, hz0, hz1, hz2⟩ := info_parts info_u8P
  have hw1 := bal (brf w) (.cells zImp 36)
  have HD1 := Lib.hid (hv.up hw1)
  have HB1 := Lib.hid hw1
  have HZ1 := Lib.hid (Blk.fresh w 36 zImp)
  have HBS := Lib.hid hbs
  have HS := Lib.hid hS
  clear hv hbs hS hw1
  go_enter Tryd.func8, Tryd.ntmps8
  go_wp2_with (with_reducible refine stop_at (o := ⟨some 5, _, _, _, _, _⟩) ?_)
  refine Lib.hid ?_
  refine list_app_rd _ rfl _ _ _ rfl (w.alloc (.cells zImp 36)).heap.size 5 i0 _ 1 Tryd.underlying27 hi0 hz0 hz1 hz2 rfl _ 0 [] rfl (own_nil _ _ _) _ _ (wv8 bs) rfl HD1.out (fun u hu => by simp [wv8] at hu; obtain ⟨x, _, rfl⟩ := hu; rfl) (by rw [wv8_len]; unfold maxLen; omega) (by rw [wv8_len]; omega) (Nat.le_refl _) ?_
  intro v1 w2 ho1 hg1
  rw [List.nil_append, Nat.zero_add] at ho1
  obtain ⟨A1, cp1, hv1, -, -⟩ := (RdT.of_own ho1).rd.form
  obtain ⟨l1, hl1⟩ : ∃ x, x = (wv8 bs).length := ⟨_, rfl⟩
  rw [← hl1] at hv1
  subst hv1
  have hbw : Below (w.alloc (.cells zImp 36)).heap.size (w.alloc (.cells zImp 36)) w2 := below_grown (brf _) hg1 (own_nil _ _ 5) (Nat.le_refl _)
  have HRW := Lib.hid (RdT.of_own ho1)
  have HB2 := Lib.hid (bup HB1.out hbw)
  have HZ2 := Lib.hid (HZ1.out.up hbw)
  clear ho1 hg1 hl1 hbw HD1 HB1 HZ1
  go_wp2_with fail
  refine (dmDecode_any A1 l1 cp1 bs t w2 HRW.out.rdB HBS.out hl HS.out ht).mono ?_
  rintro e w3 ⟨g, rfl, hg, hb3⟩
  have HB3 := Lib.hid (bup HB2.out hb3)
  have HZ3 := Lib.hid (HZ2.out.up hb3)
  have HRW3 := Lib.hid (HRW.out.up hb3)
  have HG := Lib.hid hg
  clear hb3 hg HB2 HZ2 HRW
  go_wp2_with fail
  refine (decoded0_any A1 l1 cp1 g (ofL t) bs w3 HG.out HRW3.out hl).mono ?_
  rintro e w4 ⟨hb4, A2, l2, c2, rfl⟩
  have HB4 := Lib.hid (bup HB3.out hb4)
  have HZ4 := Lib.hid (HZ3.out.up hb4)
  clear hb4 HB3 HZ3 HG HRW3
  go_wp2_with (with_reducible refine stop_at (o := ⟨none, _, _, _, _, _⟩) ?_)
  refine Lib.hid ?_
  refine wpList_store_rowTo rfl 36 _ _ rfl rfl w.heap.size (impD (ofL t) (.slice A2 l2 c2)) rfl rfl 36 _ HZ4.out (by kernel_rfl) rfl (by simp [impD, Value.oneCell']) ?_
  have HO9 := Lib.hid (Onl.row w4 w.heap.size (impD (ofL t) (.slice A2 l2 c2)))
  have K0 := Lib.hid (setRow_heap w4 w.heap.size _ (impD (ofL t) (.slice A2 l2 c2)) 36 (0, 0) HZ4.out)
  have HB9 : Hid (Below w.heap.size w (w4.setRow w.heap.size (impD (ofL t) (.slice A2 l2 c2)))) := Lib.hid (HO9.out.below _ _ HB4.out (Nat.le_refl _) HB4.out.size)
  go_wp2
  refine bodyPost_ret (cell_back1 rfl _ _ _ w.heap.size rfl (impD (ofL t) (.slice A2 l2 c2)) (.bool true) rfl (run_loadVar_row _ _ _ _ _ _ _ K0.out Tryd.underlying36 rfl (by kernel_rfl))) rfl ?_
  exact ⟨A2, l2, c2, rfl, HB9.out⟩
end Go.Proofs.YtjpcajecmfhppaaDoor
