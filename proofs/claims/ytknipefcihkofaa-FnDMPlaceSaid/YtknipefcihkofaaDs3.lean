/-
  WALKS: the placer of the reference: utah, corner, corners.
-/
import Derived.Test.YtknipefcihkofaaDs2
namespace Go.Proofs.Ytknipefcihkofaa
open Go.RowKit

/-- Nothing below block g has changed. -/
def KeptG (g : Nat) (w w' : World) : Prop := w.heap.size ≤ w'.heap.size ∧ ∀ B, B ≤ g → Below B w w'
theorem KeptG.refl (g : Nat) (w : World) : KeptG g w w := ⟨Nat.le_refl _, fun B _ => Below.refl B w⟩
theorem KeptG.of {g : Nat} {a b : World} (h : Kept g a b) : KeptG g a b := ⟨Nat.le_of_eq h.1.symm, h.2⟩
theorem KeptG.trans {g : Nat} {a b c : World} (h : KeptG g a b) (k : KeptG g b c) : KeptG g a c := ⟨Nat.le_trans h.1 k.1, fun B hB => (h.2 B hB).trans (k.2 B hB)⟩
theorem KeptG.below {g : Nat} {a b : World} (h : Below a.heap.size a b) (hg : g ≤ a.heap.size) : KeptG g a b := ⟨h.size, fun _ hB => h.mono (Nat.le_trans hB hg)⟩
theorem SpAt.next {w : World} {q rows cols word base : Nat} {v : Value} {gr : Nat → Nat} {M : Mod} (h : SpAt w q rows cols word v base gr M) (word' : Nat) : SpAt (w.setCell ⟨q, 2, none⟩ (.int .i64 (word' : Nat))) q rows cols word' v base gr M := by
  refine ⟨h.head.put 2 _, h.outer.far (p := ⟨q, 2, none⟩) h.head (by decide) _, fun r hr => (h.inner r hr).far (p := ⟨q, 2, none⟩) (fun e => blk_neq h.head (h.inner r hr) (by decide) e.symm) _, h.lo, h.inj⟩
set_option maxRecDepth 100000 in
set_option maxHeartbeats 2000000 in
theorem sutah_any (q rows cols word : Nat) (v : Value) (base : Nat) (gr : Nat → Nat) (M M' : Mod) (row col : Int) (w : World) (h : SpAt w q rows cols word v base gr M) (hp : putsG modSet rows cols word (utahL row col) 0 M = some M') (hq : q ≤ base) (hw : word ≤ 100000) (hR : rows ≤ 200) (hC : cols ≤ 200)
    (hrow : 0 ≤ row ∧ row ≤ 300) (hcol : 0 ≤ col ∧ col ≤ 300) :
    Calls Try.prog 35 #[.pointer (some ⟨q, 0, none⟩), .int .i64 row, .int .i64 col] w fun e w' => e = .returned (.tuple #[]) ∧ SpAt w' q rows cols (word + 1) v base gr M' ∧ Kept q w w' := by
  unfold utahL at hp
  obtain ⟨r1, r2⟩ := hrow
  obtain ⟨s1, s2⟩ := hcol
  obtain ⟨i0, p0, hp⟩ := puts_cons hp
  obtain ⟨i1, p1, hp⟩ := puts_cons hp
  obtain ⟨i2, p2, hp⟩ := puts_cons hp
  obtain ⟨i3, p3, hp⟩ := puts_cons hp
  obtain ⟨i4, p4, hp⟩ := puts_cons hp
  obtain ⟨i5, p5, hp⟩ := puts_cons hp
  obtain ⟨i6, p6, hp⟩ := puts_cons hp
  obtain ⟨i7, p7, hp⟩ := puts_cons hp
  have hpe := puts_nil hp
  have P0 := Lib.hid p0; have P1 := Lib.hid p1; have P2 := Lib.hid p2; have P3 := Lib.hid p3; have P4 := Lib.hid p4; have P5 := Lib.hid p5; have P6 := Lib.hid p6; have P7 := Lib.hid p7
  have HE := Lib.hid hpe
  clear p0 p1 p2 p3 p4 p5 p6 p7 hp hpe
  have H := Lib.hid (And.intro h (Kept.refl q w))
  clear h
  go_enter Try.func35, Try.ntmps35
  go_wp2_with fail
  refine (sput_any q rows cols word v base gr _ _ _ _ 0 i0 _ H.out.1 P0.out (by decide) (by decide) hq hw hR hC (by omega) (by omega)).mono ?_
  rintro e w0 ⟨rfl, h1, h2, -⟩
  have H0 := Lib.hid (And.intro h1 (H.out.2.trans h2))
  clear h1 h2 H
  go_wp2_with fail
  refine (sput_any q rows cols word v base gr _ _ _ _ 1 i1 _ H0.out.1 P1.out (by decide) (by decide) hq hw hR hC (by omega) (by omega)).mono ?_
  rintro e w1 ⟨rfl, h1, h2, -⟩
  have H1 := Lib.hid (And.intro h1 (H0.out.2.trans h2))
  clear h1 h2 H0
  go_wp2_with fail
  refine (sput_any q rows cols word v base gr _ _ _ _ 2 i2 _ H1.out.1 P2.out (by decide) (by decide) hq hw hR hC (by omega) (by omega)).mono ?_
  rintro e w2 ⟨rfl, h1, h2, -⟩
  have H2 := Lib.hid (And.intro h1 (H1.out.2.trans h2))
  clear h1 h2 H1
  go_wp2_with fail
  refine (sput_any q rows cols word v base gr _ _ _ _ 3 i3 _ H2.out.1 P3.out (by decide) (by decide) hq hw hR hC (by omega) (by omega)).mono ?_
  rintro e w3 ⟨rfl, h1, h2, -⟩
  have H3 := Lib.hid (And.intro h1 (H2.out.2.trans h2))
  clear h1 h2 H2
  go_wp2_with fail
  refine (sput_any q rows cols word v base gr _ _ _ _ 4 i4 _ H3.out.1 P4.out (by decide) (by decide) hq hw hR hC (by omega) (by omega)).mono ?_
  rintro e w4 ⟨rfl, h1, h2, -⟩
  have H4 := Lib.hid (And.intro h1 (H3.out.2.trans h2))
  clear h1 h2 H3
  go_wp2_with fail
  refine (sput_any q rows cols word v base gr _ _ _ _ 5 i5 _ H4.out.1 P5.out (by decide) (by decide) hq hw hR hC (by omega) (by omega)).mono ?_
  rintro e w5 ⟨rfl, h1, h2, -⟩
  have H5 := Lib.hid (And.intro h1 (H4.out.2.trans h2))
  clear h1 h2 H4
  go_wp2_with fail
  refine (sput_any q rows cols word v base gr _ _ _ _ 6 i6 _ H5.out.1 P6.out (by decide) (by decide) hq hw hR hC (by omega) (by omega)).mono ?_
  rintro e w6 ⟨rfl, h1, h2, -⟩
  have H6 := Lib.hid (And.intro h1 (H5.out.2.trans h2))
  clear h1 h2 H5
  go_wp2_with fail
  refine (sput_any q rows cols word v base gr _ _ _ _ 7 i7 _ H6.out.1 P7.out (by decide) (by decide) hq hw hR hC (by omega) (by omega)).mono ?_
  rintro e w7 ⟨rfl, h1, h2, -⟩
  have H7 := Lib.hid (And.intro h1 (H6.out.2.trans h2))
  clear h1 h2 H6
  have k2 : w7.cell? ⟨q, 2, none⟩ = some (.int .i64 word) := by rw [H7.out.1.head.cell]; rfl
  have f2 := H7.out.1.head.frozen 2
  have hN := H7.out.1.next (word + 1)
  have hK : Kept q w (w7.setCell ⟨q, 2, none⟩ (.int .i64 ((word + 1 : Nat) : Int))) := H7.out.2.trans ⟨by simp, fun B hB => (Below.refl _ _).setCell (p := ⟨q, 2, none⟩) hB _⟩
  obtain ⟨wn, hwn⟩ : ∃ x, x = word + 1 := ⟨_, rfl⟩
  rw [← hwn] at hN hK
  have e1 : (word : Int) + 1 = (wn : Int) := by omega
  have HWN := Lib.hid hwn
  have HN := Lib.hid (And.intro hN hK)
  clear hN hK hwn H7
  go_wp2
  refine bodyPost_end (results_none rfl _ _ _) rfl ?_
  exact ⟨rfl, by rw [← HE.out, ← HWN.out]; exact HN.out.1, HN.out.2⟩
def fixI (n : Nat) (x : Int) : Int := if x < 0 then x + n else x
def cornL (rows cols : Nat) (L : List Int) : List (Int × Int) := (List.range 8).map fun b => (fixI rows (L.getD (2 * b) 0), fixI cols (L.getD (2 * b + 1) 0))
theorem cornL_at (rows cols : Nat) (L : List Int) (b : Nat) (hb : b < 8) : (cornL rows cols L).drop b = (fixI rows (L.getD (2 * b) 0), fixI cols (L.getD (2 * b + 1) 0)) :: (cornL rows cols L).drop (b + 1) := by
  have hl : (cornL rows cols L).length = 8 := by simp [cornL]
  rw [List.drop_eq_getElem_cons (by omega)]
  simp [cornL]
theorem rdt_int {w : World} {e : TypeId} {b n cap : Nat} {l : List Int} (h : RdT w e (.slice (some ⟨b, 0, none⟩) n cap) (vals .i64 l)) (i : Nat) (hi : i < l.length) : w.cell? ⟨b, i, none⟩ = some (.int .i64 (l.getD i 0)) := by
  obtain ⟨A, cap', hv, _, _, hc⟩ := h
  rw [vals_len] at hv hc
  obtain ⟨b', o', cs, fr, rfl, hh, hcc⟩ := hc (by omega)
  injection hv with h1 _ _
  injection h1 with h1
  injection h1 with h1 h2 _
  subst h1 h2
  have := hcc i _ (show (vals .i64 l)[i]? = some (.int .i64 (l.getD i 0)) by simp [vals, List.getD, hi])
  rw [World.cell?, hh]
  rw [Nat.zero_add] at this
  simpa using this
set_option maxRecDepth 100000 in
set_option maxHeartbeats 2000000 in
theorem scorner_any (L : List Int) (q rows cols word : Nat) (v : Value) (base : Nat) (gr : Nat → Nat) (M M' : Mod) (w : World) (hL : L.length = 16) (hLb : ∀ x ∈ L, -4 ≤ x ∧ x ≤ 4) (h : SpAt w q rows cols word v base gr M) (hp : putsG modSet rows cols word (cornL rows cols L) 0 M = some M') (hq : q ≤ base) (hw : word ≤ 100000)
    (hR : rows ≤ 200) (hC : cols ≤ 200) (hR6 : 6 ≤ rows) (hC6 : 6 ≤ cols) (hbs : q < w.heap.size) :
    Calls Try.prog 37 #[.pointer (some ⟨q, 0, none⟩), .agg (vals .i64 L).toArray] w fun e w' => e = .returned (.tuple #[]) ∧ SpAt w' q rows cols (word + 1) v base gr M' ∧ KeptG q w w' := by
  have HP := Lib.hid hp; have H := Lib.hid h; have HL := Lib.hid hL; have HLB := Lib.hid hLb
  clear hp h hL hLb
  go_enter Try.func37, Try.ntmps37
  go_wp2_with fail
  obtain ⟨bx, hbx⟩ : ∃ b, b = w.heap.size := ⟨_, rfl⟩
  have HBX := Lib.hid hbx
  rw [← hbx]
  have hqb : q < bx := by omega
  clear hbx
  go_loopw [7] (fun iv wr => ∃ (b : Nat) (Mb : Mod), b ≤ 8 ∧ iv = .int .i64 b ∧ Hid (putsG modSet rows cols word ((cornL rows cols L).drop b) b Mb = some M') ∧ Hid (SpAt wr q rows cols word v base gr Mb) ∧ Hid (RdT wr 65 (.slice (some ⟨bx, 0, none⟩) 16 16) (vals .i64 L)) ∧ Hid (KeptG q w wr)) (fun iv _ => 8 - (intOf iv).toNat)
  case atStart =>
    refine ⟨0, M, Nat.zero_le _, rfl, HP, Lib.hid (H.out.up (bal (brf w) _)), Lib.hid ?_, Lib.hid (KeptG.below (bal (brf w) _) (Nat.le_of_lt hbs))⟩
    exact RdT.of_blk (by rw [HBX.out]; exact Blk.fresh w _ _) (by rw [vals_len, HL.out]) (by rw [vals_len, HL.out]; exact Nat.le_refl _) (by decide)
  case round =>
    clear HP H
    obtain ⟨b, Mb, hb8, rfl, HP, H, HX, HK⟩ := hrel
    by_cases hlt : b < 8
    · have hp := HP.out
      rw [cornL_at rows cols L b hlt] at hp
      obtain ⟨i, hpi, hrest⟩ := puts_cons hp
      have HPI := Lib.hid hpi
      have HR := Lib.hid hrest
      have hx1 : L.getD (2 * b) 0 ∈ L := by rw [List.getD, List.getElem?_eq_getElem (by rw [HL.out]; omega)]; exact List.getElem_mem _
      have hx2 : L.getD (2 * b + 1) 0 ∈ L := by rw [List.getD, List.getElem?_eq_getElem (by rw [HL.out]; omega)]; exact List.getElem_mem _
      have hxb := HLB.out _ hx1
      have hyb := HLB.out _ hx2
      have cX : wr.cell? ⟨bx, 2 * b, none⟩ = some (.int .i64 (L.getD (2 * b) 0)) := rdt_int HX.out (2 * b) (by rw [HL.out]; omega)
      have cY : wr.cell? ⟨bx, 2 * b + 1, none⟩ = some (.int .i64 (L.getD (2 * b + 1) 0)) := rdt_int HX.out (2 * b + 1) (by rw [HL.out]; omega)
      clear hp hpi hrest hx1 hx2 HP
      generalize L.getD (2 * b) 0 = x at *
      generalize L.getD (2 * b + 1) 0 = y at *
      obtain ⟨i2, hi2⟩ : ∃ z, z = 2 * b := ⟨_, rfl⟩
      have e1 : 2 * (b : Int) = (i2 : Int) := by omega
      have e2 := w64' (i2 : Int) (by omega) (by omega)
      have e3 : (i2 : Int) + 1 = ((i2 + 1 : Nat) : Int) := by omega
      have e4 := w64' ((i2 + 1 : Nat) : Int) (by omega) (by omega)
      have e5 : (i2 : Int) < 16 := by omega
      have e6 : ((i2 + 1 : Nat) : Int) < 16 := by omega
      rw [← hi2] at cX cY
      obtain ⟨i3, hi3⟩ : ∃ z, z = i2 + 1 := ⟨_, rfl⟩
      rw [← hi3] at cY e3 e4 e6
      clear hi2 hi3
      obtain ⟨x1, x2⟩ := hxb
      obtain ⟨y1, y2⟩ := hyb
      have k0 : wr.cell? ⟨q, 0, none⟩ = some (.int .i64 rows) := by rw [H.out.head.cell]; rfl
      have k1 : wr.cell? ⟨q, 1, none⟩ = some (.int .i64 cols) := by rw [H.out.head.cell]; rfl
      go_wp2_with fail
      refine Can.wp_region_can (fun w' => w'.cell? ⟨bx, i2, none⟩ = some (.int .i64 x) ∧ w'.cell? ⟨bx, i3, none⟩ = some (.int .i64 y)) 999 [0, 1, 2, 3, 4, 5, 6, 7, 8, 9, 10] (by kernel_rfl) (by kernel_rfl) (fun _ _ d _ _ h => by cases d <;> exact h) ⟨cX, cY⟩ (fun hHeld => ?_)
      repeat (refine Can.can_pure (v := ?_) rfl rfl (Or.inl ⟨by rfl, ?_⟩) ?_; rotate_left; (focus ((intro w hSw); (try dsimp only at hSw); go_simp; (try with_reducible rfl))); (try simp only [Act.put, List.getElem_toArray, List.getElem_cons_succ, List.getElem_cons_zero, List.setIfInBounds_toArray, List.set_cons_zero, List.set_cons_succ]))
      refine Can.can_done ?_
      clear hHeld cX cY e1 e2 e3 e4 e5 e6
      by_cases hx0 : x < 0
      · have hfx : fixI rows x = x + rows := if_pos hx0
        rw [hfx] at HPI
        by_cases hy0 : y < 0
        · have hfy : fixI cols y = y + cols := if_pos hy0
          rw [hfy] at HPI
          clear hfx hfy
          go_wp2_with fail
          refine (sput_any q rows cols word v base gr Mb _ _ _ b i _ (H.out.up (bdr (brf _))) HPI.out rfl hlt hq hw hR hC (by omega) (by omega)).mono ?_
          rintro e w3 ⟨rfl, z1, z2, z3⟩
          have hbq : q < wr.heap.size := H.out.head.lt
          have HK2 : Hid (KeptG q w w3) := Lib.hid ((HK.out.trans (KeptG.below (bdr (brf _)) (Nat.le_of_lt hbq))).trans (KeptG.of z2))
          have HX2 : Hid (RdT w3 65 (.slice (some ⟨bx, 0, none⟩) 16 16) (vals .i64 L)) := Lib.hid (z3 _ _ _ (by decide) (HX.out.up (bdr (brf _))))
          have H2 := Lib.hid z1
          clear z1 z2 z3 H HX HK HPI k0 k1
          go_wp2
          go_roundw
          case rel => exact ⟨b + 1, _, by omega, by go_num, HR, H2, HX2, HK2⟩
          case measure => simp [intOf] <;> omega
        · have hfy : fixI cols y = y := if_neg hy0
          rw [hfy] at HPI
          clear hfx hfy
          go_wp2_with fail
          refine (sput_any q rows cols word v base gr Mb _ _ _ b i _ (H.out.up (bdr (brf _))) HPI.out rfl hlt hq hw hR hC (by omega) (by omega)).mono ?_
          rintro e w3 ⟨rfl, z1, z2, z3⟩
          have hbq : q < wr.heap.size := H.out.head.lt
          have HK2 : Hid (KeptG q w w3) := Lib.hid ((HK.out.trans (KeptG.below (bdr (brf _)) (Nat.le_of_lt hbq))).trans (KeptG.of z2))
          have HX2 : Hid (RdT w3 65 (.slice (some ⟨bx, 0, none⟩) 16 16) (vals .i64 L)) := Lib.hid (z3 _ _ _ (by decide) (HX.out.up (bdr (brf _))))
          have H2 := Lib.hid z1
          clear z1 z2 z3 H HX HK HPI k0 k1
          go_wp2
          go_roundw
          case rel => exact ⟨b + 1, _, by omega, by go_num, HR, H2, HX2, HK2⟩
          case measure => simp [intOf] <;> omega
      · have hfx : fixI rows x = x := if_neg hx0
        rw [hfx] at HPI
        by_cases hy0 : y < 0
        · have hfy : fixI cols y = y + cols := if_pos hy0
          rw [hfy] at HPI
          clear hfx hfy
          go_wp2_with fail
          refine (sput_any q rows cols word v base gr Mb _ _ _ b i _ (H.out.up (bdr (brf _))) HPI.out rfl hlt hq hw hR hC (by omega) (by omega)).mono ?_
          rintro e w3 ⟨rfl, z1, z2, z3⟩
          have hbq : q < wr.heap.size := H.out.head.lt
          have HK2 : Hid (KeptG q w w3) := Lib.hid ((HK.out.trans (KeptG.below (bdr (brf _)) (Nat.le_of_lt hbq))).trans (KeptG.of z2))
          have HX2 : Hid (RdT w3 65 (.slice (some ⟨bx, 0, none⟩) 16 16) (vals .i64 L)) := Lib.hid (z3 _ _ _ (by decide) (HX.out.up (bdr (brf _))))
          have H2 := Lib.hid z1
          clear z1 z2 z3 H HX HK HPI k0 k1
          go_wp2
          go_roundw
          case rel => exact ⟨b + 1, _, by omega, by go_num, HR, H2, HX2, HK2⟩
          case measure => simp [intOf] <;> omega
        · have hfy : fixI cols y = y := if_neg hy0
          rw [hfy] at HPI
          clear hfx hfy
          go_wp2_with fail
          refine (sput_any q rows cols word v base gr Mb _ _ _ b i _ (H.out.up (bdr (brf _))) HPI.out rfl hlt hq hw hR hC (by omega) (by omega)).mono ?_
          rintro e w3 ⟨rfl, z1, z2, z3⟩
          have hbq : q < wr.heap.size := H.out.head.lt
          have HK2 : Hid (KeptG q w w3) := Lib.hid ((HK.out.trans (KeptG.below (bdr (brf _)) (Nat.le_of_lt hbq))).trans (KeptG.of z2))
          have HX2 : Hid (RdT w3 65 (.slice (some ⟨bx, 0, none⟩) 16 16) (vals .i64 L)) := Lib.hid (z3 _ _ _ (by decide) (HX.out.up (bdr (brf _))))
          have H2 := Lib.hid z1
          clear z1 z2 z3 H HX HK HPI k0 k1
          go_wp2
          go_roundw
          case rel => exact ⟨b + 1, _, by omega, by go_num, HR, H2, HX2, HK2⟩
          case measure => simp [intOf] <;> omega
    · obtain rfl : b = 8 := by omega
      have HE : Hid (Mb = M') := Lib.hid (by
        have h1 := HP.out
        rw [show (cornL rows cols L).drop 8 = [] by simp [cornL]] at h1
        exact puts_nil h1)
      have k2 : wr.cell? ⟨q, 2, none⟩ = some (.int .i64 word) := by rw [H.out.head.cell]; rfl
      have f2 := H.out.head.frozen 2
      have hN := H.out.next (word + 1)
      have hK : KeptG q w (wr.setCell ⟨q, 2, none⟩ (.int .i64 ((word + 1 : Nat) : Int))) := HK.out.trans ⟨by simp, fun B hB => (Below.refl _ _).setCell (p := ⟨q, 2, none⟩) hB _⟩
      obtain ⟨wn, hwn⟩ : ∃ x, x = word + 1 := ⟨_, rfl⟩
      rw [← hwn] at hN hK
      have e1 : (word : Int) + 1 = (wn : Int) := by omega
      have HWN := Lib.hid hwn
      have HN := Lib.hid (And.intro hN hK)
      clear hN hK hwn H HX HK HP
      go_wp2
      refine bodyPost_end (results_none rfl _ _ _) rfl ?_
      exact ⟨rfl, by rw [← HE.out, ← HWN.out]; exact HN.out.1, HN.out.2⟩
end Go.Proofs.Ytknipefcihkofaa
