/-
  WALKS: decoder.CorrectBits, impl.AZCorrected of a code's words; laws.azLayers.
-/
import Derived.Test.YtpjaehljgpopmaaZs7
import Derived.Test.YtpjaehljgpopmaaZs8
import Derived.Test.YtpjaehljgpopmaaZs9
import Derived.Test.YtpjaehljgpopmaaSb
namespace Go.Proofs.Ytpjaehljgpopmaa
open Go.RowKit

theorem cor_any (p d : Nat) (v : Value) (pre : List Bool) (E : List Nat) (Dn L : Nat) (w : World) (hk : CorOk (widN L) (fdL L) E Dn) (hpre : pre.length < widN L) (hp : Blk w p 59 #[.pointer (some ⟨d, 0, none⟩)]) (hd : DetAt w d Dn L) (hv : RdT w 4 v (bv (pre ++ wbits (widN L) E))) :
    Calls Try.prog 20 #[.pointer (some ⟨p, 0, none⟩), v] w fun e w' => ∃ r u x, e = .returned (.tuple #[.pointer (some ⟨r, 0, none⟩), .nilIface]) ∧ Blk w' r 62 #[u, x] ∧ RdT w' 4 u (bv (unL (widN L) (E.take Dn))) ∧ Below w.heap.size w w' := by
  rcases clsL L with ⟨h1, h2, h3⟩ | ⟨h1, h2, h3, h4⟩ | ⟨h1, h2, h3, h4⟩ | ⟨h1, h2, h3⟩
  · rw [h1, h2] at hk; rw [h1] at hpre hv ⊢
    exact cor6 p d v pre E Dn L w h3 hk hpre hp hd hv
  · rw [h1, h2] at hk; rw [h1] at hpre hv ⊢
    exact cor8 p d v pre E Dn L w h3 h4 hk hpre hp hd hv
  · rw [h1, h2] at hk; rw [h1] at hpre hv ⊢
    exact cor10 p d v pre E Dn L w h3 h4 hk hpre hp hd hv
  · rw [h1, h2] at hk; rw [h1] at hpre hv ⊢
    exact cor12 p d v pre E Dn L w h3 hk hpre hp hd hv
theorem doorCor_any (v : Value) (c : Bool) (pre : List Bool) (E : List Nat) (Dn L : Nat) (w : World) (hk : CorOk (widN L) (fdL L) E Dn) (hpre : pre.length < widN L) (hv : RdT w 4 v (bv (pre ++ wbits (widN L) E))) :
    Calls Try.prog 14 #[v, .bool c, .int .i64 Dn, .int .i64 L] w fun e w' => ∃ u, e = .returned (.tuple #[u, .nilIface]) ∧ RdT w' 4 u (bv (unL (widN L) (E.take Dn))) ∧ Below w.heap.size w w' := by
  have HC := Lib.hid (fun p d w' (hb : Below w.heap.size w w') h1 h2 => cor_any p d v pre E Dn L w' hk hpre h1 h2 (hv.up hb))
  clear hk hpre hv
  go_enter Try.func14, Try.ntmps14
  go_wp2_with fail
  refine (detNew_any c Dn L w).mono ?_
  rintro e w1 ⟨d, rfl, hd, hb1⟩
  have hcr := HC.out w1.heap.size d (w1.alloc (.cells #[.pointer (some ⟨d, 0, none⟩)] 59)) (bal hb1 _) (Blk.fresh w1 _ _) (hd.up (bal (brf w1) _))
  have HB := Lib.hid (bal hb1 (.cells #[.pointer (some ⟨d, 0, none⟩)] 59))
  clear hd hb1
  go_wp2_with fail
  refine hcr.mono ?_
  rintro e w2 ⟨r, u, x, rfl, hr, hu, hb2⟩
  have c0 : w2.cell? ⟨r, 0, none⟩ = some u := by rw [hr.cell]; rfl
  have HU := Lib.hid hu
  have HB2 := Lib.hid (bup HB.out (hb2.mono (by simp)) )
  clear hcr hr hu hb2
  go_wp2_with fail
  go_ret2
  exact ⟨u, rfl, HU.out, HB2.out⟩
set_option maxRecDepth 100000 in
theorem azCorrected_any (v : Value) (c : Bool) (pre : List Bool) (E : List Nat) (Dn L n : Nat) (w : World) (hk : CorOk (widN L) (fdL L) E Dn) (hpre : pre.length < widN L) (hv : RdT w 4 v (bv (pre ++ wbits (widN L) E))) (hn : (pre ++ wbits (widN L) E).length = n) (hmax : n ≤ 1000000) :
    Calls Try.prog 7 #[v, .bool c, .int .i64 Dn, .int .i64 L] w fun e w' => ∃ u, e = .returned (.tuple #[u, .bool true]) ∧ RdT w' 4 u (bv (unL (widN L) (E.take Dn))) ∧ Below w.heap.size w w' := by
  obtain ⟨i0, hi0, hz0, hz1, hz2⟩ := info_parts info_bool
  obtain ⟨A, cap, hvf, -, -⟩ := hv.rd.form
  have HV := Lib.hid hv.rd
  subst hvf
  have HN := Lib.hid hn
  have HC := Lib.hid (fun v w' h => doorCor_any v c pre E Dn L w' hk hpre h)
  clear hv hn hk hpre
  go_enter Try.func7, Try.ntmps7
  go_wp2_with (with_reducible refine stop_at (o := ⟨some 14, _, _, _, _, _⟩) ?_)
  refine Lib.hid ?_
  refine list_app_rd _ rfl _ _ 30 rfl w.heap.size 4 i0 _ 1 Try.underlying30 hi0 hz0 hz1 hz2 rfl _ 0 [] rfl (own_nil _ _ _) _ _ (bv (pre ++ wbits (widN L) E)) rfl HV.out (fun u hu => by simp only [bv, List.mem_map] at hu; obtain ⟨x, _, rfl⟩ := hu; rfl) (by rw [bv_len, HN.out]; unfold maxLen; omega) (by rw [bv_len, HN.out]; omega) (Nat.le_refl _) ?_
  intro v1 w2 ho1 hg1
  rw [List.nil_append] at ho1
  have hdc := HC.out v1 w2 (RdT.of_own ho1)
  have HB2 : Hid (Below w.heap.size w w2) := Lib.hid (below_grown (brf w) hg1 (own_nil w w.heap.size 4) (Nat.le_refl _))
  clear ho1 hg1 HC
  go_wp2_with fail
  refine hdc.mono ?_
  rintro e w3 ⟨u, rfl, hu, hb3⟩
  have HU := Lib.hid hu
  have HB3 := Lib.hid (bup HB2.out hb3)
  clear hdc hu hb3
  go_wp2_with fail
  refine Can.wp_region_can (fun w' => True) 999 [0, 1, 2, 3, 4] (by kernel_rfl) (by kernel_rfl) (fun _ _ d _ _ h => by cases d <;> exact h) trivial (fun hHeld => ?_)
  repeat (refine Can.can_pure (v := ?_) rfl rfl (Or.inl ⟨by rfl, ?_⟩) ?_; rotate_left; (focus ((intro w hSw); (try dsimp only at hSw); go_simp; (try with_reducible rfl))); (try simp only [Act.put, List.getElem_toArray, List.getElem_cons_succ, List.getElem_cons_zero, List.setIfInBounds_toArray, List.set_cons_zero, List.set_cons_succ]))
  refine Can.can_done ?_
  have HB4 := Lib.hid (bdr HB3.out)
  have HU4 := Lib.hid (HU.out.up (bdr (brf w3)))
  clear hHeld
  go_wp2_with fail
  go_ret2
  exact ⟨u, rfl, HU4.out, HB4.out⟩
end Go.Proofs.Ytpjaehljgpopmaa
