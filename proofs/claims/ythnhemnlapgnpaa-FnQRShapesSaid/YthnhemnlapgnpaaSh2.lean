/-
  WALKS: impl.QRShape.
-/
import Derived.Test.YthnhemnlapgnpaaSh1
import Derived.Test.YthnhemnlapgnpaaVv
namespace Go.Proofs.Ythnhemnlapgnpaa
open Go.RowKit

/-- Six results come back. -/
theorem six_back {fn : Func} {t1 t2 t3 t4 t5 t6 : Tmp} (h : fn.results = #[.tmp t1, .tmp t2, .tmp t3, .tmp t4, .tmp t5, .tmp t6]) (tmps : Array Value) (P : Program) (w : World) :
    (results fn tmps).run P w = .ok (.tuple #[tmps.getD t1 undef, tmps.getD t2 undef, tmps.getD t3 undef, tmps.getD t4 undef, tmps.getD t5 undef, tmps.getD t6 undef]) w := by
  simp [results, h]
theorem blk_two {w : World} {g : Nat} {e : TypeId} {c d : Value} (hb : Blk w g e #[c, d]) : ∀ j u, [c, d][j]? = some u → w.cell? ((⟨g, 0, none⟩ : Addr).add j) = some u := by
  intro j u hu
  have e1 : (⟨g, 0, none⟩ : Addr).add j = ⟨g, j, none⟩ := by unfold Addr.add; split <;> simp_all
  rw [e1, hb.cell, List.getElem?_toArray]; exact hu
section
variable {P : Program} {w : World}
theorem wp_app2 {o : Oper} {a : Act} {K : Act → World → Prop} {Q : Exit → Act → World → Prop} (s x : Operand) (t : TypeId)
    (ho : o.op = .call { callee := .builtin .append, args := #[s, x], argTypes := #[t, t] })
    (base : Nat) (e : TypeId) (i : TypeInfo) (z : Value) (bytes : Nat) (ht : P.underlying t = some (.slice e)) (hi : P.info? e = some i) (hz : i.zero = some z)
    (hsize : i.size = 2) (hby : i.bytes = bytes) (hzs : z.cells.size = 2)
    (v : Value) (n : Nat) (xs : List Value) (hs : a.eval s = v) (hown : w.ownsRow base e 2 v n xs) (g : Nat) (c d : Value) (hx : a.eval x = .slice (some ⟨g, 0, none⟩) 1 1) {e' : TypeId} (hb : Blk w g e' #[c, d]) (hc : c.oneCell' = true) (hd : d.oneCell' = true)
    (h63 : n + 1 ≤ maxLen) (hbytes : (n + 1) * bytes ≤ 140737488355328) (hbase : base ≤ w.heap.size)
    (h : ∀ v' w', w'.ownsRow base e 2 v' (n + 1) (xs ++ [c, d]) → w.grownBy w' v.ownBlock → K (a.put o.dst v') w') : o.wp P a w K Q := by
  obtain ⟨v', w', hrun, h2, h4, _, _⟩ := run_append_own_at (P := P) w base t o.type e i z 2 bytes ht hi hz hsize hby hzs (by omega) v n xs hown ⟨g, 0, none⟩ 1 1 [c, d] rfl (blk_two hb) (fun u hu => by
    simp only [List.mem_cons, List.not_mem_nil, or_false] at hu
    rcases hu with rfl | rfl
    · exact hc
    · exact hd) h63 hbytes hbase
  unfold Oper.wp execOp
  simp only [ho, resolve, invoke, builtin, Sem.run_bind, Sem.run_pure, Result.andThen_ok, List.map_toArray, List.map_cons, List.map_nil, hs, hx, hrun]
  exact h v' w' h2 h4
theorem list_app2 {ops : Array Oper} {rest : List Oper} {o : Oper} {a : Act} {Q : Exit → Act → World → Prop} (hgd : o.guard = none) (s x : Operand) (t : TypeId)
    (ho : o.op = .call { callee := .builtin .append, args := #[s, x], argTypes := #[t, t] })
    (base : Nat) (e : TypeId) (i : TypeInfo) (z : Value) (bytes : Nat) (ht : P.underlying t = some (.slice e)) (hi : P.info? e = some i) (hz : i.zero = some z)
    (hsize : i.size = 2) (hby : i.bytes = bytes) (hzs : z.cells.size = 2)
    (v : Value) (n : Nat) (xs : List Value) (hs : a.eval s = v) (hown : w.ownsRow base e 2 v n xs) (g : Nat) (c d : Value) (hx : a.eval x = .slice (some ⟨g, 0, none⟩) 1 1) {e' : TypeId} (hb : Blk w g e' #[c, d]) (hc : c.oneCell' = true) (hd : d.oneCell' = true)
    (h63 : n + 1 ≤ maxLen) (hbytes : (n + 1) * bytes ≤ 140737488355328) (hbase : base ≤ w.heap.size)
    (h : ∀ v' w', w'.ownsRow base e 2 v' (n + 1) (xs ++ [c, d]) → w.grownBy w' v.ownBlock → wpList P ops Q rest (a.put o.dst v') w') : wpList P ops Q (o :: rest) a w :=
  wpList_plain hgd fun _ hK => wp_app2 s x t ho base e i z bytes ht hi hz hsize hby hzs v n xs hs hown g c d hx hb hc hd h63 hbytes hbase fun v' w' h2 h3 => hK _ _ (h v' w' h2 h3)
theorem step_app2 {ops : Array Oper} {o : Oper} {a : Act} {K : Act → World → Prop} {Q : Exit → Act → World → Prop} {E : Prop} (hgd : o.guard = none) (s x : Operand) (t : TypeId)
    (ho : o.op = .call { callee := .builtin .append, args := #[s, x], argTypes := #[t, t] })
    (base : Nat) (e : TypeId) (i : TypeInfo) (z : Value) (bytes : Nat) (ht : P.underlying t = some (.slice e)) (hi : P.info? e = some i) (hz : i.zero = some z)
    (hsize : i.size = 2) (hby : i.bytes = bytes) (hzs : z.cells.size = 2)
    (v : Value) (n : Nat) (xs : List Value) (hs : a.eval s = v) (hown : w.ownsRow base e 2 v n xs) (g : Nat) (c d : Value) (hx : a.eval x = .slice (some ⟨g, 0, none⟩) 1 1) {e' : TypeId} (hb : Blk w g e' #[c, d]) (hc : c.oneCell' = true) (hd : d.oneCell' = true)
    (h63 : n + 1 ≤ maxLen) (hbytes : (n + 1) * bytes ≤ 140737488355328) (hbase : base ≤ w.heap.size)
    (h : ∀ v' w', w'.ownsRow base e 2 v' (n + 1) (xs ++ [c, d]) → w.grownBy w' v.ownBlock → K (a.put o.dst v') w') :
    if Region.wanted o (yielded ops a.tmps) = true then Oper.wp P o a w K Q else E := by
  have hw : Region.wanted o (yielded ops a.tmps) = true := by simp [Region.wanted, hgd]
  rw [if_pos hw]
  exact wp_app2 s x t ho base e i z bytes ht hi hz hsize hby hzs v n xs hs hown g c d hx hb hc hd h63 hbytes hbase h
end
theorem info_two {P : Program} {e : TypeId} {z : Value} {b n : Nat} (h : (P.info? e).map (fun i => (i.zero, i.size, i.bytes)) = some (some z, n, b)) :
    ∃ i, P.info? e = some i ∧ i.zero = some z ∧ i.size = n ∧ i.bytes = b := by
  obtain ⟨i, hi, hh⟩ := Option.map_eq_some_iff.1 h
  simp only [Prod.mk.injEq] at hh
  exact ⟨i, hi, hh.1, hh.2.1, hh.2.2⟩
theorem info_pair : (Try.prog.info? 69).map (fun i => (i.zero, i.size, i.bytes)) = some (some (.agg #[.int .i64 0, .int .i64 0]), 2, 16) := by kernel_rfl
theorem info_int2 : (Try.prog.info? 3).map (fun i => (i.zero, i.size, i.bytes)) = some (some (.int .i64 0), 1, 8) := by kernel_rfl
theorem own_nil2 (w : World) (base : Nat) (e : TypeId) : w.ownsRow base e 2 (.slice none 0 0) 0 [] := ⟨rfl, .inl ⟨rfl, rfl⟩⟩
theorem cellsE_snoc (l : List (Nat × Nat)) (p : Nat × Nat) : cellsE (l ++ [p]) = cellsE l ++ [Value.int .i64 ((p.1 : Nat) : Int), Value.int .i64 ((p.2 : Nat) : Int)] := by simp [cellsE]
def smallB (v l : Nat) : Bool := decide ((grpOf v l).length ≤ 2) && decide ((cenOf v).length ≤ 7)
theorem small_all : ((List.range 41).all fun v => (List.range 4).all fun l => smallB v l) = true := by kernel_rfl
theorem small_at {v l : Nat} (hv : v ≤ 40) (hl : l < 4) : (grpOf v l).length ≤ 2 ∧ (cenOf v).length ≤ 7 := by
  have h := List.all_eq_true.1 (List.all_eq_true.1 small_all v (List.mem_range.2 (by omega))) l (List.mem_range.2 hl)
  unfold smallB at h
  simp only [Bool.and_eq_true, decide_eq_true_eq] at h
  exact h
set_option maxRecDepth 100000 in
set_option maxHeartbeats 2000000 in
theorem qrShape_yes (v l : Nat) (w : World) (h1 : 1 ≤ v) (h2 : v ≤ 40) (hl : l < 4) : Calls Try.prog 31 #[.int .i64 (v : Nat), .int .i64 (l : Nat)] w fun e w' =>
    ∃ s1 s2, e = .returned (.tuple #[.int .i64 (17 + 4 * (v : Int)), .int .i64 (totOf v : Nat), s1, .int .i64 (ecOf v l : Nat), s2, .bool true]) ∧ RdT w' 3 s1 (nvl (cenOf v)) ∧
      (∃ B, w.heap.size ≤ B ∧ w'.ownsRow B 69 2 s2 (grpOf v l).length (cellsE (grpOf v l))) ∧ Below w.heap.size w w' := by
  obtain ⟨hs1, hs2⟩ := small_at h2 hl
  obtain ⟨i0, hi0, hz0, hz1, hz2⟩ := info_two info_pair
  go_enter Try.func31, Try.ntmps31
  go_wp2_with fail
  refine (getVersion_yes v w h1 h2).mono ?_
  rintro e w1 ⟨p, rfl, hv, hb⟩
  have HV := Lib.hid hv
  have HB := Lib.hid hb
  clear hv hb
  go_wp2_with fail
  refine (ecLevel_any p v l _ HV.out hl).mono ?_
  rintro e w1 ⟨b, o, g, rfl, hE, rfl⟩
  have HE := Lib.hid hE
  clear hE
  go_wp2_with fail
  refine (ecBlocks_any b o _ _ HE.out.sl).mono ?_
  rintro e w1 ⟨rfl, rfl⟩
  obtain ⟨L, hL⟩ : ∃ x, x = grpOf v l := ⟨_, rfl⟩
  have HL := Lib.hid hL
  rw [← hL] at hs1 HE ⊢
  clear hL
  go_wp2_with fail
  go_loopw [13, 29] (fun sv kv wr => ∃ (k : Nat), k ≤ L.length ∧ kv = .int .i64 k ∧ Hid (wr.ownsRow w1.heap.size 69 2 sv k (cellsE (L.take k))) ∧ Hid (Below w1.heap.size w1 wr)) (fun _ kv _ => L.length - (intOf kv).toNat)
  case atStart => exact ⟨0, Nat.zero_le _, rfl, Lib.hid (own_nil2 _ _ _), Lib.hid (brf w1)⟩
  case round =>
    obtain ⟨k, hk, rfl, HO, HB1⟩ := hrel
    by_cases hlt : k < L.length
    · obtain ⟨x1, x2⟩ := cellsE_at L k hlt
      have c1 : wr.cell? ⟨g, k * 2, none⟩ = some (.int .i64 ((L[k].1 : Nat) : Int)) := by rw [(HE.out.row.up HB1.out).cell, List.getElem?_toArray]; exact x1
      have c2 : wr.cell? ⟨g, k * 2 + 1, none⟩ = some (.int .i64 ((L[k].2 : Nat) : Int)) := by rw [(HE.out.row.up HB1.out).cell, List.getElem?_toArray]; exact x2
      have hts := cellsE_snoc (L.take k) L[k]
      rw [← List.take_succ_eq_append_getElem hlt] at hts
      clear x1 x2
      generalize L[k] = q at *
      obtain ⟨q1, q2⟩ := q
      simp only at c1 c2 hts
      have HTS := Lib.hid hts; clear hts
      have hsz := HB1.out.size
      go_wp2_with fail
      refine Can.wp_region_can (fun w' => w'.cell? ⟨wr.heap.size, 0, none⟩ = some (.int .i64 q1) ∧ w'.cell? ⟨wr.heap.size, 1, none⟩ = some (.int .i64 q2)) 999 [0, 1, 3, 2, 4, 5, 6, 7, 8] (by kernel_rfl) (by kernel_rfl) (fun _ _ d _ _ h => by cases d <;> exact h) ⟨by simp, by simp⟩ (fun hHeld => ?_)
      repeat (refine Can.can_pure (v := ?_) rfl rfl (Or.inl ⟨by rfl, ?_⟩) ?_; rotate_left; (focus ((intro w hSw); (try dsimp only at hSw); go_simp; (try with_reducible rfl))); (try simp only [Act.put, List.getElem_toArray, List.getElem_cons_succ, List.getElem_cons_zero, List.setIfInBounds_toArray, List.set_cons_zero, List.set_cons_succ]))
      refine Can.can_eff rfl rfl (by rfl) (fun K hK => ?_)
      go_simp
      refine (ecCount_any _ _ _).mono ?_
      rintro e w2 ⟨rfl, hb2⟩
      refine hK.out _ _ ⟨cell_up hHeld.1 hb2, cell_up hHeld.2 hb2⟩ (fun hHeld1 => ?_)
      clear hK K
      (try simp only [Act.put, List.getElem_toArray, List.getElem_cons_succ, List.getElem_cons_zero, List.setIfInBounds_toArray, List.set_cons_zero, List.set_cons_succ])
      repeat (refine Can.can_pure (v := ?_) rfl rfl (Or.inl ⟨by rfl, ?_⟩) ?_; rotate_left; (focus ((intro w hSw); (try dsimp only at hSw); go_simp; (try with_reducible rfl))); (try simp only [Act.put, List.getElem_toArray, List.getElem_cons_succ, List.getElem_cons_zero, List.setIfInBounds_toArray, List.set_cons_zero, List.set_cons_succ]))
      clear hHeld
      refine Can.can_eff rfl rfl (by rfl) (fun K hK => ?_)
      go_simp
      refine (ecData_any _ _ _).mono ?_
      rintro e w3 ⟨rfl, hb3⟩
      refine hK.out _ _ ⟨cell_up hHeld1.1 hb3, cell_up hHeld1.2 hb3⟩ (fun hHeld2 => ?_)
      clear hK K
      (try simp only [Act.put, List.getElem_toArray, List.getElem_cons_succ, List.getElem_cons_zero, List.setIfInBounds_toArray, List.set_cons_zero, List.set_cons_succ])
      repeat (refine Can.can_pure (v := ?_) rfl rfl (Or.inl ⟨by rfl, ?_⟩) ?_; rotate_left; (focus ((intro w hSw); (try dsimp only at hSw); go_simp; (try with_reducible rfl))); (try simp only [Act.put, List.getElem_toArray, List.getElem_cons_succ, List.getElem_cons_zero, List.setIfInBounds_toArray, List.set_cons_zero, List.set_cons_succ]))
      clear hHeld1
      have hb4 := bup (bup (bdr (bal (brf wr) (.cells #[.int .i64 q1, .int .i64 q2] 132))) hb2) hb3
      refine Can.can_eff rfl rfl (by rfl) (fun K hK => ?_)
      go_simp
      refine hK.out _ _ hHeld2 (fun hHeld3 => ?_)
      clear hK K
      (try simp only [Act.put, List.getElem_toArray, List.getElem_cons_succ, List.getElem_cons_zero, List.setIfInBounds_toArray, List.set_cons_zero, List.set_cons_succ])
      refine Can.can_eff rfl rfl (by rfl) (fun K hK => ?_)
      go_simp
      refine hK.out _ _ ⟨cell_up hHeld2.1 (bal (brf _) _), cell_up hHeld2.2 (bal (brf _) _)⟩ (fun hHeld4 => ?_)
      clear hK K
      (try simp only [Act.put, List.getElem_toArray, List.getElem_cons_succ, List.getElem_cons_zero, List.setIfInBounds_toArray, List.set_cons_zero, List.set_cons_succ])
      refine Can.can_eff rfl rfl (by rfl) (fun K hK => ?_)
      refine step_app2 rfl _ _ 58 rfl w1.heap.size 69 i0 _ 16 Try.underlying58 hi0 hz0 hz1 hz2 rfl _ k _ rfl (own_up HO.out (bal hb4 _)) w3.heap.size (.int .i64 q1) (.int .i64 q2) rfl (Blk.fresh _ _ _) rfl rfl (by unfold maxLen; omega) (by omega) (Nat.le_trans hsz (bal hb4 _).size) ?_
      intro v5 w5 ho5 hg5
      have hbk : Blk w5 wr.heap.size 132 #[.int .i64 q1, .int .i64 q2] := ((((Blk.fresh wr _ _).drew.up hb2).up hb3).alloc _).grown hg5 (fun e => absurd (HO.out.lt _ e.symm).2 (Nat.lt_irrefl _))
      refine hK.out _ _ ⟨by rw [hbk.cell]; rfl, by rw [hbk.cell]; rfl⟩ (fun hHeld5 => ?_)
      clear hK K
      (try simp only [Act.put, List.getElem_toArray, List.getElem_cons_succ, List.getElem_cons_zero, List.setIfInBounds_toArray, List.set_cons_zero, List.set_cons_succ])
      repeat (refine Can.can_pure (v := ?_) rfl rfl (Or.inl ⟨by rfl, ?_⟩) ?_; rotate_left; (focus ((intro w hSw); (try dsimp only at hSw); go_simp; (try with_reducible rfl))); (try simp only [Act.put, List.getElem_toArray, List.getElem_cons_succ, List.getElem_cons_zero, List.setIfInBounds_toArray, List.set_cons_zero, List.set_cons_succ]))
      refine Can.can_done ?_
      have HB5 : Hid (Below w1.heap.size w1 w5) := Lib.hid (below_grown (bup HB1.out (bal hb4 _)) hg5 (own_up HO.out (bal hb4 _)) (Nat.le_trans hsz (bal hb4 _).size))
      have HO5 : Hid (w5.ownsRow w1.heap.size 69 2 v5 (k + 1) (cellsE (L.take (k + 1)))) := Lib.hid (by rw [HTS.out]; exact ho5)
      clear ho5 hg5 hbk hHeld2 hHeld3 hHeld4 hHeld5 hb2 hb3 hb4 HO HB1 HTS c1 c2 hsz
      go_wp2
      go_roundw
      case rel => exact ⟨k + 1, by omega, by go_num, HO5, HB5⟩
      case measure => simp [intOf]; omega
    · obtain rfl : k = L.length := by omega
      have HV2 := Lib.hid (HV.out.up HB1.out)
      have HE2 := Lib.hid (HE.out.up HB1.out)
      have HB2 := Lib.hid (bup HB.out HB1.out)
      have hsz : w.heap.size ≤ w1.heap.size := HB.out.size
      have HO2 : Hid (wr.ownsRow w1.heap.size 69 2 u13 L.length (cellsE L)) := Lib.hid (by have := HO.out; rw [List.take_length] at this; exact this)
      clear HV HE HB HB1 HO
      go_wp2_with fail
      refine (verDim_any p v _ HV2.out h2).mono ?_
      rintro e w2 ⟨rfl, rfl⟩
      go_wp2_with fail
      refine (verTot_any p v _ HV2.out).mono ?_
      rintro e w2 ⟨rfl, rfl⟩
      go_wp2_with fail
      refine (verMid_any p v _ HV2.out).mono ?_
      rintro e w2 ⟨vc, rfl, hvc, rfl⟩
      have HVC := Lib.hid hvc
      clear hvc
      obtain ⟨i1, hi1, hy0, hy1, hy2⟩ := info_two info_int2
      go_wp2_with (at_builtin; refine list_app_rd _ rfl _ _ 57 rfl w2.heap.size 3 i1 _ 8 Try.underlying57 hi1 hy0 hy1 hy2 rfl _ 0 [] rfl (own_nil _ _ _) _ _ (nvl (cenOf v)) rfl HVC.out.rd (nvl_one _) (by rw [nvl_len]; unfold maxLen; omega) (by rw [nvl_len]; omega) (Nat.le_refl _) ?_; intro v6 w6 ho6 hg6)
      have hb6 : Below w2.heap.size w2 w6 := below_grown (u := .slice none 0 0) (brf w2) hg6 (own_nil _ _ 3) (Nat.le_refl _)
      have HR6 : Hid (RdT w6 3 v6 (nvl (cenOf v))) := Lib.hid (RdT.of_own ho6)
      have HO6 := Lib.hid (own_up HO2.out hb6)
      have HB6 := Lib.hid (bup HB2.out hb6)
      have HE6 := Lib.hid (HE2.out.up hb6)
      clear hb6 hg6 ho6 HV2 HE2 HO2 HB2 HVC
      refine (ecWords_any b o _ _ HE6.out.ec).mono ?_
      rintro e w3 ⟨rfl, rfl⟩
      go_wp2
      (try simp only [Exit.inBlock, Exit.then]); refine bodyPost_ret (six_back rfl _ _ _) rfl ?_
      exact ⟨v6, u13, rfl, HR6.out, ⟨w1.heap.size, hsz, by rw [← HL.out]; exact HO6.out⟩, HB6.out⟩
theorem qrShape_no (v l : Int) (w : World) (h : v < 1 ∨ 40 < v) : Calls Try.prog 31 #[.int .i64 v, .int .i64 l] w fun e w' =>
    e = .returned (.tuple #[.int .i64 0, .int .i64 0, .slice none 0 0, .int .i64 0, .slice none 0 0, .bool false]) ∧ Below w.heap.size w w' := by
  go_enter Try.func31, Try.ntmps31
  go_wp2_with fail
  refine (getVersion_no v w h).mono ?_
  rintro e w1 ⟨b, rfl, hb⟩
  have HB := Lib.hid hb; clear hb
  go_wp2
  (try simp only [Exit.inBlock, Exit.then]); refine bodyPost_ret (six_back rfl _ _ _) rfl ?_
  exact ⟨rfl, HB.out⟩
end Go.Proofs.Ythnhemnlapgnpaa
