/-
  WALKS: impl.QRShape.
-/
import Derived.Test.YtcldipbboidjbaaSh1
import Derived.Test.YtcldipbboidjbaaVv
namespace Go.Proofs.Ytcldipbboidjbaa
open Go.RowKit

/-- Six results come back. -/
theorem six_back {fn : Func} {t1 t2 t3 t4 t5 t6 : Tmp} (h : fn.results = #[.tmp t1, .tmp t2, .tmp t3, .tmp t4, .tmp t5, .tmp t6]) (tmps : Array Value) (P : Program) (w : World) :
    (results fn tmps).run P w = .ok (.tuple #[tmps.getD t1 undef, tmps.getD t2 undef, tmps.getD t3 undef, tmps.getD t4 undef, tmps.getD t5 undef, tmps.getD t6 undef]) w := by
  simp [results, h]
theorem blk_two {w : World} {g : Nat} {e : TypeId} {c d : Value} (hb : Blk w g e #[c, d]) : ∀ j u, [c, d][j]? = some u → w.cell? ((⟨g, 0, none⟩ : Addr).add j) = some u := by
  intro j u hu
  have e1 : (⟨g, 0, none⟩ : Addr).add j = ⟨g, j, none⟩ := by unfold Addr.add; split <;> simp_all
  rw [e1, hb.cell, List.getElem?_toArray]; exact hu
section
variable {P : Program} {w : World}
theorem wp_app2 {o : Oper} {a : Act} {K : Act → World → Prop} {Q : Exit → Act → World → Prop} (s x : Operand) (t : TypeId)
    (ho : o.op = .call { callee := .builtin .append, args := #[s, x], argTypes := #[t, t] })
    (base : Nat) (e : TypeId) (i : TypeInfo) (z : Value) (bytes : Nat) (ht : P.underlying t = some (.slice e)) (hi : P.info? e = some i) (hz : i.zero = some z)
    (hsize : i.size = 2) (hby : i.bytes = bytes) (hzs : z.cells.size = 2)
    (v : Value) (n : Nat) (xs : List Value) (hs : a.eval s = v) (hown : w.ownsRow base e 2 v n xs) (g : Nat) (c d : Value) (hx : a.eval x = .slice (some ⟨g, 0, none⟩) 1 1) {e' : TypeId} (hb : Blk w g e' #[c, d]) (hc : c.oneCell' = true) (hd : d.oneCell' = true)
    (h63 : n + 1 ≤ maxLen) (hbytes : (n + 1) * bytes ≤ 140737488355328) (hbase : base ≤ w.heap.size)
    (h : ∀ v' w', w'.ownsRow base e 2 v' (n + 1) (xs ++ [c, d]) → w.grownBy w' v.ownBlock → K (a.put o.dst v') w') : o.wp P a w K Q := by
  obtain ⟨v', w', hrun, h2, h4, _, _⟩ := run_append_own_at (P := P) w base t o.type e i z 2 bytes ht hi hz hsize hby hzs (by omega) v n xs hown ⟨g, 0, none⟩ 1 1 [c, d] rfl (blk_two hb) (fun u hu => by
    simp only [List.mem_cons, List.not_mem_nil, or_false] at hu
    rcases hu with rfl | rfl
    · exact hc
    · exact hd) h63 hbytes hbase
  unfold Oper.wp execOp
  simp only [ho, resolve, invoke, builtin, Sem.run_bind, Sem.run_pure, Result.andThen_ok, List.map_toArray, List.map_cons, List.map_nil, hs, hx, hrun]
  exact h v' w' h2 h4
theorem list_app2 {ops : Array Oper} {rest : List Oper} {o : Oper} {a : Act} {Q : Exit → Act → World → Prop} (hgd : o.guard = none) (s x : Operand) (t : TypeId)
    (ho : o.op = .call { callee := .builtin .append, args := #[s, x], argTypes := #[t, t] })
    (base : Nat) (e : TypeId) (i : TypeInfo) (z : Value) (bytes : Nat) (ht : P.underlying t = some (.slice e)) (hi : P.info? e = some i) (hz : i.zero = some z)
    (hsize : i.size = 2) (hby : i.bytes = bytes) (hzs : z.cells.size = 2)
    (v : Value) (n : Nat) (xs : List Value) (hs : a.eval s = v) (hown : w.ownsRow base e 2 v n xs) (g : Nat) (c d : Value) (hx : a.eval x = .slice (some ⟨g, 0, none⟩) 1 1) {e' : TypeId} (hb : Blk w g e' #[c, d]) (hc : c.oneCell' = true) (hd : d.oneCell' = true)
    (h63 : n + 1 ≤ maxLen) (hbytes : (n + 1) * bytes ≤ 140737488355328) (hbase : base ≤ w.heap.size)
    (h : ∀ v' w', w'.ownsRow base e 2 v' (n + 1) (xs ++ [c, d]) → w.grownBy w' v.ownBlock → wpList P ops Q rest (a.put o.dst v') w') : wpList P ops Q (o :: rest) a w :=
  wpList_plain hgd fun _ hK => wp_app2 s x t ho base e i z bytes ht hi hz hsize hby hzs v n xs hs hown g c d hx hb hc hd h63 hbytes hbase fun v' w' h2 h3 => hK _ _ (h v' w' h2 h3)
theorem step_app2 {ops : Array Oper} {o : Oper} {a : Act} {K : Act → World → Prop} {Q : Exit → Act → World → Prop} {E : Prop} (hgd : o.guard = none) (s x : Operand) (t : TypeId)
    (ho : o.op = .call { callee := .builtin .append, args := #[s, x], argTypes := #[t, t] })
    (base : Nat) (e : TypeId) (i : TypeInfo) (z : Value) (bytes : Nat) (ht : P.underlying t = some (.slice e)) (hi : P.info? e = some i) (hz : i.zero = some z)
    (hsize : i.size = 2) (hby : i.bytes = bytes) (hzs : z.cells.size = 2)
    (v : Value) (n : Nat) (xs : List Value) (hs : a.eval s = v) (hown : w.ownsRow base e 2 v n xs) (g : Nat) (c d : Value) (hx : a.eval x = .slice (some ⟨g, 0, none⟩) 1 1) {e' : TypeId} (hb : Blk w g e' #[c, d]) (hc : c.oneCell' = true) (hd : d.oneCell' = true)
    (h63 : n + 1 ≤ maxLen) (hbytes : (n + 1) * bytes ≤ 140737488355328) (hbase : base ≤ w.heap.size)
    (h : ∀ v' w', w'.ownsRow base e 2 v' (n + 1) (xs ++ [c, d]) → w.grownBy w' v.ownBlock → K (a.put o.dst v') w') :
    if Region.wanted o (yielded ops a.tmps) = true then Oper.wp P o a w K Q else E := by
  have hw : Region.wanted o (yielded ops a.tmps) = true := by simp [Region.wanted, hgd]
  rw [if_pos hw]
  exact wp_app2 s x t ho base e i z bytes ht hi hz hsize hby hzs v n xs hs hown g c d hx hb hc hd h63 hbytes hbase h
end
theorem info_two {P : Program} {e : TypeId} {z : Value} {b n : Nat} (h : (P.info? e).map (fun i => (i.zero, i.size, i.bytes)) = some (some z, n, b)) :
    ∃ i, P.info? e = some i ∧ i.zero = some z ∧ i.size = n ∧ i.bytes = b := by
  obtain ⟨i, hi, hh⟩ := Option.map_eq_some_iff.1 h
  simp only [Prod.mk.injEq] at hh
  exact ⟨i, hi, hh.1, hh.2.1, hh.2.2⟩
theorem info_pair : (Try.prog.info? 56).map (fun i => (i.zero, i.size, i.bytes)) = some (some (.agg #[.int .i64 0, .int .i64 0]), 2, 16) := by kernel_rfl
theorem info_int2 : (Try.prog.info? 3).map (fun i => (i.zero, i.size, i.bytes)) = some (some (.int .i64 0), 1, 8) := by kernel_rfl
theorem own_nil2 (w : World) (base : Nat) (e : TypeId) : w.ownsRow base e 2 (.slice none 0 0) 0 [] := ⟨rfl, .inl ⟨rfl, rfl⟩⟩
theorem cellsE_snoc (l : List (Nat × Nat)) (p : Nat × Nat) : cellsE (l ++ [p]) = cellsE l ++ [Value.int .i64 ((p.1 : Nat) : Int), Value.int .i64 ((p.2 : Nat) : Int)] := by simp [cellsE]
def smallB (v l : Nat) : Bool := decide ((grpOf v l).length ≤ 2) && decide ((cenOf v).length ≤ 7)
theorem small_all : ((List.range 41).all fun v => (List.range 4).all fun l => smallB v l) = true := by kernel_rfl
theorem small_at {v l : Nat} (hv : v ≤ 40) (hl : l < 4) : (grpOf v l).length ≤ 2 ∧ (cenOf v).length ≤ 7 := by
  have h := List.all_eq_true.1 (List.all_eq_true.1 small_all v (List.mem_range.2 (by omega))) l (List.mem_range.2 hl)
  unfold smallB at h
  simp only [Bool.and_eq_true, decide_eq_true_eq] at h
  exact h
end Go.Proofs.Ytcldipbboidjbaa
