/-
  GROUND: lists of segments. WALK: spec.QRRead.
-/
import Derived.Test.YtjkfkkenaiodoaaPq3
import Derived.Test.YtjkfkkenaiodoaaQc
namespace Go.Proofs.Ytjkfkkenaiodoaa
open Go.RowKit

theorem info_sg : (Try.prog.info? 46).map (fun i => (i.zero, i.size, i.bytes)) = some (some (.agg #[.int .i64 0, .slice none 0 0]), 2, 32) := by kernel_rfl
theorem sg_parts : ∃ i, Try.prog.info? 46 = some i ∧ i.zero = some (.agg #[.int .i64 0, .slice none 0 0]) ∧ i.size = 2 ∧ i.bytes = 32 := by
  obtain ⟨i, hi, hh⟩ := Option.map_eq_some_iff.1 info_sg
  simp only [Prod.mk.injEq] at hh
  exact ⟨i, hi, hh.1, hh.2.1, hh.2.2⟩
theorem list_app_2c {P : Program} {w : World} {ops : Array Oper} {rest : List Oper} {o : Oper} {a : Act} {Q : Exit → Act → World → Prop} (hgd : o.guard = none) (s x : Operand) (t : TypeId)
    (ho : o.op = .call { callee := .builtin .append, args := #[s, x], argTypes := #[t, t] })
    (base : Nat) (e : TypeId) (i : TypeInfo) (z : Value) (bytes : Nat) (ht : P.underlying t = some (.slice e)) (hi : P.info? e = some i) (hz : i.zero = some z)
    (hsize : i.size = 2) (hby : i.bytes = bytes) (hzs : z.cells.size = 2)
    (v : Value) (n : Nat) (xs : List Value) (hs : a.eval s = v) (hown : w.ownsRow base e 2 v n xs) (ad : Addr) (c : Nat) (news : List Value) (hx : a.eval x = .slice (some ad) 1 c) (hl : news.length = 2)
    (hnews : ∀ j u, news[j]? = some u → w.cell? (ad.add j) = some u) (h1 : ∀ u ∈ news, u.oneCell' = true)
    (h63 : n + 1 ≤ maxLen) (hbytes : (n + 1) * bytes ≤ 140737488355328) (hbase : base ≤ w.heap.size)
    (h : ∀ v' w', w'.ownsRow base e 2 v' (n + 1) (xs ++ news) → w.grownBy w' v.ownBlock → wpList P ops Q rest (a.put o.dst v') w') : wpList P ops Q (o :: rest) a w :=
  wpList_plain hgd fun _ hK => by
    obtain ⟨v', w', hrun, h2, h3, _, _⟩ := run_append_own_at (P := P) w base t o.type e i z 2 bytes ht hi hz hsize hby hzs (by omega) v n xs hown ad 1 c news hl hnews h1 h63 hbytes hbase
    unfold Oper.wp execOp
    simp only [ho, resolve, invoke, builtin, Sem.run_bind, Sem.run_pure, Result.andThen_ok, List.map_toArray, List.map_cons, List.map_nil, hs, hx, hrun]
    exact hK _ _ (h v' w' h2 h3)
/-- A segment: its mode, its signs. -/
abbrev Seg := Nat × List UInt8
def sgC (s : Seg) (u : Value) : List Value := [.int .i64 (s.1 : Int), u]
/-- Cells that lie as segments. -/
def SgL (w : World) (cells : List Value) (sg : List Seg) : Prop :=
  ∃ us : List Value, us.length = sg.length ∧ cells = ((sg.zip us).map fun p => sgC p.1 p.2).flatten ∧ ∀ (i : Nat) (s : Seg) (u : Value), sg[i]? = some s → us[i]? = some u → RdT w 5 u (bl s.2)
theorem SgL.nil_ (w : World) : SgL w [] [] := ⟨[], rfl, rfl, fun i s u h => by simp at h⟩
theorem SgL.up {w w' : World} {cells : List Value} {sg : List Seg} (h : SgL w cells sg) (hb : Below w.heap.size w w') : SgL w' cells sg := by
  obtain ⟨us, h1, h2, h3⟩ := h
  exact ⟨us, h1, h2, fun i s u hs hu => (h3 i s u hs hu).up hb⟩
theorem own_typeS {w : World} {base : Nat} {e e' : TypeId} {size n : Nat} {v : Value} {xs : List Value} (h : w.ownsRow base e' size v n xs) (he : e ≠ e') : ∀ g, v.ownBlock = some g → ∃ cs t fr, w.heap[g]? = some (.cells cs t fr) ∧ t ≠ e := by
  obtain ⟨h1, ⟨rfl, _⟩ | ⟨g, cap, cur, rfl, hb, hg, r⟩⟩ := h
  · intro g hg; simp [Value.ownBlock] at hg
  · intro g' hg'
    simp only [Value.ownBlock, Option.some.injEq] at hg'
    subst hg'
    exact ⟨_, _, _, hg, fun h => he h.symm⟩
theorem SgL.grown {w w' : World} {cells xs : List Value} {sg : List Seg} {base size n : Nat} {e : TypeId} {v : Value} (h : SgL w cells sg) (ho : w.ownsRow base e size v n xs) (he : 5 ≠ e) (hg : w.grownBy w' v.ownBlock) : SgL w' cells sg := by
  obtain ⟨us, h1, h2, h3⟩ := h
  exact ⟨us, h1, h2, fun i s u hs hu => (h3 i s u hs hu).grown hg (own_typeS ho he)⟩
theorem SgL.app {w : World} {cells : List Value} {sg : List Seg} {s : Seg} {u : Value} (h : SgL w cells sg) (hu : RdT w 5 u (bl s.2)) : SgL w (cells ++ sgC s u) (sg ++ [s]) := by
  obtain ⟨us, h1, h2, h3⟩ := h
  refine ⟨us ++ [u], by simp [h1], ?_, fun i s' u' hs' hu' => ?_⟩
  · rw [h2, List.zip_append h1.symm]; simp
  · by_cases hlt : i < sg.length
    · rw [List.getElem?_append_left hlt] at hs'
      rw [List.getElem?_append_left (by omega)] at hu'
      exact h3 i s' u' hs' hu'
    · have hi2 : i < (sg ++ [s]).length := (List.getElem?_eq_some_iff.1 hs').1
      have hie : i = sg.length := by simp at hi2; omega
      subst hie
      rw [List.getElem?_append_right (Nat.le_refl _), Nat.sub_self] at hs'
      rw [← h1, List.getElem?_append_right (Nat.le_refl _), Nat.sub_self] at hu'
      simp at hs' hu'
      subst hs' hu'
      exact hu
theorem flat2 (l : List (List Value)) (h : ∀ x ∈ l, x.length = 2) (i j : Nat) (hj : j < 2) (x : List Value) (hx : l[i]? = some x) : l.flatten[i * 2 + j]? = x[j]? := by
  induction l generalizing i with
  | nil => simp at hx
  | cons y r ih =>
    have hy := h y (List.mem_cons_self ..)
    cases i with
    | zero =>
      simp at hx; subst hx
      rw [List.flatten_cons, List.getElem?_append_left (by omega), Nat.zero_mul, Nat.zero_add]
    | succ i =>
      rw [List.getElem?_cons_succ] at hx
      rw [List.flatten_cons, List.getElem?_append_right (by omega), hy, show (i + 1) * 2 + j - 2 = i * 2 + j by omega]
      exact ih (fun x hx => h x (List.mem_cons_of_mem _ hx)) i hx
/-- What a list of segments reads as. -/
def RdG (w : World) (v : Value) (sg : List Seg) : Prop :=
  ∃ A cap, v = .slice A sg.length cap ∧ sg.length ≤ cap ∧ cap ≤ maxLen ∧
    (0 < sg.length → ∃ b o, A = some ⟨b, o, none⟩ ∧ b < w.heap.size ∧ ∀ i s, sg[i]? = some s → ∃ u, w.cell? ⟨b, o + i * 2, none⟩ = some (.int .i64 (s.1 : Int)) ∧ w.cell? ⟨b, o + i * 2 + 1, none⟩ = some u ∧ RdT w 5 u (bl s.2))
theorem RdG.up {w w' : World} {v : Value} {sg : List Seg} (h : RdG w v sg) (hb : Below w.heap.size w w') : RdG w' v sg := by
  obtain ⟨A, cap, hv, h1, h2, h3⟩ := h
  refine ⟨A, cap, hv, h1, h2, fun hp => ?_⟩
  obtain ⟨b, o, hA, hlt, hc⟩ := h3 hp
  refine ⟨b, o, hA, Nat.lt_of_lt_of_le hlt hb.size, fun i s hs => ?_⟩
  obtain ⟨u, c1, c2, c3⟩ := hc i s hs
  exact ⟨u, cell_up c1 hb, cell_up c2 hb, c3.up hb⟩
theorem SgL.rd {w : World} {base n : Nat} {v : Value} {cells : List Value} {sg : List Seg} (h : SgL w cells sg) (hn : n = sg.length) (ho : w.ownsRow base 46 2 v n cells) : RdG w v sg := by
  subst hn
  obtain ⟨us, h1, h2, h3⟩ := h
  obtain ⟨k1, k2 | ⟨g, cap, cur, hv, hbg, hg, hn, hc, hs, ht⟩⟩ := ho
  · obtain ⟨rfl, hst⟩ := k2
    have : sg = [] := List.eq_nil_of_length_eq_zero hst
    subst this
    exact ⟨none, 0, rfl, Nat.le_refl _, by decide, fun h => absurd h (by simp)⟩
  · refine ⟨_, cap, hv, hn, hc, fun hp => ⟨g, 0, rfl, Blk.lt (w := w) (g := g) (t := 46) (cs := cur) hg, fun i s hi => ?_⟩⟩
    have hil : i < sg.length := (List.getElem?_eq_some_iff.1 hi).1
    have hu : us[i]? = some (us[i]'(by omega)) := List.getElem?_eq_getElem (by omega)
    have hz : ((sg.zip us).map fun p => sgC p.1 p.2)[i]? = some (sgC s (us[i]'(by omega))) := by
      rw [List.getElem?_map, List.getElem?_zip_eq_some (z := (s, us[i]'(by omega))) |>.2 ⟨hi, hu⟩]; rfl
    have hcell : ∀ j, j < 2 → w.cell? ⟨g, 0 + i * 2 + j, none⟩ = (sgC s (us[i]'(by omega)))[j]? := fun j hj => by
      rw [Blk.cell (w := w) (g := g) (t := 46) (cs := cur) hg, Nat.zero_add]
      have hlt : i * 2 + j < sg.length * 2 := by omega
      have := flat2 _ (fun x hx => by simp only [List.mem_map] at hx; obtain ⟨p, _, rfl⟩ := hx; rfl) i j hj _ hz
      rw [← this, ← h2, ← ht, List.getElem?_take_of_lt (by omega)]
      simp
    exact ⟨us[i]'(by omega), hcell 0 (by omega), hcell 1 (by omega), h3 i s _ hi hu⟩
/-- The segments of data words: 0 and they, 1 (broken), 2 (another mode). -/
def segsF (bs : List Nat) (v : Nat) : Nat → Nat → List Seg → Nat × List Seg
  | 0, _, acc => (0, acc)
  | f + 1, pos, acc => if 8 * bs.length < pos + 4 then (0, acc) else if rb bs pos 4 = 0 then (0, acc) else if ¬ (rb bs pos 4 = 1 ∨ rb bs pos 4 = 2 ∨ rb bs pos 4 = 4) then (2, []) else
      if 8 * bs.length < pos + 4 + cntOf (rb bs pos 4) v then (1, []) else
      match segS bs (rb bs pos 4) (rb bs (pos + 4) (cntOf (rb bs pos 4) v)) (rb bs (pos + 4) (cntOf (rb bs pos 4) v)) (pos + 4 + cntOf (rb bs pos 4) v) [] with
      | none => (1, [])
      | some tp => segsF bs v f tp.2 (acc ++ [(rb bs pos 4, tp.1)])
theorem segS_ge (bs : List Nat) (mode : Nat) : ∀ (f c pos : Nat) (out : List UInt8) (t : List UInt8) (p : Nat), segS bs mode f c pos out = some (t, p) → pos ≤ p
  | 0, c, pos, out, t, p, h => by simp only [segS, Option.some.injEq, Prod.mk.injEq] at h; omega
  | f + 1, c, pos, out, t, p, h => by
    rw [segS] at h
    split at h
    · simp only [Option.some.injEq, Prod.mk.injEq] at h; omega
    · split at h
      · cases h
      · split at h
        · cases h
        · have := segS_ge bs mode f _ _ _ t p h
          omega
theorem cntOf_le (m v : Nat) (h : m = 1 ∨ m = 2 ∨ m = 4) : 8 ≤ cntOf m v ∧ cntOf m v ≤ 16 := by
  have hc : clsV v = 0 ∨ clsV v = 1 ∨ clsV v = 2 := by unfold clsV; split; simp; split <;> simp
  rcases h with rfl | rfl | rfl <;> unfold cntOf <;> rcases hc with hc | hc | hc <;> rw [hc] <;> decide
end Go.Proofs.Ytjkfkkenaiodoaa
