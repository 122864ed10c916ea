/-
  A REGION THAT DRAWS ITS ORDER, WALKED ONCE: its operations in one list (those that leave the world alone ahead of those that turn it); a condition S on the world gives what the loads read and is shown anew behind each operation that turns the world, but not behind the last one, for which all others wait.
  Over any program.
-/
import Derived.OrdersHeld
import Derived.StillTail
import Derived.Tactics
import Derived.Deep.RegionHeld3
namespace Go.Proofs.Ytibdeekgcbmofaa.Can
section
variable {P : Program} {ops : Array Oper} {Q : Exit → Act → World → Prop} {S : World → Prop}

/-- Does the operation turn the world (or may it)? -/
def effB : Op → Bool
  | .move _ | .assign _ | .pick .. | .load .. | .nilCheck _ | .binOp .. | .unOp .. | .convert .. | .makeInterface .. | .slice .. | .fieldAddr .. | .field .. | .indexAddr .. | .index .. | .extract .. | .typeAssert .. => false
  | .call { callee := .builtin .len, .. } | .call { callee := .builtin .cap, .. } | .call { callee := .builtin .min, .. } | .call { callee := .builtin .max, .. } => false
  | _ => true
def effAt (ops : Array Oper) (i : Nat) : Bool := ((ops[i]?).map fun o => effB o.op).getD true

/-- The walk: 'tail' is the operation for which all others wait. -/
def wpCan (P : Program) (ops : Array Oper) (S : World → Prop) (Q : Exit → Act → World → Prop) (tail : Nat) : List Nat → Act → World → Prop
  | [], a, w => Q .normal a w
  | i :: rest, a, w =>
    if effAt ops i = true then wpOp P ops Q i (fun a' w' => (i = tail ∨ S w') ∧ wpCan P ops S Q tail rest a' w') a w
    else ∃ o v, ops[i]? = some o ∧ YieldsIf P ops S o v a ∧ wpCan P ops S Q tail rest (a.put o.dst v) w

/-! ### Which must come ahead of which -/
inductive Reach (ops : Array Oper) : Nat → Nat → Prop
  | one {i j : Nat} {o : Oper} (h : ops[i]? = some o) (e : Edge) (he : e ∈ o.after) (hb : Region.binds .any e = true) (hj : e.on = j) : Reach ops j i
  | more {i j k : Nat} {o : Oper} (h : ops[i]? = some o) (e : Edge) (he : e ∈ o.after) (hb : Region.binds .any e = true) (hj : e.on = k) (hr : Reach ops j k) : Reach ops j i
def fold (m : Array Nat) : List Edge → Nat → Nat
  | [], s => s
  | e :: es, s => fold m es (if Region.binds .any e then s ||| 2 ^ e.on ||| m.getD e.on 0 else s)
def mask (ops : Array Oper) : Nat → Array Nat
  | 0 => #[]
  | n + 1 => (mask ops n).push (match ops[n]? with | some o => fold (mask ops n) o.after.toList 0 | none => 0)
theorem fold_spec (m : Array Nat) (x : Nat) : ∀ (es : List Edge) (s : Nat), (fold m es s).testBit x = true → s.testBit x = true ∨ ∃ e ∈ es, Region.binds .any e = true ∧ (e.on = x ∨ (m.getD e.on 0).testBit x = true)
  | [], s, h => .inl h
  | e :: es, s, h => by
    rcases fold_spec m x es _ h with h1 | ⟨e', h1, h2, h3⟩
    · split at h1
      · rename_i hb
        simp only [Nat.testBit_or, Bool.or_eq_true] at h1
        rcases h1 with (h1 | h1) | h1
        · exact .inl h1
        · rw [Nat.testBit_two_pow] at h1
          exact .inr ⟨e, by simp, hb, .inl (by simpa using h1)⟩
        · exact .inr ⟨e, by simp, hb, .inr h1⟩
      · exact .inl h1
    · exact .inr ⟨e', List.mem_cons_of_mem _ h1, h2, h3⟩
theorem mask_size (ops : Array Oper) : ∀ n, (mask ops n).size = n
  | 0 => rfl
  | n + 1 => by unfold mask; rw [Array.size_push, mask_size ops n]
theorem mask_spec (ops : Array Oper) (x : Nat) : ∀ (n i : Nat), ((mask ops n).getD i 0).testBit x = true → Reach ops x i
  | 0, i, h => by simp [mask] at h
  | n + 1, i, h => by
    by_cases hi : i = n
    · subst hi
      unfold mask at h
      rw [Array.getD_eq_getD_getElem?, Array.getElem?_push, if_pos (mask_size ops i).symm] at h
      simp only [Option.getD_some] at h
      split at h
      · rename_i o ho
        rcases fold_spec _ x _ _ h with h1 | ⟨e, h1, h2, h3⟩
        · simp at h1
        · rcases h3 with h3 | h3
          · exact .one ho e (Array.mem_toList_iff.1 h1) h2 h3
          · exact .more ho e (Array.mem_toList_iff.1 h1) h2 rfl (mask_spec ops x i e.on h3)
      · simp at h
    · unfold mask at h
      rw [Array.getD_eq_getD_getElem?, Array.getElem?_push, if_neg (by rw [mask_size]; exact hi)] at h
      rw [← Array.getD_eq_getD_getElem?] at h
      exact mask_spec ops x n i h
theorem reach_listed {listed : Array Bool} (hc : ∀ j oj, ops[j]? = some oj → listed.getD j false = true → ∀ e ∈ oj.after, Region.binds .any e = true → listed.getD e.on false = true) :
    ∀ {x i : Nat}, Reach ops x i → (∀ o, ops[i]? = some o → ∀ e ∈ o.after, Region.binds .any e = true → listed.getD e.on false = true) → listed.getD x false = true := by
  intro x i h
  induction h with
  | one h e he hb hj => intro hi; subst hj; exact hi _ h e he hb
  | more h e he hb hj _ ih =>
    intro hi
    subst hj
    have h1 := hi _ h e he hb
    exact ih (fun o ho e' he' hb' => hc _ o ho h1 e' he' hb')

/-! ### What is asked of the list, by reckoning -/
def pairB (ops : Array Oper) (m : Array Nat) (tail x y : Nat) : Bool :=
  (m.getD y 0).testBit x || (!effAt ops x && y != tail && match ops[x]?, ops[y]? with | some ox, some oy => ox.apart ops oy | _, _ => false)
def pairsB (ops : Array Oper) (m : Array Nat) (tail : Nat) : List Nat → Bool
  | [] => true
  | x :: r => (x != tail || r.isEmpty) && r.all (fun y => pairB ops m tail x y) && pairsB ops m tail r
def backB (ops : Array Oper) : Bool := (List.range ops.size).all fun i => match ops[i]? with | some o => o.after.all (fun e => !Region.binds .any e || decide (e.on < i)) | none => true
def canB (ops : Array Oper) (tail : Nat) (L : List Nat) : Bool :=
  Region.noSelect ops && backB ops && pairsB ops (mask ops ops.size) tail L && decide L.Nodup && decide (L.length ≤ ops.size) && L.all (fun i => decide (i < ops.size)) && (List.range ops.size).all (fun i => L.contains i)

structure Inv (ops : Array Oper) (tail : Nat) (listed : Array Bool) (L : List Nat) : Prop where
  size : listed.size = ops.size
  closed : ∀ j oj, ops[j]? = some oj → listed.getD j false = true → ∀ e ∈ oj.after, Region.binds .any e = true → listed.getD e.on false = true
  iff : ∀ i, i < ops.size → (listed.getD i true = false ↔ i ∈ L)
  nodup : L.Nodup
  bound : ∀ i ∈ L, i < ops.size
  pairs : pairsB ops (mask ops ops.size) tail L = true

theorem pairsB_split {m : Array Nat} {tail : Nat} : ∀ (L1 : List Nat) (i : Nat) (L2 : List Nat), pairsB ops m tail (L1 ++ i :: L2) = true →
    (∀ x ∈ L1, pairB ops m tail x i = true) ∧ (i = tail → L2 = []) ∧ pairsB ops m tail (L1 ++ L2) = true
  | [], i, L2, h => by
    simp only [List.nil_append, pairsB, Bool.and_eq_true, Bool.or_eq_true, bne_iff_ne, ne_eq, List.isEmpty_iff] at h
    refine ⟨fun x hx => (by cases hx), fun hi => ?_, h.2⟩
    rcases h.1.1 with h1 | h1
    · exact absurd hi h1
    · exact h1
  | x :: L1, i, L2, h => by
    simp only [List.cons_append, pairsB, Bool.and_eq_true, Bool.or_eq_true, bne_iff_ne, ne_eq, List.isEmpty_iff, List.all_eq_true] at h
    obtain ⟨⟨h1, h2⟩, h3⟩ := h
    obtain ⟨g1, g2, g3⟩ := pairsB_split L1 i L2 h3
    refine ⟨fun y hy => ?_, g2, ?_⟩
    · rcases List.mem_cons.1 hy with rfl | hy
      · exact h2 i (by simp)
      · exact g1 y hy
    · simp only [List.cons_append, pairsB, Bool.and_eq_true, Bool.or_eq_true, bne_iff_ne, ne_eq, List.isEmpty_iff, List.all_eq_true]
      refine ⟨⟨?_, fun y hy => h2 y ?_⟩, g3⟩
      · rcases h1 with h1 | h1
        · exact .inl h1
        · simp at h1
      · simp only [List.mem_append, List.mem_cons] at hy ⊢
        rcases hy with hy | hy
        · exact .inl hy
        · exact .inr (.inr hy)

/-- An operation is moved to the front past those that leave the world alone. -/
theorem move_front {tail i : Nat} {oi : Oper} (hoi : ops[i]? = some oi) (hs : ∀ (j : Nat) (o : Oper) cs b, ops[j]? = some o → o.op ≠ .select cs b)
    (hQ : ∀ c (a : Act) (d : Option Tmp) v w, Q (.panic c) (a.put d v) w → Q (.panic c) a w) : ∀ (L1 L2 : List Nat) (a : Act) (w : World), S w →
    (∀ x ∈ L1, effAt ops x = false ∧ ∃ ox, ops[x]? = some ox ∧ ox.apart ops oi = true) →
    wpCan P ops S Q tail (L1 ++ i :: L2) a w → wpOp P ops Q i (fun a' w' => (i = tail ∨ S w') ∧ wpCan P ops S Q tail (L1 ++ L2) a' w') a w
  | [], L2, a, w, hS, _, h => by
    simp only [List.nil_append, wpCan] at h ⊢
    split at h
    · exact h
    · obtain ⟨o, v, ho, hy, hr⟩ := h
      exact hy.wpOp ho hS ⟨.inr hS, hr⟩
  | x :: L1, L2, a, w, hS, hx, h => by
    obtain ⟨he, ox, hox, hap⟩ := hx x (List.mem_cons_self ..)
    simp only [List.cons_append, wpCan, he, Bool.false_eq_true, if_false] at h ⊢
    obtain ⟨o, v, ho, hy, hr⟩ := h
    obtain rfl : o = ox := Option.some.inj (ho.symm.trans hox)
    have h1 := move_front hoi hs hQ L1 L2 _ w hS (fun y hy => hx y (List.mem_cons_of_mem _ hy)) hr
    have h2 := wpOp_putIf (P := P) (Q := Q) (S := S) hoi hap (hs x o · · ho) (hs i oi · · hoi) (fun c a w => hQ c a _ v w) hy h1
    exact wpOp_mono (fun a' w' ⟨h3, h4, h5⟩ => ⟨h4, o, v, ho, h3, h5⟩) h2

theorem back_min (hb : backB ops = true) {listed : Array Bool} (hsz : listed.size = ops.size) : ∀ (n i : Nat), i < n → i < ops.size → listed.getD i true = false → ∃ j, j ∈ Region.ready .any ops listed := by
  intro n
  induction n with
  | zero => intro i hi; omega
  | succ n ih =>
    intro i hi hlt hl
    have ho : ops[i]? = some ops[i] := Array.getElem?_eq_getElem hlt
    by_cases hall : ∀ e ∈ (ops[i]).after, Region.binds .any e = true → listed.getD e.on false = true
    · exact ⟨i, mem_ready.2 ⟨hl, _, ho, hall⟩⟩
    · have hex : ∃ e, e ∈ (ops[i]).after ∧ Region.binds .any e = true ∧ listed.getD e.on false = false := by
        apply Classical.byContradiction
        intro hno
        exact hall fun e he hbd => by
          cases hv : listed.getD e.on false with
          | true => rfl
          | false => exact absurd ⟨e, he, hbd, hv⟩ hno
      obtain ⟨e, he, hbd, hf⟩ := hex
      have h1 := List.all_eq_true.1 hb i (List.mem_range.2 hlt)
      rw [ho] at h1
      simp only [Array.all_eq_true'] at h1
      have h2 := h1 e he
      simp only [hbd, Bool.not_true, Bool.false_or, decide_eq_true_eq] at h2
      exact ih e.on (by omega) (by omega) (getD_in (by omega) hf)

theorem any_of_can {tail : Nat} (hs : ∀ (j : Nat) (o : Oper) cs b, ops[j]? = some o → o.op ≠ .select cs b) (hb : backB ops = true)
    (hQ : ∀ c (a : Act) (d : Option Tmp) v w, Q (.panic c) (a.put d v) w → Q (.panic c) a w) : ∀ (fuel : Nat) (listed : Array Bool) (L : List Nat) (a : Act) (w : World),
    Inv ops tail listed L → (L = [] ∨ S w) → L.length ≤ fuel → wpCan P ops S Q tail L a w → wpAny P .any ops Q fuel listed a w := by
  have none_ready : ∀ (listed : Array Bool), Inv ops tail listed [] → Region.ready .any ops listed = [] := by
    intro listed hI
    rcases hr : Region.ready .any ops listed with _ | ⟨j, r⟩
    · rfl
    · exfalso
      have hj : j ∈ Region.ready .any ops listed := by rw [hr]; simp
      obtain ⟨h1, o, ho, _⟩ := mem_ready.1 hj
      have h3 := (hI.iff j (Array.getElem?_eq_some_iff.1 ho).1).1 h1
      simp at h3
  intro fuel
  induction fuel with
  | zero =>
    intro listed L a w hI _ hL h
    have : L = [] := List.eq_nil_of_length_eq_zero (by omega)
    subst this
    exact ⟨none_ready listed hI, h⟩
  | succ fuel ih =>
    intro listed L a w hI hSw hL h
    refine ⟨fun hr => ?_, fun i hi => ?_⟩
    · rcases L with _ | ⟨x, r⟩
      · exact h
      · exfalso
        have hx : x < ops.size := hI.bound x (by simp)
        have hl := (hI.iff x hx).2 (by simp)
        obtain ⟨j, hj⟩ := back_min hb hI.size (x + 1) x (by omega) hx hl
        rw [hr] at hj
        cases hj
    · obtain ⟨hun, oi, hoi, hall⟩ := mem_ready.1 hi
      have hlt : i < ops.size := (Array.getElem?_eq_some_iff.1 hoi).1
      have hmem := (hI.iff i hlt).1 hun
      obtain ⟨L1, L2, rfl⟩ := List.append_of_mem hmem
      have hS : S w := by
        rcases hSw with h0 | h0
        · simp at h0
        · exact h0
      obtain ⟨hp1, hp2, hp3⟩ := pairsB_split L1 i L2 hI.pairs
      have hdis : i ∉ L1 ∧ i ∉ L2 := by
        have := hI.nodup
        rw [List.nodup_append] at this
        obtain ⟨_, h2, h3⟩ := this
        rw [List.nodup_cons] at h2
        exact ⟨fun h4 => h3 i h4 i (by simp) rfl, h2.1⟩
      have hx : ∀ x ∈ L1, effAt ops x = false ∧ ∃ ox, ops[x]? = some ox ∧ ox.apart ops oi = true ∧ i ≠ tail := by
        intro x hx
        have h1 := hp1 x hx
        simp only [pairB, Bool.or_eq_true, Bool.and_eq_true, Bool.not_eq_true', bne_iff_ne, ne_eq] at h1
        rcases h1 with h1 | ⟨⟨h1, h2⟩, h3⟩
        · exfalso
          have h4 := reach_listed hI.closed (mask_spec ops x _ i h1) (fun o ho e he hbd => by
            obtain rfl : o = oi := Option.some.inj (ho.symm.trans hoi)
            exact hall e he hbd)
          have hxb := hI.bound x (List.mem_append_left _ hx)
          have h5 := (hI.iff x hxb).2 (List.mem_append_left _ hx)
          rw [getD_both h5] at h4
          cases h4
        · rw [hoi] at h3
          cases hox : ops[x]? with
          | none => rw [hox] at h3; cases h3
          | some ox => rw [hox] at h3; exact ⟨h1, ox, rfl, h3, h2⟩
      have h1 := move_front hoi hs hQ L1 L2 a w hS (fun x hx' => let ⟨h1, ox, h2, h3, _⟩ := hx x hx'; ⟨h1, ox, h2, h3⟩) h
      refine wpOp_mono (fun a' w' ⟨h2, h3⟩ => ?_) h1
      refine ih _ (L1 ++ L2) a' w' ⟨?_, ?_, ?_, ?_, ?_, hp3⟩ ?_ ?_ h3
      · simp [hI.size]
      · intro j oj hj hl e he hbd
        by_cases hij : i = j
        · subst hij
          obtain rfl : oj = oi := Option.some.inj (hj.symm.trans hoi)
          exact getD_set_true (hall e he hbd)
        · rw [getD_set_ne false hij] at hl
          exact getD_set_true (hI.closed j oj hj hl e he hbd)
      · intro j hj
        by_cases hij : i = j
        · subst hij
          refine ⟨fun h4 => ?_, fun h4 => ?_⟩
          · have h5 : i < listed.size := by rw [hI.size]; exact hj
            simp [Array.getD_eq_getD_getElem?, h5] at h4
          · rcases List.mem_append.1 h4 with h4 | h4
            · exact absurd h4 hdis.1
            · exact absurd h4 hdis.2
        · rw [getD_set_ne true hij, hI.iff j hj]
          simp only [List.mem_append, List.mem_cons]
          constructor
          · rintro (h4 | rfl | h4)
            · exact .inl h4
            · exact absurd rfl hij
            · exact .inr h4
          · rintro (h4 | h4)
            · exact .inl h4
            · exact .inr (.inr h4)
      · have := hI.nodup
        rw [List.nodup_append] at this ⊢
        obtain ⟨g1, g2, g3⟩ := this
        rw [List.nodup_cons] at g2
        exact ⟨g1, g2.2, fun x hx y hy => g3 x hx y (List.mem_cons_of_mem _ hy)⟩
      · intro j hj
        refine hI.bound j ?_
        simp only [List.mem_append, List.mem_cons] at hj ⊢
        rcases hj with hj | hj
        · exact .inl hj
        · exact .inr (.inr hj)
      · rcases h2 with h2 | h2
        · left
          have h4 := hp2 h2
          have h5 : L1 = [] := by
            rcases L1 with _ | ⟨x, r⟩
            · rfl
            · obtain ⟨_, _, _, _, h6⟩ := hx x (by simp)
              exact absurd h2 h6
          rw [h4, h5]; rfl
        · exact .inr h2
      · simp only [List.length_append, List.length_cons] at hL ⊢; omega

/-- A region that draws its order, by one walk of the list L. -/
theorem wp_region_can {id : Nat} {a : Act} {w : World} (S : World → Prop) (tail : Nat) (L : List Nat) (hm : P.follows .mixedOrders = true) (hB : canB ops tail L = true)
    (hQ : ∀ c (a : Act) (d : Option Tmp) v w, Q (.panic c) (a.put d v) w → Q (.panic c) a w) (hS : S w.drew) (h : S w.drew → wpCan P ops S Q tail L a w.drew) : (Code.region id ops true).wp P Q a w := by
  simp only [canB, Bool.and_eq_true, decide_eq_true_eq] at hB
  obtain ⟨⟨⟨⟨⟨⟨h1, h2⟩, h3⟩, h4⟩, hlen⟩, h5⟩, h6⟩ := hB
  have h5' : ∀ i ∈ L, i < ops.size := fun i hi => by simpa using List.all_eq_true.1 h5 i hi
  have h6' : ∀ i, i < ops.size → i ∈ L := fun i hi => by simpa using List.all_eq_true.1 h6 i (List.mem_range.2 hi)
  refine wp_region_any hm (any_of_can (tail := tail) (fun j o cs b => Region.noSelect_spec h1 j o cs b) h2 hQ ops.size _ L a w.drew ⟨by simp, ?_, ?_, h4, h5', h3⟩ (.inr hS) hlen (h hS))
  · intro j oj _ hl
    rw [getD_replicate_false] at hl
    cases hl
  · intro i hi
    simp [hi, h6' i hi]

/-! ### The steps of the walk -/
theorem can_pure {tail i : Nat} {o : Oper} {v : Value} {rest : List Nat} {a : Act} {w : World} (ho : ops[i]? = some o) (he : effB o.op = false) (hy : YieldsIf P ops S o v a)
    (h : wpCan P ops S Q tail rest (a.put o.dst v) w) : wpCan P ops S Q tail (i :: rest) a w := by
  have h1 : effAt ops i = false := by simp [effAt, ho, he]
  simp only [wpCan, h1, Bool.false_eq_true, if_false]
  exact ⟨o, v, ho, hy, h⟩
theorem can_skip {tail i : Nat} {o : Oper} {rest : List Nat} {a : Act} {w : World} (ho : ops[i]? = some o) (hw : Region.wanted o (yielded ops a.tmps) = false) (hS : S w)
    (h : wpCan P ops S Q tail rest (a.put o.dst undef) w) : wpCan P ops S Q tail (i :: rest) a w := by
  simp only [wpCan]
  split
  · unfold wpOp
    simp only [ho, hw, Bool.false_eq_true, if_false]
    exact ⟨.inr hS, h⟩
  · exact ⟨o, undef, ho, .inr ⟨hw, rfl⟩, h⟩
theorem can_eff {tail i : Nat} {o : Oper} {rest : List Nat} {a : Act} {w : World} (ho : ops[i]? = some o) (he : effB o.op = true) (hw : Region.wanted o (yielded ops a.tmps) = true)
    (h : ∀ K : Act → World → Prop, Shut (∀ a w, S w → (S w → wpCan P ops S Q tail rest a w) → K a w) → if Region.wanted o (yielded ops a.tmps) = true then Oper.wp P o a w K Q else K (a.put o.dst undef) w) :
    wpCan P ops S Q tail (i :: rest) a w := by
  have h1 : effAt ops i = true := by simp [effAt, ho, he]
  simp only [wpCan, h1, if_true]
  unfold wpOp
  simp only [ho, hw, if_true]
  have h2 := h (fun a' w' => (i = tail ∨ S w') ∧ wpCan P ops S Q tail rest a' w') (fun a' w' hS hr => ⟨.inr hS, hr hS⟩)
  rw [if_pos hw] at h2
  exact .inl h2
theorem can_tail {i : Nat} {o : Oper} {a : Act} {w : World} (ho : ops[i]? = some o) (he : effB o.op = true) (hw : Region.wanted o (yielded ops a.tmps) = true)
    (h : ∀ K : Act → World → Prop, Shut (∀ a w, Q .normal a w → K a w) → if Region.wanted o (yielded ops a.tmps) = true then Oper.wp P o a w K Q else K (a.put o.dst undef) w) :
    wpCan P ops S Q i [i] a w := by
  have h1 : effAt ops i = true := by simp [effAt, ho, he]
  simp only [wpCan, h1, if_true]
  unfold wpOp
  simp only [ho, hw, if_true]
  have h2 := h (fun a' w' => (True ∨ S w') ∧ Q .normal a' w') (fun a' w' hr => ⟨.inl trivial, hr⟩)
  rw [if_pos hw] at h2
  exact .inl h2
theorem can_done {tail : Nat} {a : Act} {w : World} (h : Q .normal a w) : wpCan P ops S Q tail [] a w := h
end
end Go.Proofs.Ytibdeekgcbmofaa.Can
