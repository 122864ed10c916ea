/-
  A REGION THAT DRAWS ITS ORDER, WALKED ONCE, IN STAGES: as Can; but the condition S turns at each barrier (an operation that turns the world and for which all those ahead of it in the list must wait): S n holds where n barriers are still to come.
  Over any program.
-/
import Derived.Test.YtbfkjfgjeaofpaaCan
namespace Go.Proofs.Ytbfkjfgjeaofpaa.Can2
open Can
section
variable {P : Program} {ops : Array Oper} {Q : Exit → Act → World → Prop} {S : Nat → World → Prop} {T : List Nat}

/-- What holds ahead of a barrier, and behind it. -/
def two (A B : Prop) : Nat → Prop
  | 1 => A
  | _ => B
theorem two_1 (A B : Prop) : two A B 1 = A := rfl
theorem two_0 (A B : Prop) : two A B 0 = B := rfl
theorem mk1 {A B : Prop} (h : A) : two A B 1 := h
theorem mk0 {A B : Prop} (h : B) : two A B 0 := h
theorem of1 {A B : Prop} (h : two A B 1) : A := h
theorem of0 {A B : Prop} (h : two A B 0) : B := h
/-- Does the operation but move a value? -/
def freeB : Op → Bool
  | .move _ | .assign _ => true
  | _ => false
def freeAt (ops : Array Oper) (i : Nat) : Bool := ((ops[i]?).map fun o => freeB o.op).getD false
theorem free_any {S' : World → Prop} {S0 : World → Prop} {o : Oper} {v : Value} {a : Act} {w : World} (hf : freeB o.op = true) (h : YieldsIf P ops S0 o v a) (hS : S0 w) : YieldsIf P ops S' o v a := by
  have hx : ∃ x, ∀ w, (execOp a.eval o).run P w = .ok (.value x) w := by
    cases ho : o.op <;> rw [ho] at hf <;> simp only [freeB] at hf <;> first | (cases hf; done) | exact ⟨_, fun w => by unfold execOp; simp only [ho]; rfl⟩
  obtain ⟨x, hx⟩ := hx
  rcases h with ⟨h1, h2⟩ | ⟨h1, h2⟩
  · have h3 := h2 w hS
    rw [hx] at h3
    injection h3 with h4 _
    exact .inl ⟨h1, fun w' _ => by rw [hx, h4]⟩
  · exact .inr ⟨h1, h2⟩
/-- How many barriers are in a list. -/
def cnt (T : List Nat) : List Nat → Nat
  | [] => 0
  | i :: r => if T.contains i then cnt T r + 1 else cnt T r
theorem cnt_append (T : List Nat) (a b : List Nat) : cnt T (a ++ b) = cnt T a + cnt T b := by
  induction a with
  | nil => simp [cnt]
  | cons i r ih => rw [List.cons_append, cnt, cnt, ih]; split <;> omega
/-- The walk; 't' is the operation for which all others wait. -/
def wpCan (P : Program) (ops : Array Oper) (S : Nat → World → Prop) (Q : Exit → Act → World → Prop) (T : List Nat) (t : Nat) : List Nat → Act → World → Prop
  | [], a, w => Q .normal a w
  | i :: rest, a, w =>
    if effAt ops i = true then wpOp P ops Q i (fun a' w' => ((i = t ∧ rest = []) ∨ S (cnt T rest) w') ∧ wpCan P ops S Q T t rest a' w') a w
    else ∃ o v, ops[i]? = some o ∧ YieldsIf P ops (S (cnt T rest)) o v a ∧ wpCan P ops S Q T t rest (a.put o.dst v) w

def pairB (ops : Array Oper) (m : Array Nat) (T : List Nat) (t x y : Nat) : Bool :=
  (m.getD y 0).testBit x || (!effAt ops x && y != t && (!T.contains y || freeAt ops x) && match ops[x]?, ops[y]? with | some ox, some oy => ox.apart ops oy | _, _ => false)
def pairsB (ops : Array Oper) (m : Array Nat) (T : List Nat) (t : Nat) : List Nat → Bool
  | [] => true
  | x :: r => r.all (fun y => pairB ops m T t x y) && pairsB ops m T t r
def canB (ops : Array Oper) (T : List Nat) (t : Nat) (L : List Nat) : Bool :=
  Region.noSelect ops && backB ops && pairsB ops (mask ops ops.size) T t L && decide L.Nodup && decide (L.length ≤ ops.size) && L.all (fun i => decide (i < ops.size)) && (List.range ops.size).all (fun i => L.contains i) && T.all (fun i => effAt ops i)

structure Inv (ops : Array Oper) (T : List Nat) (t : Nat) (listed : Array Bool) (L : List Nat) : Prop where
  size : listed.size = ops.size
  closed : ∀ j oj, ops[j]? = some oj → listed.getD j false = true → ∀ e ∈ oj.after, Region.binds .any e = true → listed.getD e.on false = true
  iff : ∀ i, i < ops.size → (listed.getD i true = false ↔ i ∈ L)
  nodup : L.Nodup
  bound : ∀ i ∈ L, i < ops.size
  pairs : pairsB ops (mask ops ops.size) T t L = true

theorem pairsB_split {m : Array Nat} {t : Nat} : ∀ (L1 : List Nat) (i : Nat) (L2 : List Nat), pairsB ops m T t (L1 ++ i :: L2) = true →
    (∀ x ∈ L1, pairB ops m T t x i = true) ∧ pairsB ops m T t (L1 ++ L2) = true
  | [], i, L2, h => by
    simp only [List.nil_append, pairsB, Bool.and_eq_true] at h
    exact ⟨fun x hx => (by cases hx), h.2⟩
  | x :: L1, i, L2, h => by
    simp only [List.cons_append, pairsB, Bool.and_eq_true, List.all_eq_true] at h
    obtain ⟨h2, h3⟩ := h
    obtain ⟨g1, g3⟩ := pairsB_split L1 i L2 h3
    refine ⟨fun y hy => ?_, ?_⟩
    · rcases List.mem_cons.1 hy with rfl | hy
      · exact h2 i (by simp)
      · exact g1 y hy
    · simp only [List.cons_append, pairsB, Bool.and_eq_true, List.all_eq_true]
      refine ⟨fun y hy => h2 y ?_, g3⟩
      simp only [List.mem_append, List.mem_cons] at hy ⊢
      rcases hy with hy | hy
      · exact .inl hy
      · exact .inr (.inr hy)
theorem cnt_skip {x : Nat} (hx : T.contains x = false) (L : List Nat) : cnt T (x :: L) = cnt T L := by rw [cnt, hx]; rfl

theorem move_front {t i : Nat} {oi : Oper} (hoi : ops[i]? = some oi) (hs : ∀ (j : Nat) (o : Oper) cs b, ops[j]? = some o → o.op ≠ .select cs b)
    (hQ : ∀ c (a : Act) (d : Option Tmp) v w, Q (.panic c) (a.put d v) w → Q (.panic c) a w) (hT : ∀ x, T.contains x = true → effAt ops x = true) : ∀ (L1 L2 : List Nat) (a : Act) (w : World), S (cnt T (L1 ++ i :: L2)) w →
    (∀ x ∈ L1, effAt ops x = false ∧ i ≠ t ∧ (T.contains i = false ∨ freeAt ops x = true) ∧ ∃ ox, ops[x]? = some ox ∧ ox.apart ops oi = true) →
    wpCan P ops S Q T t (L1 ++ i :: L2) a w → wpOp P ops Q i (fun a' w' => ((i = t ∧ L1 ++ L2 = []) ∨ S (cnt T (L1 ++ L2)) w') ∧ wpCan P ops S Q T t (L1 ++ L2) a' w') a w
  | [], L2, a, w, hS, _, h => by
    simp only [List.nil_append, wpCan] at h hS ⊢
    split at h
    · exact h
    · rename_i he
      obtain ⟨o, v, ho, hy, hr⟩ := h
      have hti : T.contains i = false := by
        cases hc : T.contains i
        · rfl
        · exact absurd (hT i hc) he
      rw [cnt_skip hti] at hS
      exact hy.wpOp ho hS ⟨.inr hS, hr⟩
  | x :: L1, L2, a, w, hS, hx, h => by
    obtain ⟨he, hit, hfr, ox, hox, hap⟩ := hx x (List.mem_cons_self ..)
    have htx : T.contains x = false := by
      cases hc : T.contains x
      · rfl
      · rw [hT x hc] at he; cases he
    simp only [List.cons_append, wpCan, he, Bool.false_eq_true, if_false] at h ⊢
    rw [List.cons_append, cnt_skip htx] at hS
    rw [cnt_skip htx]
    obtain ⟨o, v, ho, hy, hr⟩ := h
    obtain rfl : o = ox := Option.some.inj (ho.symm.trans hox)
    have h1 := move_front hoi hs hQ hT L1 L2 _ w hS (fun y hy => hx y (List.mem_cons_of_mem _ hy)) hr
    have hy2 : YieldsIf P ops (S (cnt T (L1 ++ L2))) o v a := by
      rcases hfr with hti | hfr
      · have hce : cnt T (L1 ++ i :: L2) = cnt T (L1 ++ L2) := by rw [cnt_append, cnt_append, cnt_skip hti]
        rwa [hce] at hy
      · have hfo : freeB o.op = true := by simpa [freeAt, hox] using hfr
        exact free_any hfo hy hS
    have h2 := wpOp_putIf (P := P) (Q := Q) (S := S (cnt T (L1 ++ L2))) hoi hap (hs x o · · ho) (hs i oi · · hoi) (fun c a w => hQ c a _ v w) hy2 h1
    refine wpOp_mono (fun a' w' ⟨h3, h4, h5⟩ => ?_) h2
    rcases h4 with ⟨h6, _⟩ | h4
    · exact absurd h6 hit
    · exact ⟨.inr h4, o, v, ho, h3, h5⟩

theorem any_of_can {t : Nat} (hs : ∀ (j : Nat) (o : Oper) cs b, ops[j]? = some o → o.op ≠ .select cs b) (hb : backB ops = true) (hT : ∀ x, T.contains x = true → effAt ops x = true)
    (hQ : ∀ c (a : Act) (d : Option Tmp) v w, Q (.panic c) (a.put d v) w → Q (.panic c) a w) : ∀ (fuel : Nat) (listed : Array Bool) (L : List Nat) (a : Act) (w : World),
    Inv ops T t listed L → (L = [] ∨ S (cnt T L) w) → L.length ≤ fuel → wpCan P ops S Q T t L a w → wpAny P .any ops Q fuel listed a w := by
  have none_ready : ∀ (listed : Array Bool), Inv ops T t listed [] → Region.ready .any ops listed = [] := by
    intro listed hI
    rcases hr : Region.ready .any ops listed with _ | ⟨j, r⟩
    · rfl
    · exfalso
      have hj : j ∈ Region.ready .any ops listed := by rw [hr]; simp
      obtain ⟨h1, o, ho, _⟩ := mem_ready.1 hj
      have h3 := (hI.iff j (Array.getElem?_eq_some_iff.1 ho).1).1 h1
      simp at h3
  intro fuel
  induction fuel with
  | zero =>
    intro listed L a w hI _ hL h
    have : L = [] := List.eq_nil_of_length_eq_zero (by omega)
    subst this
    exact ⟨none_ready listed hI, h⟩
  | succ fuel ih =>
    intro listed L a w hI hSw hL h
    refine ⟨fun hr => ?_, fun i hi => ?_⟩
    · rcases L with _ | ⟨x, r⟩
      · exact h
      · exfalso
        have hx : x < ops.size := hI.bound x (by simp)
        have hl := (hI.iff x hx).2 (by simp)
        obtain ⟨j, hj⟩ := back_min hb hI.size (x + 1) x (by omega) hx hl
        rw [hr] at hj
        cases hj
    · obtain ⟨hun, oi, hoi, hall⟩ := mem_ready.1 hi
      have hlt : i < ops.size := (Array.getElem?_eq_some_iff.1 hoi).1
      have hmem := (hI.iff i hlt).1 hun
      obtain ⟨L1, L2, rfl⟩ := List.append_of_mem hmem
      have hS : S (cnt T (L1 ++ i :: L2)) w := by
        rcases hSw with h0 | h0
        · simp at h0
        · exact h0
      obtain ⟨hp1, hp3⟩ := pairsB_split L1 i L2 hI.pairs
      have hdis : i ∉ L1 ∧ i ∉ L2 := by
        have := hI.nodup
        rw [List.nodup_append] at this
        obtain ⟨_, h2, h3⟩ := this
        rw [List.nodup_cons] at h2
        exact ⟨fun h4 => h3 i h4 i (by simp) rfl, h2.1⟩
      have hx : ∀ x ∈ L1, effAt ops x = false ∧ i ≠ t ∧ (T.contains i = false ∨ freeAt ops x = true) ∧ ∃ ox, ops[x]? = some ox ∧ ox.apart ops oi = true := by
        intro x hx
        have h1 := hp1 x hx
        simp only [pairB, Bool.or_eq_true, Bool.and_eq_true, Bool.not_eq_true', bne_iff_ne, ne_eq] at h1
        rcases h1 with h1 | ⟨⟨⟨h1, h2⟩, h4⟩, h3⟩
        · exfalso
          have h4 := reach_listed hI.closed (mask_spec ops x _ i h1) (fun o ho e he hbd => by
            obtain rfl : o = oi := Option.some.inj (ho.symm.trans hoi)
            exact hall e he hbd)
          have hxb := hI.bound x (List.mem_append_left _ hx)
          have h5 := (hI.iff x hxb).2 (List.mem_append_left _ hx)
          rw [getD_both h5] at h4
          cases h4
        · rw [hoi] at h3
          cases hox : ops[x]? with
          | none => rw [hox] at h3; cases h3
          | some ox => rw [hox] at h3; exact ⟨h1, h2, h4, ox, rfl, h3⟩
      have h1 := move_front hoi hs hQ hT L1 L2 a w hS hx h
      refine wpOp_mono (fun a' w' ⟨h2, h3⟩ => ?_) h1
      refine ih _ (L1 ++ L2) a' w' ⟨?_, ?_, ?_, ?_, ?_, hp3⟩ ?_ ?_ h3
      · simp [hI.size]
      · intro j oj hj hl e he hbd
        by_cases hij : i = j
        · subst hij
          obtain rfl : oj = oi := Option.some.inj (hj.symm.trans hoi)
          exact getD_set_true (hall e he hbd)
        · rw [getD_set_ne false hij] at hl
          exact getD_set_true (hI.closed j oj hj hl e he hbd)
      · intro j hj
        by_cases hij : i = j
        · subst hij
          refine ⟨fun h4 => ?_, fun h4 => ?_⟩
          · have h5 : i < listed.size := by rw [hI.size]; exact hj
            simp [Array.getD_eq_getD_getElem?, h5] at h4
          · rcases List.mem_append.1 h4 with h4 | h4
            · exact absurd h4 hdis.1
            · exact absurd h4 hdis.2
        · rw [getD_set_ne true hij, hI.iff j hj]
          simp only [List.mem_append, List.mem_cons]
          constructor
          · rintro (h4 | rfl | h4)
            · exact .inl h4
            · exact absurd rfl hij
            · exact .inr h4
          · rintro (h4 | h4)
            · exact .inl h4
            · exact .inr (.inr h4)
      · have := hI.nodup
        rw [List.nodup_append] at this ⊢
        obtain ⟨g1, g2, g3⟩ := this
        rw [List.nodup_cons] at g2
        exact ⟨g1, g2.2, fun x hx y hy => g3 x hx y (List.mem_cons_of_mem _ hy)⟩
      · intro j hj
        refine hI.bound j ?_
        simp only [List.mem_append, List.mem_cons] at hj ⊢
        rcases hj with hj | hj
        · exact .inl hj
        · exact .inr (.inr hj)
      · rcases h2 with ⟨_, h2⟩ | h2
        · exact .inl h2
        · exact .inr h2
      · simp only [List.length_append, List.length_cons] at hL ⊢; omega

/-- A region that draws its order, by one walk of the list L with the barriers T. -/
theorem wp_region_can {id : Nat} {a : Act} {w : World} (S : Nat → World → Prop) (T : List Nat) (t : Nat) (L : List Nat) (n : Nat) (hn : cnt T L = n) (hm : P.follows .mixedOrders = true) (hB : canB ops T t L = true)
    (hQ : ∀ c (a : Act) (d : Option Tmp) v w, Q (.panic c) (a.put d v) w → Q (.panic c) a w) (hS : S n w.drew) (h : S n w.drew → wpCan P ops S Q T t L a w.drew) : (Code.region id ops true).wp P Q a w := by
  subst hn
  simp only [canB, Bool.and_eq_true, decide_eq_true_eq] at hB
  obtain ⟨⟨⟨⟨⟨⟨⟨h1, h2⟩, h3⟩, h4⟩, hlen⟩, h5⟩, h6⟩, h7⟩ := hB
  have h5' : ∀ i ∈ L, i < ops.size := fun i hi => by simpa using List.all_eq_true.1 h5 i hi
  have h6' : ∀ i, i < ops.size → i ∈ L := fun i hi => by simpa using List.all_eq_true.1 h6 i (List.mem_range.2 hi)
  have h7' : ∀ x, T.contains x = true → effAt ops x = true := fun x hx => List.all_eq_true.1 h7 x (by simpa using hx)
  refine wp_region_any hm (any_of_can (T := T) (t := t) (fun j o cs b => Region.noSelect_spec h1 j o cs b) h2 h7' hQ ops.size _ L a w.drew ⟨by simp, ?_, ?_, h4, h5', h3⟩ (.inr hS) hlen (h hS))
  · intro j oj _ hl
    rw [getD_replicate_false] at hl
    cases hl
  · intro i hi
    simp [hi, h6' i hi]

/-! ### The steps of the walk -/
theorem can_pure {t i : Nat} {o : Oper} {v : Value} {rest : List Nat} {a : Act} {w : World} {n : Nat} (hn : cnt T rest = n) (ho : ops[i]? = some o) (he : effB o.op = false) (hy : YieldsIf P ops (S n) o v a)
    (h : wpCan P ops S Q T t rest (a.put o.dst v) w) : wpCan P ops S Q T t (i :: rest) a w := by
  subst hn
  have h1 : effAt ops i = false := by simp [effAt, ho, he]
  simp only [wpCan, h1, Bool.false_eq_true, if_false]
  exact ⟨o, v, ho, hy, h⟩
theorem can_eff {t i : Nat} {o : Oper} {rest : List Nat} {a : Act} {w : World} {n : Nat} (hn : cnt T rest = n) (ho : ops[i]? = some o) (he : effB o.op = true) (hw : Region.wanted o (yielded ops a.tmps) = true)
    (h : ∀ K : Act → World → Prop, Shut (∀ a w, S n w → (S n w → wpCan P ops S Q T t rest a w) → K a w) → if Region.wanted o (yielded ops a.tmps) = true then Oper.wp P o a w K Q else K (a.put o.dst undef) w) :
    wpCan P ops S Q T t (i :: rest) a w := by
  subst hn
  have h1 : effAt ops i = true := by simp [effAt, ho, he]
  simp only [wpCan, h1, if_true]
  unfold wpOp
  simp only [ho, hw, if_true]
  have h2 := h (fun a' w' => ((i = t ∧ rest = []) ∨ S (cnt T rest) w') ∧ wpCan P ops S Q T t rest a' w') (fun a' w' hS hr => ⟨.inr hS, hr hS⟩)
  rw [if_pos hw] at h2
  exact .inl h2
theorem can_tail {i : Nat} {o : Oper} {a : Act} {w : World} (ho : ops[i]? = some o) (he : effB o.op = true) (hw : Region.wanted o (yielded ops a.tmps) = true)
    (h : ∀ K : Act → World → Prop, Shut (∀ a w, Q .normal a w → K a w) → if Region.wanted o (yielded ops a.tmps) = true then Oper.wp P o a w K Q else K (a.put o.dst undef) w) :
    wpCan P ops S Q T i [i] a w := by
  have h1 : effAt ops i = true := by simp [effAt, ho, he]
  simp only [wpCan, h1, if_true]
  unfold wpOp
  simp only [ho, hw, if_true]
  have h2 := h (fun a' w' => ((True ∧ True) ∨ S (cnt T []) w') ∧ Q .normal a' w') (fun a' w' hr => ⟨.inl ⟨trivial, trivial⟩, hr⟩)
  rw [if_pos hw] at h2
  exact .inl h2
theorem can_done {t : Nat} {a : Act} {w : World} (h : Q .normal a w) : wpCan P ops S Q T t [] a w := h
end
end Go.Proofs.Ytbfkjfgjeaofpaa.Can2
