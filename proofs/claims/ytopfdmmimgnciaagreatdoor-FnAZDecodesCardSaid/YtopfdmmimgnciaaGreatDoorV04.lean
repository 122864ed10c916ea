/-
  WALKS: the writer of bits: put. A REGION THAT DRAWS ITS ORDER, WALKED ONCE: its operations in one list (those that leave the world alone ahead of those that turn it); a condition S on the world gives what the loads read and is shown anew behind each operation that turns the world, but not behind the last one, for which all others wait. Besides, operations of a list X are taken as if they turned the world: one that reads what the region itself has made. Over any program. WALKS: the writer of bits: bytes as they are. GROUND: lists of numbers as values of type int. WALKS: the writer: width, azLatches, say.
-/
import Derived.Test.YtopfdmmimgnciaaGreatDoorV01
import Derived.Test.YtopfdmmimgnciaaGreatDoorV02
import Derived.OrdersHeld
import Derived.StillTail
import Derived.Tactics
import Derived.Deep.RegionHeld3
import Derived.Test.YtopfdmmimgnciaaGreatDoorV03
namespace Go.Proofs.YtopfdmmimgnciaaGreatDoor
open Go.RowKit

/-- Pointer p is a writer that has written bits and a text, in a mode. -/
structure WrAt (w : World) (p base : Nat) (bs : List Bool) (txt : ByteArray) (m : Nat) (n : Nat) : Prop where
  own : ∃ v, Blk w p 74 #[v, .string txt, .int .i64 m] ∧ w.ownsRow base 4 1 v n (bv bs)
  len : n = bs.length
  lo : p < base
theorem WrAt.up {w w' : World} {p base : Nat} {bs : List Bool} {txt : ByteArray} {m n : Nat} (h : WrAt w p base bs txt m n) (hb : Below w.heap.size w w') : WrAt w' p base bs txt m n := by
  obtain ⟨⟨v, h1, h2⟩, h3, h4⟩ := h
  exact ⟨⟨v, h1.up hb, own_up h2 hb⟩, h3, h4⟩
theorem own_less {w : World} {base B : Nat} {e : TypeId} {size n : Nat} {v : Value} {xs : List Value} (h : w.ownsRow base e size v n xs) (hB : B ≤ base) : w.ownsRow B e size v n xs := by
  obtain ⟨h1, h2 | ⟨g, cap, cur, hv, hb, r⟩⟩ := h
  · exact ⟨h1, .inl h2⟩
  · exact ⟨h1, .inr ⟨g, cap, cur, hv, by omega, r⟩⟩
theorem own_far {w : World} {base : Nat} {e : TypeId} {size n : Nat} {v : Value} {xs : List Value} (h : w.ownsRow base e size v n xs) {p : Addr} (hp : p.block < base) (u : Value) : (w.setCell p u).ownsRow base e size v n xs := by
  obtain ⟨h1, h2 | ⟨g, cap, cur, hv, hb, hg, r⟩⟩ := h
  · exact ⟨h1, .inl h2⟩
  · exact ⟨h1, .inr ⟨g, cap, cur, hv, hb, (Below.heap_setCell w p u g (by omega)).trans hg, r⟩⟩
theorem bv_app (a b : List Bool) : bv (a ++ b) = bv a ++ bv b := by simp [bv]
/-- What slices of other types read as stays. -/
def KeepT (w w' : World) : Prop := ∀ e v xs, e ≠ 4 → e ≠ 74 → RdT w e v xs → RdT w' e v xs
theorem KeepT.refl (w : World) : KeepT w w := fun _ _ _ _ _ h => h
theorem KeepT.trans {a b c : World} (h : KeepT a b) (k : KeepT b c) : KeepT a c := fun e v xs h1 h2 h3 => k e v xs h1 h2 (h e v xs h1 h2 h3)
theorem KeepT.below {a b : World} (h : Below a.heap.size a b) : KeepT a b := fun _ _ _ _ _ h3 => h3.up h
theorem KeepT.set {w : World} {p : Nat} {cs : Array Value} (h : Blk w p 74 cs) (i : Nat) (u : Value) : KeepT w (w.setCell ⟨p, i, none⟩ u) := fun _ _ _ _ h2 h3 => h3.far (p := ⟨p, i, none⟩) h (fun he => h2 he.symm) u
theorem own_type {w : World} {base : Nat} {e e' : TypeId} {size n : Nat} {v : Value} {xs : List Value} (h : w.ownsRow base e' size v n xs) (he : e ≠ e') : ∀ g, v.ownBlock = some g → ∃ cs t fr, w.heap[g]? = some (.cells cs t fr) ∧ t ≠ e := by
  obtain ⟨h1, ⟨rfl, _⟩ | ⟨g, cap, cur, rfl, hb, hg, r⟩⟩ := h
  · intro g hg; simp [Value.ownBlock] at hg
  · intro g' hg'
    simp only [Value.ownBlock, Option.some.injEq] at hg'
    subst hg'
    exact ⟨_, _, _, hg, fun h => he h.symm⟩
theorem KeepT.grown {w w' : World} {base size n : Nat} {v : Value} {xs : List Value} (h : w.ownsRow base 4 size v n xs) (hg : w.grownBy w' v.ownBlock) : KeepT w w' := fun _ _ _ h1 _ h3 => h3.grown hg (own_type h h1)
theorem putL_part (N many j : Nat) : (List.range (j + 1)).map (fun i => (N / 2 ^ (many - 1 - i)) % 2 == 1) = (List.range j).map (fun i => (N / 2 ^ (many - 1 - i)) % 2 == 1) ++ [(N / 2 ^ (many - 1 - j)) % 2 == 1] := by
  rw [List.range_succ, List.map_append]; rfl
theorem shr_and1 (N k : Nat) (h : N < 9223372036854775808) : (bits .and .i64 ((N : Int) / 2 ^ k) 1 == 1) = ((N / 2 ^ k) % 2 == 1) := by
  have e : (N : Int) / 2 ^ k = ((N / 2 ^ k : Nat) : Int) := by simp
  have hl : N / 2 ^ k < 9223372036854775808 := Nat.lt_of_le_of_lt (Nat.div_le_self _ _) h
  have := i64_and (N / 2 ^ k) 1 hl (by decide)
  rw [e, show (1 : Int) = ((1 : Nat) : Int) from rfl, this, Nat.and_one_is_mod]
  rw [Bool.eq_iff_iff]; simp; omega
set_option maxRecDepth 100000 in
set_option maxHeartbeats 2000000 in
theorem put_any (p base N many n : Nat) (bs : List Bool) (txt : ByteArray) (m B : Nat) (w : World) (h : WrAt w p base bs txt m n) (hN : N < 4294967296) (hm : many ≤ 20) (hn : n ≤ 100000) (hB : B ≤ p) (hbs : base ≤ w.heap.size) :
    Calls Tryz.prog 27 #[.pointer (some ⟨p, 0, none⟩), .int .i64 N, .int .i64 many] w fun e w' => e = .returned (.tuple #[]) ∧ WrAt w' p base (bs ++ putL N many) txt m (n + many) ∧ Below B w w' ∧ w.heap.size ≤ w'.heap.size ∧ KeepT w w' := by
  obtain ⟨i0, hi0, hz0, hz1, hz2⟩ := info_parts info_bool
  have HWR := Lib.hid h; clear h
  go_enter Tryz.func27, Tryz.ntmps27
  go_wp2_with fail
  go_loopw [6] (fun kv wr => ∃ (j : Nat), j ≤ many ∧ kv = .int .i64 ((many : Int) - 1 - j) ∧ Hid (WrAt wr p base (bs ++ (List.range j).map (fun i => (N / 2 ^ (many - 1 - i)) % 2 == 1)) txt m (n + j)) ∧ Hid (Below B w wr) ∧ Hid (w.heap.size ≤ wr.heap.size ∧ KeepT w wr)) (fun kv _ => (intOf kv + 1).toNat)
  case atStart => exact ⟨0, Nat.zero_le _, by simp, by simpa using HWR, Lib.hid (Below.refl _ _), Lib.hid ⟨Nat.le_refl _, KeepT.refl _⟩⟩
  case round =>
    clear HWR
    obtain ⟨j, hj, rfl, HWR, HB, HS⟩ := hrel
    by_cases hlt : j < many
    · obtain ⟨k, hk⟩ : ∃ k, k = many - 1 - j := ⟨_, rfl⟩
      have e1 : (many : Int) - 1 - (j : Int) = (k : Int) := by omega
      rw [e1]
      have hk2 : k ≤ 20 := by omega
      have HL : Hid ((List.range (j + 1)).map (fun i => (N / 2 ^ (many - 1 - i)) % 2 == 1) = (List.range j).map (fun i => (N / 2 ^ (many - 1 - i)) % 2 == 1) ++ [(N / 2 ^ k) % 2 == 1]) := Lib.hid (by rw [hk]; exact putL_part N many j)
      have HK := Lib.hid hk
      have ez : (k : Int) - 1 = (many : Int) - 1 - ((j + 1 : Nat) : Int) := by omega
      have HE := Lib.hid ez
      clear hk e1 ez
      obtain ⟨l2, hl2⟩ : ∃ l, l = (List.range (j + 1)).map (fun i => (N / 2 ^ (many - 1 - i)) % 2 == 1) := ⟨_, rfl⟩
      rw [← hl2] at HL
      have HL2 := Lib.hid hl2; clear hl2
      generalize (List.range j).map (fun i => (N / 2 ^ (many - 1 - i)) % 2 == 1) = l1 at *
      obtain ⟨bb, hbb⟩ : ∃ b, b = ((N / 2 ^ k) % 2 == 1) := ⟨_, rfl⟩
      have eb := shr_and1 N k (by omega)
      rw [← hbb] at eb HL
      clear hbb
      obtain ⟨v, h1, h2⟩ := HWR.out.own
      have hlen := HWR.out.len
      have HN := Lib.hid hlen
      have hlo := HWR.out.lo
      have HH1 := Lib.hid h1
      have HH2 := Lib.hid h2
      have c0 : wr.cell? ⟨p, 0, none⟩ = some v := by rw [h1.cell]; rfl
      have f0 := h1.frozen 0
      clear h1 h2 hlen HWR
      go_wp2_with (with_reducible refine stop_at (o := ⟨some 25, _, _, _, _, _⟩) ?_)
      refine Lib.hid ?_
      clear eb
      refine list_app_rd _ rfl _ _ 42 rfl base 4 i0 _ 1 Tryz.underlying42 hi0 hz0 hz1 hz2 rfl v (n + j) _ rfl (HH2.out.alloc _) _ _ [.bool bb] rfl (Rd.one rfl _ _) (fun u hu => by simp at hu; subst hu; rfl) (by simp only [List.length_singleton]; unfold maxLen; omega) (by simp only [List.length_singleton]; omega) (by have := HS.out.1; simp; omega) ?_
      intro v1 w3 ho1 hg1
      have ho2 : w3.ownsRow base 4 1 v1 (n + (j + 1)) (bv (bs ++ l2)) := by rw [HL.out, ← List.append_assoc, bv_app]; exact ho1
      obtain ⟨A1, n1, cap1, rfl⟩ : ∃ A n c, v1 = .slice A n c := by obtain ⟨A, c, h, _⟩ := RdT.of_own ho2; exact ⟨_, _, _, h⟩
      clear ho1
      have hB1 : Blk w3 p 74 #[v, .string txt, .int .i64 m] := Blk.grown (HH1.out.alloc _) hg1 (by
        rcases HH2.out.2 with ⟨rfl, _⟩ | ⟨g, cap, cur, rfl, hb', _⟩
        · simp [Value.ownBlock]
        · simp only [Value.ownBlock, ne_eq, Option.some.injEq]; omega)
      have hF1 := hB1.frozen 0
      have c1 : w3.cell? ⟨p, 0, none⟩ = some v := by rw [hB1.cell]; rfl
      have hBB : Below B w w3 := below_grown (HB.out.alloc (by have := HS.out.1; have := HH1.out.lt; omega) _) hg1 (own_less (HH2.out.alloc _) (by omega)) (by have := HS.out.1; have := HH1.out.lt; simp; omega)
      have hsz : w.heap.size ≤ w3.heap.size := Nat.le_trans HS.out.1 (Nat.le_trans (by simp) hg1.size)
      have HO := Lib.hid ho2
      have HB1 := Lib.hid hB1
      have hKT : KeepT w (w3.setCell ⟨p, 0, none⟩ (.slice A1 n1 cap1)) := ((HS.out.2.trans (KeepT.below (bal (brf wr) _))).trans (KeepT.grown (HH2.out.alloc _) hg1)).trans (KeepT.set hB1 0 _)
      have HW := Lib.hid (And.intro hBB (And.intro hsz hKT))
      clear ho2 hg1 hB1 hBB hsz hKT HH1 HH2 HB HS c0 f0
      go_wp2
      go_roundw
      case rel =>
        refine ⟨j + 1, by omega, by rw [HE.out], Lib.hid (by rw [← HL2.out]; exact ⟨⟨_, HB1.out.put 0 _, own_far HO.out (p := ⟨p, 0, none⟩) hlo _⟩, by have := HN.out; rw [HL.out]; simp only [List.length_append, List.length_singleton] at *; omega, hlo⟩), Lib.hid (HW.out.1.setCell (p := ⟨p, 0, none⟩) hB _), Lib.hid ⟨by simpa using HW.out.2.1, HW.out.2.2⟩⟩
      case measure => simp [intOf] <;> omega
    · obtain rfl : j = many := by omega
      go_wp2
      refine bodyPost_end (results_none rfl _ _ _) rfl ?_
      exact ⟨rfl, HWR.out, HB.out, HS.out.1, HS.out.2⟩
end Go.Proofs.YtopfdmmimgnciaaGreatDoor
namespace Go.Proofs.YtopfdmmimgnciaaGreatDoor.Can3
section
variable {P : Program} {ops : Array Oper} {Q : Exit → Act → World → Prop} {S : World → Prop} {X : List Nat}

/-- Does the operation turn the world (or may it)? -/
def effB : Op → Bool
  | .move _ | .assign _ | .pick .. | .load .. | .nilCheck _ | .binOp .. | .unOp .. | .convert .. | .makeInterface .. | .slice .. | .fieldAddr .. | .field .. | .indexAddr .. | .index .. | .extract .. | .typeAssert .. => false
  | .call { callee := .builtin .len, .. } | .call { callee := .builtin .cap, .. } | .call { callee := .builtin .min, .. } | .call { callee := .builtin .max, .. } => false
  | _ => true
def effAt (ops : Array Oper) (X : List Nat) (i : Nat) : Bool := X.contains i || ((ops[i]?).map fun o => effB o.op).getD true

/-- The walk: 'tail' is the operation for which all others wait. -/
def wpCan (P : Program) (ops : Array Oper) (X : List Nat) (S : World → Prop) (Q : Exit → Act → World → Prop) (tail : Nat) : List Nat → Act → World → Prop
  | [], a, w => Q .normal a w
  | i :: rest, a, w =>
    if effAt ops X i = true then wpOp P ops Q i (fun a' w' => (i = tail ∨ S w') ∧ wpCan P ops X S Q tail rest a' w') a w
    else ∃ o v, ops[i]? = some o ∧ YieldsIf P ops S o v a ∧ wpCan P ops X S Q tail rest (a.put o.dst v) w

/-! ### Which must come ahead of which -/
inductive Reach (ops : Array Oper) : Nat → Nat → Prop
  | one {i j : Nat} {o : Oper} (h : ops[i]? = some o) (e : Edge) (he : e ∈ o.after) (hb : Region.binds .any e = true) (hj : e.on = j) : Reach ops j i
  | more {i j k : Nat} {o : Oper} (h : ops[i]? = some o) (e : Edge) (he : e ∈ o.after) (hb : Region.binds .any e = true) (hj : e.on = k) (hr : Reach ops j k) : Reach ops j i
def fold (m : Array Nat) : List Edge → Nat → Nat
  | [], s => s
  | e :: es, s => fold m es (if Region.binds .any e then s ||| 2 ^ e.on ||| m.getD e.on 0 else s)
def mask (ops : Array Oper) : Nat → Array Nat
  | 0 => #[]
  | n + 1 => (mask ops n).push (match ops[n]? with | some o => fold (mask ops n) o.after.toList 0 | none => 0)
theorem fold_spec (m : Array Nat) (x : Nat) : ∀ (es : List Edge) (s : Nat), (fold m es s).testBit x = true → s.testBit x = true ∨ ∃ e ∈ es, Region.binds .any e = true ∧ (e.on = x ∨ (m.getD e.on 0).testBit x = true)
  | [], s, h => .inl h
  | e :: es, s, h => by
    rcases fold_spec m x es _ h with h1 | ⟨e', h1, h2, h3⟩
    · split at h1
      · rename_i hb
        simp only [Nat.testBit_or, Bool.or_eq_true] at h1
        rcases h1 with (h1 | h1) | h1
        · exact .inl h1
        · rw [Nat.testBit_two_pow] at h1
          exact .inr ⟨e, by simp, hb, .inl (by simpa using h1)⟩
        · exact .inr ⟨e, by simp, hb, .inr h1⟩
      · exact .inl h1
    · exact .inr ⟨e', List.mem_cons_of_mem _ h1, h2, h3⟩
theorem mask_size (ops : Array Oper) : ∀ n, (mask ops n).size = n
  | 0 => rfl
  | n + 1 => by unfold mask; rw [Array.size_push, mask_size ops n]
theorem mask_spec (ops : Array Oper) (x : Nat) : ∀ (n i : Nat), ((mask ops n).getD i 0).testBit x = true → Reach ops x i
  | 0, i, h => by simp [mask] at h
  | n + 1, i, h => by
    by_cases hi : i = n
    · subst hi
      unfold mask at h
      rw [Array.getD_eq_getD_getElem?, Array.getElem?_push, if_pos (mask_size ops i).symm] at h
      simp only [Option.getD_some] at h
      split at h
      · rename_i o ho
        rcases fold_spec _ x _ _ h with h1 | ⟨e, h1, h2, h3⟩
        · simp at h1
        · rcases h3 with h3 | h3
          · exact .one ho e (Array.mem_toList_iff.1 h1) h2 h3
          · exact .more ho e (Array.mem_toList_iff.1 h1) h2 rfl (mask_spec ops x i e.on h3)
      · simp at h
    · unfold mask at h
      rw [Array.getD_eq_getD_getElem?, Array.getElem?_push, if_neg (by rw [mask_size]; exact hi)] at h
      rw [← Array.getD_eq_getD_getElem?] at h
      exact mask_spec ops x n i h
theorem reach_listed {listed : Array Bool} (hc : ∀ j oj, ops[j]? = some oj → listed.getD j false = true → ∀ e ∈ oj.after, Region.binds .any e = true → listed.getD e.on false = true) :
    ∀ {x i : Nat}, Reach ops x i → (∀ o, ops[i]? = some o → ∀ e ∈ o.after, Region.binds .any e = true → listed.getD e.on false = true) → listed.getD x false = true := by
  intro x i h
  induction h with
  | one h e he hb hj => intro hi; subst hj; exact hi _ h e he hb
  | more h e he hb hj _ ih =>
    intro hi
    subst hj
    have h1 := hi _ h e he hb
    exact ih (fun o ho e' he' hb' => hc _ o ho h1 e' he' hb')

/-! ### What is asked of the list, by reckoning -/
def pairB (ops : Array Oper) (X : List Nat) (m : Array Nat) (tail x y : Nat) : Bool :=
  (m.getD y 0).testBit x || (!effAt ops X x && y != tail && match ops[x]?, ops[y]? with | some ox, some oy => ox.apart ops oy | _, _ => false)
def pairsB (ops : Array Oper) (X : List Nat) (m : Array Nat) (tail : Nat) : List Nat → Bool
  | [] => true
  | x :: r => (x != tail || r.isEmpty) && r.all (fun y => pairB ops X m tail x y) && pairsB ops X m tail r
def backB (ops : Array Oper) : Bool := (List.range ops.size).all fun i => match ops[i]? with | some o => o.after.all (fun e => !Region.binds .any e || decide (e.on < i)) | none => true
def canB (ops : Array Oper) (X : List Nat) (tail : Nat) (L : List Nat) : Bool :=
  Region.noSelect ops && backB ops && pairsB ops X (mask ops ops.size) tail L && decide L.Nodup && decide (L.length ≤ ops.size) && L.all (fun i => decide (i < ops.size)) && (List.range ops.size).all (fun i => L.contains i)

structure Inv (ops : Array Oper) (X : List Nat) (tail : Nat) (listed : Array Bool) (L : List Nat) : Prop where
  size : listed.size = ops.size
  closed : ∀ j oj, ops[j]? = some oj → listed.getD j false = true → ∀ e ∈ oj.after, Region.binds .any e = true → listed.getD e.on false = true
  iff : ∀ i, i < ops.size → (listed.getD i true = false ↔ i ∈ L)
  nodup : L.Nodup
  bound : ∀ i ∈ L, i < ops.size
  pairs : pairsB ops X (mask ops ops.size) tail L = true

theorem pairsB_split {m : Array Nat} {tail : Nat} : ∀ (L1 : List Nat) (i : Nat) (L2 : List Nat), pairsB ops X m tail (L1 ++ i :: L2) = true →
    (∀ x ∈ L1, pairB ops X m tail x i = true) ∧ (i = tail → L2 = []) ∧ pairsB ops X m tail (L1 ++ L2) = true
  | [], i, L2, h => by
    simp only [List.nil_append, pairsB, Bool.and_eq_true, Bool.or_eq_true, bne_iff_ne, ne_eq, List.isEmpty_iff] at h
    refine ⟨fun x hx => (by cases hx), fun hi => ?_, h.2⟩
    rcases h.1.1 with h1 | h1
    · exact absurd hi h1
    · exact h1
  | x :: L1, i, L2, h => by
    simp only [List.cons_append, pairsB, Bool.and_eq_true, Bool.or_eq_true, bne_iff_ne, ne_eq, List.isEmpty_iff, List.all_eq_true] at h
    obtain ⟨⟨h1, h2⟩, h3⟩ := h
    obtain ⟨g1, g2, g3⟩ := pairsB_split L1 i L2 h3
    refine ⟨fun y hy => ?_, g2, ?_⟩
    · rcases List.mem_cons.1 hy with rfl | hy
      · exact h2 i (by simp)
      · exact g1 y hy
    · simp only [List.cons_append, pairsB, Bool.and_eq_true, Bool.or_eq_true, bne_iff_ne, ne_eq, List.isEmpty_iff, List.all_eq_true]
      refine ⟨⟨?_, fun y hy => h2 y ?_⟩, g3⟩
      · rcases h1 with h1 | h1
        · exact .inl h1
        · simp at h1
      · simp only [List.mem_append, List.mem_cons] at hy ⊢
        rcases hy with hy | hy
        · exact .inl hy
        · exact .inr (.inr hy)

/-- An operation is moved to the front past those that leave the world alone. -/
theorem move_front {tail i : Nat} {oi : Oper} (hoi : ops[i]? = some oi) (hs : ∀ (j : Nat) (o : Oper) cs b, ops[j]? = some o → o.op ≠ .select cs b)
    (hQ : ∀ c (a : Act) (d : Option Tmp) v w, Q (.panic c) (a.put d v) w → Q (.panic c) a w) : ∀ (L1 L2 : List Nat) (a : Act) (w : World), S w →
    (∀ x ∈ L1, effAt ops X x = false ∧ ∃ ox, ops[x]? = some ox ∧ ox.apart ops oi = true) →
    wpCan P ops X S Q tail (L1 ++ i :: L2) a w → wpOp P ops Q i (fun a' w' => (i = tail ∨ S w') ∧ wpCan P ops X S Q tail (L1 ++ L2) a' w') a w
  | [], L2, a, w, hS, _, h => by
    simp only [List.nil_append, wpCan] at h ⊢
    split at h
    · exact h
    · obtain ⟨o, v, ho, hy, hr⟩ := h
      exact hy.wpOp ho hS ⟨.inr hS, hr⟩
  | x :: L1, L2, a, w, hS, hx, h => by
    obtain ⟨he, ox, hox, hap⟩ := hx x (List.mem_cons_self ..)
    simp only [List.cons_append, wpCan, he, Bool.false_eq_true, if_false] at h ⊢
    obtain ⟨o, v, ho, hy, hr⟩ := h
    obtain rfl : o = ox := Option.some.inj (ho.symm.trans hox)
    have h1 := move_front hoi hs hQ L1 L2 _ w hS (fun y hy => hx y (List.mem_cons_of_mem _ hy)) hr
    have h2 := wpOp_putIf (P := P) (Q := Q) (S := S) hoi hap (hs x o · · ho) (hs i oi · · hoi) (fun c a w => hQ c a _ v w) hy h1
    exact wpOp_mono (fun a' w' ⟨h3, h4, h5⟩ => ⟨h4, o, v, ho, h3, h5⟩) h2

theorem back_min (hb : backB ops = true) {listed : Array Bool} (hsz : listed.size = ops.size) : ∀ (n i : Nat), i < n → i < ops.size → listed.getD i true = false → ∃ j, j ∈ Region.ready .any ops listed := by
  intro n
  induction n with
  | zero => intro i hi; omega
  | succ n ih =>
    intro i hi hlt hl
    have ho : ops[i]? = some ops[i] := Array.getElem?_eq_getElem hlt
    by_cases hall : ∀ e ∈ (ops[i]).after, Region.binds .any e = true → listed.getD e.on false = true
    · exact ⟨i, mem_ready.2 ⟨hl, _, ho, hall⟩⟩
    · have hex : ∃ e, e ∈ (ops[i]).after ∧ Region.binds .any e = true ∧ listed.getD e.on false = false := by
        apply Classical.byContradiction
        intro hno
        exact hall fun e he hbd => by
          cases hv : listed.getD e.on false with
          | true => rfl
          | false => exact absurd ⟨e, he, hbd, hv⟩ hno
      obtain ⟨e, he, hbd, hf⟩ := hex
      have h1 := List.all_eq_true.1 hb i (List.mem_range.2 hlt)
      rw [ho] at h1
      simp only [Array.all_eq_true'] at h1
      have h2 := h1 e he
      simp only [hbd, Bool.not_true, Bool.false_or, decide_eq_true_eq] at h2
      exact ih e.on (by omega) (by omega) (getD_in (by omega) hf)

theorem any_of_can {tail : Nat} (hs : ∀ (j : Nat) (o : Oper) cs b, ops[j]? = some o → o.op ≠ .select cs b) (hb : backB ops = true)
    (hQ : ∀ c (a : Act) (d : Option Tmp) v w, Q (.panic c) (a.put d v) w → Q (.panic c) a w) : ∀ (fuel : Nat) (listed : Array Bool) (L : List Nat) (a : Act) (w : World),
    Inv ops X tail listed L → (L = [] ∨ S w) → L.length ≤ fuel → wpCan P ops X S Q tail L a w → wpAny P .any ops Q fuel listed a w := by
  have none_ready : ∀ (listed : Array Bool), Inv ops X tail listed [] → Region.ready .any ops listed = [] := by
    intro listed hI
    rcases hr : Region.ready .any ops listed with _ | ⟨j, r⟩
    · rfl
    · exfalso
      have hj : j ∈ Region.ready .any ops listed := by rw [hr]; simp
      obtain ⟨h1, o, ho, _⟩ := mem_ready.1 hj
      have h3 := (hI.iff j (Array.getElem?_eq_some_iff.1 ho).1).1 h1
      simp at h3
  intro fuel
  induction fuel with
  | zero =>
    intro listed L a w hI _ hL h
    have : L = [] := List.eq_nil_of_length_eq_zero (by omega)
    subst this
    exact ⟨none_ready listed hI, h⟩
  | succ fuel ih =>
    intro listed L a w hI hSw hL h
    refine ⟨fun hr => ?_, fun i hi => ?_⟩
    · rcases L with _ | ⟨x, r⟩
      · exact h
      · exfalso
        have hx : x < ops.size := hI.bound x (by simp)
        have hl := (hI.iff x hx).2 (by simp)
        obtain ⟨j, hj⟩ := back_min hb hI.size (x + 1) x (by omega) hx hl
        rw [hr] at hj
        cases hj
    · obtain ⟨hun, oi, hoi, hall⟩ := mem_ready.1 hi
      have hlt : i < ops.size := (Array.getElem?_eq_some_iff.1 hoi).1
      have hmem := (hI.iff i hlt).1 hun
      obtain ⟨L1, L2, rfl⟩ := List.append_of_mem hmem
      have hS : S w := by
        rcases hSw with h0 | h0
        · simp at h0
        · exact h0
      obtain ⟨hp1, hp2, hp3⟩ := pairsB_split L1 i L2 hI.pairs
      have hdis : i ∉ L1 ∧ i ∉ L2 := by
        have := hI.nodup
        rw [List.nodup_append] at this
        obtain ⟨_, h2, h3⟩ := this
        rw [List.nodup_cons] at h2
        exact ⟨fun h4 => h3 i h4 i (by simp) rfl, h2.1⟩
      have hx : ∀ x ∈ L1, effAt ops X x = false ∧ ∃ ox, ops[x]? = some ox ∧ ox.apart ops oi = true ∧ i ≠ tail := by
        intro x hx
        have h1 := hp1 x hx
        simp only [pairB, Bool.or_eq_true, Bool.and_eq_true, Bool.not_eq_true', bne_iff_ne, ne_eq] at h1
        rcases h1 with h1 | ⟨⟨h1, h2⟩, h3⟩
        · exfalso
          have h4 := reach_listed hI.closed (mask_spec ops x _ i h1) (fun o ho e he hbd => by
            obtain rfl : o = oi := Option.some.inj (ho.symm.trans hoi)
            exact hall e he hbd)
          have hxb := hI.bound x (List.mem_append_left _ hx)
          have h5 := (hI.iff x hxb).2 (List.mem_append_left _ hx)
          rw [getD_both h5] at h4
          cases h4
        · rw [hoi] at h3
          cases hox : ops[x]? with
          | none => rw [hox] at h3; cases h3
          | some ox => rw [hox] at h3; exact ⟨h1, ox, rfl, h3, h2⟩
      have h1 := move_front hoi hs hQ L1 L2 a w hS (fun x hx' => let ⟨h1, ox, h2, h3, _⟩ := hx x hx'; ⟨h1, ox, h2, h3⟩) h
      refine wpOp_mono (fun a' w' ⟨h2, h3⟩ => ?_) h1
      refine ih _ (L1 ++ L2) a' w' ⟨?_, ?_, ?_, ?_, ?_, hp3⟩ ?_ ?_ h3
      · simp [hI.size]
      · intro j oj hj hl e he hbd
        by_cases hij : i = j
        · subst hij
          obtain rfl : oj = oi := Option.some.inj (hj.symm.trans hoi)
          exact getD_set_true (hall e he hbd)
        · rw [getD_set_ne false hij] at hl
          exact getD_set_true (hI.closed j oj hj hl e he hbd)
      · intro j hj
        by_cases hij : i = j
        · subst hij
          refine ⟨fun h4 => ?_, fun h4 => ?_⟩
          · have h5 : i < listed.size := by rw [hI.size]; exact hj
            simp [Array.getD_eq_getD_getElem?, h5] at h4
          · rcases List.mem_append.1 h4 with h4 | h4
            · exact absurd h4 hdis.1
            · exact absurd h4 hdis.2
        · rw [getD_set_ne true hij, hI.iff j hj]
          simp only [List.mem_append, List.mem_cons]
          constructor
          · rintro (h4 | rfl | h4)
            · exact .inl h4
            · exact absurd rfl hij
            · exact .inr h4
          · rintro (h4 | h4)
            · exact .inl h4
            · exact .inr (.inr h4)
      · have := hI.nodup
        rw [List.nodup_append] at this ⊢
        obtain ⟨g1, g2, g3⟩ := this
        rw [List.nodup_cons] at g2
        exact ⟨g1, g2.2, fun x hx y hy => g3 x hx y (List.mem_cons_of_mem _ hy)⟩
      · intro j hj
        refine hI.bound j ?_
        simp only [List.mem_append, List.mem_cons] at hj ⊢
        rcases hj with hj | hj
        · exact .inl hj
        · exact .inr (.inr hj)
      · rcases h2 with h2 | h2
        · left
          have h4 := hp2 h2
          have h5 : L1 = [] := by
            rcases L1 with _ | ⟨x, r⟩
            · rfl
            · obtain ⟨_, _, _, _, h6⟩ := hx x (by simp)
              exact absurd h2 h6
          rw [h4, h5]; rfl
        · exact .inr h2
      · simp only [List.length_append, List.length_cons] at hL ⊢; omega

/-- A region that draws its order, by one walk of the list L. -/
theorem wp_region_can {id : Nat} {a : Act} {w : World} (X : List Nat) (S : World → Prop) (tail : Nat) (L : List Nat) (hm : P.follows .mixedOrders = true) (hB : canB ops X tail L = true)
    (hQ : ∀ c (a : Act) (d : Option Tmp) v w, Q (.panic c) (a.put d v) w → Q (.panic c) a w) (hS : S w.drew) (h : S w.drew → wpCan P ops X S Q tail L a w.drew) : (Code.region id ops true).wp P Q a w := by
  simp only [canB, Bool.and_eq_true, decide_eq_true_eq] at hB
  obtain ⟨⟨⟨⟨⟨⟨h1, h2⟩, h3⟩, h4⟩, hlen⟩, h5⟩, h6⟩ := hB
  have h5' : ∀ i ∈ L, i < ops.size := fun i hi => by simpa using List.all_eq_true.1 h5 i hi
  have h6' : ∀ i, i < ops.size → i ∈ L := fun i hi => by simpa using List.all_eq_true.1 h6 i (List.mem_range.2 hi)
  refine wp_region_any hm (any_of_can (tail := tail) (fun j o cs b => Region.noSelect_spec h1 j o cs b) h2 hQ ops.size _ L a w.drew ⟨by simp, ?_, ?_, h4, h5', h3⟩ (.inr hS) hlen (h hS))
  · intro j oj _ hl
    rw [getD_replicate_false] at hl
    cases hl
  · intro i hi
    simp [hi, h6' i hi]

/-! ### The steps of the walk -/
theorem can_pure {tail i : Nat} {o : Oper} {v : Value} {rest : List Nat} {a : Act} {w : World} (hx : X.contains i = false) (ho : ops[i]? = some o) (he : effB o.op = false) (hy : YieldsIf P ops S o v a)
    (h : wpCan P ops X S Q tail rest (a.put o.dst v) w) : wpCan P ops X S Q tail (i :: rest) a w := by
  have h1 : effAt ops X i = false := by rw [effAt, hx]; simp [ho, he]
  simp only [wpCan, h1, Bool.false_eq_true, if_false]
  exact ⟨o, v, ho, hy, h⟩
theorem can_eff {tail i : Nat} {o : Oper} {rest : List Nat} {a : Act} {w : World} (ho : ops[i]? = some o) (he : (X.contains i || effB o.op) = true) (hw : Region.wanted o (yielded ops a.tmps) = true)
    (h : ∀ K : Act → World → Prop, Shut (∀ a w, S w → (S w → wpCan P ops X S Q tail rest a w) → K a w) → if Region.wanted o (yielded ops a.tmps) = true then Oper.wp P o a w K Q else K (a.put o.dst undef) w) :
    wpCan P ops X S Q tail (i :: rest) a w := by
  have h1 : effAt ops X i = true := by rw [effAt]; simpa [ho] using he
  simp only [wpCan, h1, if_true]
  unfold wpOp
  simp only [ho, hw, if_true]
  have h2 := h (fun a' w' => (i = tail ∨ S w') ∧ wpCan P ops X S Q tail rest a' w') (fun a' w' hS hr => ⟨.inr hS, hr hS⟩)
  rw [if_pos hw] at h2
  exact .inl h2
theorem can_tail {i : Nat} {o : Oper} {a : Act} {w : World} (ho : ops[i]? = some o) (he : (X.contains i || effB o.op) = true) (hw : Region.wanted o (yielded ops a.tmps) = true)
    (h : ∀ K : Act → World → Prop, Shut (∀ a w, Q .normal a w → K a w) → if Region.wanted o (yielded ops a.tmps) = true then Oper.wp P o a w K Q else K (a.put o.dst undef) w) :
    wpCan P ops X S Q i [i] a w := by
  have h1 : effAt ops X i = true := by rw [effAt]; simpa [ho] using he
  simp only [wpCan, h1, if_true]
  unfold wpOp
  simp only [ho, hw, if_true]
  have h2 := h (fun a' w' => (True ∨ S w') ∧ Q .normal a' w') (fun a' w' hr => ⟨.inl trivial, hr⟩)
  rw [if_pos hw] at h2
  exact .inl h2
theorem can_done {tail : Nat} {a : Act} {w : World} (h : Q .normal a w) : wpCan P ops X S Q tail [] a w := h
end
end Go.Proofs.YtopfdmmimgnciaaGreatDoor.Can3
namespace Go.Proofs.YtopfdmmimgnciaaGreatDoor
open Go.RowKit

def low7 (l : List UInt8) : List UInt8 := l.map fun b => UInt8.ofNat (b.toNat % 128)
theorem low7_len (l : List UInt8) : (low7 l).length = l.length := by simp [low7]
theorem low7_snoc (l : List UInt8) (b : UInt8) : low7 (l ++ [b]) = low7 l ++ [UInt8.ofNat (b.toNat % 128)] := by simp [low7]
theorem byteBits_snoc (l : List UInt8) (b : UInt8) : byteBits (l ++ [b]) = byteBits l ++ putL b.toNat 8 := by simp [byteBits]
theorem bl_at (l : List UInt8) (i : Nat) (h : i < l.length) : (bl l)[i]? = some (.int .u8 (l[i].toNat : Int)) := by simp [bl, h]
theorem conv_one (P : Program) (src e dst : TypeId) (hs : P.underlying src = some (.slice e)) (he : P.underlying e = some (.int .u8)) (hd : P.underlying dst = some .string) (H y : Nat) (hy : y < 256) (w : World) (h : w.cell? ⟨H, 0, none⟩ = some (.int .u8 (y : Int))) :
    (convert src dst (.slice (some ⟨H, 0, none⟩) 1 1)).run P w = .ok (.string (ofL [UInt8.ofNat y])) w := by
  refine conv_str w (H + 1) src e dst hs he hd _ _ ⟨_, 1, ?_, ?_, by decide, fun _ => ⟨H, 0, rfl, by omega, fun j u hu => ?_⟩⟩
  · rw [bytesOf_len, ofL_size]; rfl
  · rw [bytesOf_len, ofL_size]; simp
  · rw [bytesOf_ofL] at hu
    have hj : j = 0 := by have := (List.getElem?_eq_some_iff.1 hu).1; rw [bl_len] at this; simp at this; omega
    subst hj
    rw [bl_at _ 0 (by simp)] at hu
    injection hu with hu
    rw [← hu, Nat.zero_add, h]
    congr 2
    show (y : Int) = ((UInt8.ofNat y).toNat : Int)
    simp; omega
theorem wr_text {w w3 : World} {p base B n m : Nat} {bs : List Bool} {tx tx' : ByteArray} {v3 : Value} (hb : Blk w3 p 74 #[v3, .string tx, .int .i64 m]) (ho : w3.ownsRow base 4 1 v3 n (bv bs)) (hl : n = bs.length) (hlo : p < base)
    (h1 : Below B w w3) (h2 : w.heap.size ≤ w3.heap.size) (h3 : KeepT w w3) (hB : B ≤ p) (o : Obj) :
    WrAt ((w3.setCell ⟨p, 1, none⟩ (.string tx')).alloc o).drew p base bs tx' m n ∧ Below B w ((w3.setCell ⟨p, 1, none⟩ (.string tx')).alloc o).drew ∧ w.heap.size ≤ ((w3.setCell ⟨p, 1, none⟩ (.string tx')).alloc o).drew.heap.size ∧ KeepT w ((w3.setCell ⟨p, 1, none⟩ (.string tx')).alloc o).drew := by
  have hs : (w3.setCell ⟨p, 1, none⟩ (.string tx')).heap.size = w3.heap.size := by simp
  have hp := hb.lt
  have hu : Below (w3.setCell ⟨p, 1, none⟩ (.string tx')).heap.size (w3.setCell ⟨p, 1, none⟩ (.string tx')) ((w3.setCell ⟨p, 1, none⟩ (.string tx')).alloc o).drew := bdr (bal (brf _) _)
  refine ⟨⟨⟨v3, (hb.put 1 _).up hu, own_up (own_far ho (p := ⟨p, 1, none⟩) hlo _) hu⟩, hl, hlo⟩, ?_, ?_, ?_⟩
  · exact ((h1.setCell (p := ⟨p, 1, none⟩) hB _).alloc (by rw [hs]; omega) _).drew
  · have := hu.size; omega
  · exact (h3.trans (KeepT.set hb 1 _)).trans (KeepT.below hu)
end Go.Proofs.YtopfdmmimgnciaaGreatDoor
namespace Go.Proofs.YtopfdmmimgnciaaGreatDoor
open Go.RowKit

def nvl (l : List Nat) : List Value := l.map fun n : Nat => Value.int .i64 (n : Int)
theorem nvl_len (l : List Nat) : (nvl l).length = l.length := by simp [nvl]
theorem nvl_at (l : List Nat) (i : Nat) (h : i < l.length) : (nvl l)[i]? = some (.int .i64 ((l[i] : Nat) : Int)) := by simp [nvl, h]
theorem nvl_getD (l : List Nat) (i : Nat) (h : i < l.length) : (nvl l).toArray[i]? = some (.int .i64 ((l.getD i 0 : Nat) : Int)) := by
  rw [List.getElem?_toArray, nvl_at l i h, List.getD, List.getElem?_eq_getElem h]; rfl
theorem nvl_set (l : List Nat) (i v : Nat) : (nvl l).toArray.setIfInBounds i (.int .i64 (v : Int)) = (nvl (l.set i v)).toArray := by simp [nvl, List.map_set]
theorem nvl_rep (n : Nat) : rep n (.int .i64 0) = (nvl (List.replicate n 0)).toArray := by simp [rep, nvl]
theorem infol_int : (Tryz.prog.info? 3).map (fun i => (i.zero, i.size, i.bytes)) = some (some (.int .i64 0), 1, 8) := by kernel_rfl
theorem mkl_ints (n : Nat) (W : World) (hn : n ≤ 65536) : (Instr.makeSlice 25 (.int .i64 (n : Int)) (.int .i64 (n : Int))).run Tryz.prog W =
    .ok (.slice (some ⟨W.heap.size, 0, none⟩) n n) (W.alloc (.cells (nvl (List.replicate n 0)).toArray 3)) := by
  have h := run_mk (P := Tryz.prog) 25 3 (.int .i64 0) 8 Tryz.underlying25 infol_int rfl n (by omega) (by omega) W
  rw [nvl_rep] at h
  exact h
end Go.Proofs.YtopfdmmimgnciaaGreatDoor
namespace Go.Proofs.YtopfdmmimgnciaaGreatDoor
open Go.RowKit

theorem width_any (p m : Nat) (w : World) (hm : m < 5) (h : w.cell? ⟨p, 2, none⟩ = some (.int .i64 m)) : Calls Tryz.prog 33 #[.pointer (some ⟨p, 0, none⟩)] w fun e w' => e = .returned (.int .i64 (sizeT (rm m) : Nat)) ∧ w' = w := by
  have h5 : m = 0 ∨ m = 1 ∨ m = 2 ∨ m = 3 ∨ m = 4 := by omega
  rcases h5 with rfl | rfl | rfl | rfl | rfl <;>
    (go_enter Tryz.func33, Tryz.ntmps33
     go_wp2
     go_ret
     exact ⟨rfl, rfl⟩)
set_option maxRecDepth 100000 in
theorem latches_any (m : Nat) (w : World) (hm : m < 5) : Calls Tryz.prog 32 #[.int .i64 m] w fun e w' => ∃ g1 g2, e = .returned (.tuple #[.slice (some ⟨g1, 0, none⟩) (latN m).1.length (latN m).1.length, .slice (some ⟨g2, 0, none⟩) (latN m).1.length (latN m).1.length]) ∧
    Blk w' g1 3 (nvl (latN m).1).toArray ∧ Blk w' g2 3 (nvl (latN m).2).toArray ∧ Below w.heap.size w w' := by
  have h5 : m = 0 ∨ m = 1 ∨ m = 2 ∨ m = 3 ∨ m = 4 := by omega
  rcases h5 with rfl | rfl | rfl | rfl | rfl
  · go_enter Tryz.func32, Tryz.ntmps32
    go_wp2
    go_ret2
    exact ⟨_, _, rfl, (Blk.fresh w 3 (nvl (latN 0).1).toArray).alloc _, Blk.fresh' (by simp), bal (bal (brf w) _) _⟩
  · go_enter Tryz.func32, Tryz.ntmps32
    go_wp2
    go_ret2
    exact ⟨_, _, rfl, (Blk.fresh w 3 (nvl (latN 1).1).toArray).alloc _, Blk.fresh' (by simp), bal (bal (brf w) _) _⟩
  · go_enter Tryz.func32, Tryz.ntmps32
    go_wp2
    go_ret2
    exact ⟨_, _, rfl, (Blk.fresh w 3 (nvl (latN 2).1).toArray).alloc _, Blk.fresh' (by simp), bal (bal (brf w) _) _⟩
  · go_enter Tryz.func32, Tryz.ntmps32
    go_wp2
    go_ret2
    exact ⟨_, _, rfl, (Blk.fresh w 3 (nvl (latN 3).1).toArray).alloc _, Blk.fresh' (by simp), bal (bal (brf w) _) _⟩
  · go_enter Tryz.func32, Tryz.ntmps32
    go_wp2
    go_ret2
    exact ⟨_, _, rfl, (Blk.fresh w 3 (nvl (latN 4).1).toArray).alloc _, Blk.fresh' (by simp), bal (bal (brf w) _) _⟩
theorem tab_ne : ∀ m, m < 5 → ∀ k, k < 32 → k < (wtab m).length → tabS (rm m) k ≠ [] ∧ (wtab m).getD k [] = (if offS (tabS (rm m) k) then [] else tabS (rm m) k) := by decide +kernel
theorem wtab_le : ∀ m, m < 5 → (wtab m).length ≤ 32 ∧ 16 ≤ (wtab m).length := by decide
theorem find_lt (l : List (List UInt8)) (hl : 0 < l.length) : ∀ f k, k < l.length → findC l f k < l.length
  | 0, _, h => h
  | f + 1, k, h => by
    unfold findC
    split
    · exact find_lt l hl f _ (Nat.mod_lt _ hl)
    · exact h
theorem say_at (m n : Nat) (hm : m < 5) : sayC m n < (wtab m).length ∧ (wtab m).getD (sayC m n) [] = tabS (rm m) (sayC m n) ∧ tabS (rm m) (sayC m n) ≠ [] := by
  obtain ⟨l1, l2⟩ := wtab_le m hm
  have h0 : n % (wtab m).length < (wtab m).length := Nat.mod_lt _ (by omega)
  have hC : sayC m n < (wtab m).length := find_lt _ (by omega) _ _ h0
  obtain ⟨_, h2⟩ := find_ok m hm (n % (wtab m).length) (by omega) h0
  obtain ⟨h3, h4⟩ := tab_ne m hm (sayC m n) (by omega) hC
  rw [show offS (tabS (rm m) (sayC m n)) = false from h2] at h4
  exact ⟨hC, h4, h3⟩
theorem tab_short : ∀ m, m < 5 → ∀ k, k < 32 → (tabS (rm m) k).length ≤ 7 := by decide +kernel
set_option maxRecDepth 100000 in
set_option maxHeartbeats 2000000 in
theorem say_any (p base n m many md N B : Nat) (bs : List Bool) (tx : List UInt8) (w : World) (hm : m < 5) (h : WrAt w p base bs (ofL tx) md n) (hN : N < 256) (hmany : many ≤ 20) (hn : n ≤ 90000) (htx : tx.length ≤ 90000) (hB : B ≤ p) (hbs : base ≤ w.heap.size) :
    Calls Tryz.prog 34 #[.pointer (some ⟨p, 0, none⟩), .int .i64 m, .int .i64 N, .int .i64 many] w fun e w' => e = .returned (.tuple #[]) ∧ WrAt w' p base (bs ++ putL (sayC m N) many) (ofL (tx ++ tabS (rm m) (sayC m N))) md (n + many) ∧ Below B w w' ∧ w.heap.size ≤ w'.heap.size ∧ KeepT w w' := by
  have hTB := fun wq => azTable_any m hm wq
  obtain ⟨l1, l2⟩ := wtab_le m hm
  obtain ⟨hC1, hC2, hC3⟩ := say_at m N hm
  have hfd : findC (wtab m) 32 (N % (wtab m).length) = sayC m N := rfl
  have htl : (tabS (rm m) (sayC m N)).length ≤ 7 := tab_short m hm _ (by omega)
  generalize sayC m N = C at *
  generalize tabS (rm m) C = S at *
  generalize wtab m = l at *
  obtain ⟨K, hK⟩ : ∃ K, K = l.length := ⟨_, rfl⟩
  have HW := Lib.hid h
  have HC2 := Lib.hid hC2
  have HC3 := Lib.hid hC3
  have HFD := Lib.hid hfd
  clear h hC2 hC3 hfd
  go_enter Tryz.func34, Tryz.ntmps34
  go_wp2_with fail
  refine (hTB _).mono ?_
  rintro e w1 ⟨v, rfl, hv, hb1⟩
  have HB1 := Lib.hid hb1
  have HV := Lib.hid hv
  obtain ⟨A, cap, rfl, k1, k2, k3⟩ := hv
  rw [sv_len, ← hK] at k1 k3
  rw [sv_len, ← hK] at HV
  rw [sv_len]
  obtain ⟨b, o, cs, fr, rfl, hh, hc⟩ := k3 (by omega)
  unfold maxLen at k2
  have HCE : Hid (∀ i (hi : i < l.length), w1.cell? ⟨b, o + i, none⟩ = some (.string (ofL l[i]))) := Lib.hid (fun i hi => by
    have h9 := hc i _ (sv_atL l i hi)
    rw [World.cell?, hh]
    exact h9)
  clear hc hh k3 hTB hb1
  rw [← hK] at HFD l1 l2 hC1 ⊢
  have HK := Lib.hid hK
  have e1 : Int.tmod (N : Int) (K : Int) = ((N % K : Nat) : Int) := by rw [Int.tmod_eq_emod_of_nonneg (by omega)]; rfl
  have hk0 : N % K < K := Nat.mod_lt _ (by omega)
  obtain ⟨k0, hk0e⟩ : ∃ k, k = N % K := ⟨_, rfl⟩
  rw [← hk0e] at e1 hk0 HFD
  have nK : ¬ ((K : Int) = 0) := by omega
  clear hK hk0e
  go_wp2_with fail
  clear e1 nK
  go_loop [9] (fun kv => ∃ (k : Nat), k < K ∧ kv = .int .i64 (k : Int) ∧ Hid (∃ f, findC l f k = C)) (fun kv => if (intOf kv).toNat ≤ C then C - (intOf kv).toNat else C + K - (intOf kv).toNat)
  case atStart => exact ⟨k0, hk0, rfl, Lib.hid ⟨32, HFD.out⟩⟩
  case round =>
    clear HFD hk0
    obtain ⟨k, hk, rfl, HF⟩ := hrel
    have hkl : k < l.length := by rw [← HK.out]; exact hk
    have cK := HCE.out k hkl
    have hgd : l.getD k [] = l[k] := by rw [List.getD, List.getElem?_eq_getElem hkl]; rfl
    by_cases hek : l[k] = []
    · have hem : (ofL l[k]).toList.isEmpty = true := by rw [Lib.toList_data, ofL_data, hek]; rfl
      have hkC : k ≠ C := fun he => by
        have := HC2.out
        rw [← he, hgd, hek] at this
        exact HC3.out this.symm
      obtain ⟨k2, hk2e⟩ : ∃ q, q = (k + 1) % K := ⟨_, rfl⟩
      have HF2 : Hid (∃ f, findC l f k2 = C) := Lib.hid (by
        obtain ⟨f, hf⟩ := HF.out
        cases f with
        | zero => exact absurd hf hkC
        | succ f =>
          unfold findC at hf
          rw [hgd, hek, if_pos rfl, ← HK.out, ← hk2e] at hf
          exact ⟨f, hf⟩)
      have e1 : Int.tmod ((k : Int) + 1) (K : Int) = (k2 : Int) := by rw [Int.tmod_eq_emod_of_nonneg (by omega), hk2e]; rfl
      have nK : ¬ ((K : Int) = 0) := by omega
      have hk2 : k2 < K := by rw [hk2e]; exact Nat.mod_lt _ (by omega)
      have hor : (k + 1 < K ∧ k2 = k + 1) ∨ (k + 1 = K ∧ k2 = 0) := by
        rcases Nat.lt_or_ge (k + 1) K with h | h
        · exact .inl ⟨h, by rw [hk2e, Nat.mod_eq_of_lt h]⟩
        · have : k + 1 = K := by omega
          exact .inr ⟨this, by rw [hk2e, this, Nat.mod_self]⟩
      have HOR := Lib.hid hor
      clear hk2e HF hgd hek hor
      go_wp2_with fail
      go_round
      case rel => exact ⟨k2, hk2, rfl, HF2⟩
      case measure =>
        have := HOR.out
        simp only [intOf, Int.toNat_natCast]
        by_cases q1 : k ≤ C <;> by_cases q2 : k2 ≤ C <;> simp only [q1, q2, if_true, if_false] <;> omega
    · have hem : (ofL l[k]).toList.isEmpty = false := by
        rw [Lib.toList_data, ofL_data]
        cases hl : l[k] with
        | nil => exact absurd hl hek
        | cons a r => rfl
      have hkC : k = C := by
        obtain ⟨f, hf⟩ := HF.out
        cases f with
        | zero => exact hf
        | succ f =>
          unfold findC at hf
          rw [hgd, if_neg hek] at hf
          exact hf
      subst hkC
      have hS : l[k] = S := by rw [← hgd]; exact HC2.out
      rw [hS] at cK hem
      clear HF hgd hek hS
      go_wp2_with fail
      refine (put_any p base k many n bs (ofL tx) md B w1 (HW.out.up HB1.out) (by omega) hmany (by omega) hB (Nat.le_trans hbs HB1.out.size)).mono ?_
      rintro e w3 ⟨rfl, hw3, hb3, hs3, hk3⟩
      have hV := hk3 _ _ _ (by decide) (by decide) HV.out
      have cS3 : w3.cell? ⟨b, o + k, none⟩ = some (.string (ofL S)) := by
        obtain ⟨A9, cap9, he9, -, -, h9⟩ := hV
        rw [sv_len, ← HK.out] at he9 h9
        obtain ⟨b', o', cs', fr', hA, hh', hc'⟩ := h9 (by omega)
        rw [hA] at he9
        injection he9 with q1 q2 q3
        injection q1 with q1
        injection q1 with q1 q4 q5
        subst q1; subst q4
        have h8 := hc' k _ (sv_atL l k hkl)
        rw [World.cell?, hh']
        have hgd : l[k] = S := by
          have := HC2.out
          rw [List.getD, List.getElem?_eq_getElem hkl] at this
          exact this
        rw [hgd] at h8
        exact h8
      obtain ⟨v3, hb4, ho4⟩ := hw3.own
      have cT3 : w3.cell? ⟨p, 1, none⟩ = some (.string (ofL tx)) := by rw [hb4.cell]; rfl
      have fT3 := hb4.frozen 1
      have hsz : ¬ 9223372036854775807 < (ofL tx).size + (ofL S).size := by rw [ofL_size, ofL_size]; omega
      have HB4 := Lib.hid (And.intro hb4 (And.intro ho4 hw3.len))
      have hlo := hw3.lo
      have HK3 := Lib.hid (And.intro ((HB1.out.mono (Nat.le_trans hB (Nat.le_of_lt (HW.out.own.elim fun _ h => h.1.lt)))).trans hb3) (And.intro (Nat.le_trans HB1.out.size hs3) ((KeepT.below HB1.out).trans hk3)))
      clear hV hw3 hb3 hs3 hk3 hb4 ho4 hem cK
      go_wp2_with fail
      refine Can.wp_region_can (fun w' => w'.cell? ⟨p, 1, none⟩ = some (.string (ofL tx)) ∧ w'.cell? ⟨b, o + k, none⟩ = some (.string (ofL S)) ∧ w'.frozen? ⟨p, 1, none⟩ = false) 12 [0, 1, 2, 3, 4, 5, 6, 7, 8, 9, 10, 11, 12] (by kernel_rfl) (by kernel_rfl) (fun _ _ d _ _ h => by cases d <;> exact h) ⟨cT3, cS3, fT3⟩ (fun hHeld => ?_)
      repeat (refine Can.can_pure (v := ?_) rfl rfl (Or.inl ⟨by rfl, ?_⟩) ?_; rotate_left; (focus ((intro w hSw); (try dsimp only at hSw); go_simp; (try with_reducible rfl))); (try simp only [Act.put, List.getElem_toArray, List.getElem_cons_succ, List.getElem_cons_zero, List.setIfInBounds_toArray, List.set_cons_zero, List.set_cons_succ]))
      have f1 := hHeld.2.2
      have c3 := hHeld.1
      refine Can.can_tail rfl rfl (by rfl) (fun K hK => ?_)
      go_simp
      refine hK.out _ _ ?_
      clear hK K
      clear hHeld f1 c3 cT3 cS3 fT3 hsz
      go_wp2
      refine bodyPost_end (results_none rfl _ _ _) rfl ?_
      obtain ⟨hb4, ho4, hl4⟩ := HB4.out
      obtain ⟨h1, h2, h3⟩ := HK3.out
      rw [ofL_append]
      exact ⟨rfl, ⟨⟨v3, (hb4.put 1 _).drew, own_up (own_far ho4 (p := ⟨p, 1, none⟩) hlo _) (bdr (brf _))⟩, hl4, hlo⟩, (h1.setCell (p := ⟨p, 1, none⟩) hB _).drew, by simpa using h2, (h3.trans (KeepT.set hb4 1 _)).trans (KeepT.below (bdr (brf _)))⟩
end Go.Proofs.YtopfdmmimgnciaaGreatDoor
