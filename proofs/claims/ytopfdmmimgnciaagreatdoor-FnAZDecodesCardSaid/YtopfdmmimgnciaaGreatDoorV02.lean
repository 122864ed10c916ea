/-
  GROUND: strings by lists of bytes; slices with room made; bytes that are turned into a string. WALKS: strings.HasPrefix. GROUND: what an argument of bools reads as. A REGION THAT DRAWS ITS ORDER, WALKED ONCE: its operations in one list (those that leave the world alone ahead of those that turn it); a condition S on the world gives what the loads read and is shown anew behind each operation that turns the world, but not behind the last one, for which all others wait. Over any program. GROUND: what a slice reads as, in a block below a bound. GROUND: rows of bools ([][]bool): what they read as. GROUND: rows of bools that are made and filled. WALKS: spec.BIRows.
-/
import Derived.Test.YtopfdmmimgnciaaGreatDoorV01
import Derived.Lib.SlBytesRow
import Derived.Lib.BufferRead
import Derived.Deep.Grids
import Derived.OrdersHeld
import Derived.StillTail
import Derived.Tactics
import Derived.Deep.RegionHeld3
import Derived.Deep.LoopGhost
namespace Go.Proofs.YtopfdmmimgnciaaGreatDoor
open Go.RowKit

def ofL (l : List UInt8) : ByteArray := ⟨l.toArray⟩
theorem ofL_data (l : List UInt8) : (ofL l).data.toList = l := by simp [ofL]
theorem ofL_size (l : List UInt8) : (ofL l).size = l.length := by simp [ofL, ByteArray.size]
theorem ofL_append (a b : List UInt8) : ofL a ++ ofL b = ofL (a ++ b) := by
  apply ByteArray.ext
  simp [ofL]
theorem conv_str {P : Program} (w : World) (B : Nat) (src e dst : TypeId) (hs : P.underlying src = some (.slice e)) (he : P.underlying e = some (.int .u8)) (hd : P.underlying dst = some .string) (v : Value) (s : ByteArray) (h : Rd w B v (bytesOf s)) :
    (convert src dst v).run P w = .ok (.string s) w := by
  obtain ⟨A, cap, rfl, h1, h2, h3⟩ := h
  rw [bytesOf_len] at *
  rcases A with _ | ad
  · have h0 : s.size = 0 := by
      rcases Nat.eq_zero_or_pos s.size with h | h
      · exact h
      · obtain ⟨b, o, he, _⟩ := h3 h; cases he
    rw [h0, Lib.run_convert_nil_bytes w src dst e cap hs he hd]
    congr 2
    apply ByteArray.ext
    have : s.data.size = 0 := h0
    exact (Array.eq_empty_of_size_eq_zero this).symm
  · rcases Nat.eq_zero_or_pos s.size with h | h
    · have hs0 : s = ⟨#[]⟩ := by
        apply ByteArray.ext
        have : s.data.size = 0 := h
        exact Array.eq_empty_of_size_eq_zero this
      rw [h, run_convert_bytes_string w src dst e (some ad) 0 cap hs he hd, hs0]
      simp [Conv.bytesToString, loadCells]
      rfl
    · obtain ⟨b, o, he2, hb, hc⟩ := h3 h
      injection he2 with he2
      subst he2
      exact Lib.run_convert_whole w src e dst hs he hd b o s (fun i hi => hc i _ (bytesOf_at s i hi)) cap
theorem run_mk0 {P : Program} (t e : TypeId) (i : TypeInfo) (z : Value) (bytes : Nat) (ht : P.underlying t = some (.slice e)) (hi : P.info? e = some i) (hz : i.zero = some z) (hs : i.size = 1) (hb : i.bytes = bytes) (hz1 : z.cells = #[z])
    (n : Nat) (hbytes : bytes * n ≤ 281474976710656) (h63 : n ≤ 9223372036854775807) (w : World) :
    (Instr.makeSlice t (.int .i64 0) (.int .i64 (n : Int))).run P w = .ok (.slice (some ⟨w.heap.size, 0, none⟩) 0 n) (w.alloc (.cells (rep n z) e)) := by
  have hb' : (i.bytes : Int) * (n : Int) ≤ 281474976710656 := by
    have h : ((i.bytes * n : Nat) : Int) ≤ 281474976710656 := by rw [hb]; omega
    rwa [Int.natCast_mul] at h
  have h := run_make (P := P) w t e i z ht hi hz .i64 .i64 0 (n : Int) (Int.le_refl _) (by omega) hb' (by omega)
  have h2 : madeCells z.cells (n * 1) = rep n z := by
    rw [hz1]
    unfold rep
    apply Array.ext_getElem?
    intro j
    simp only [madeCells]
    by_cases hj : j < n
    · simp [hj, Nat.mod_one]
    · simp [hj]
  simp only [Int.toNat_natCast, hs, h2] at h
  exact h
theorem own_made {w : World} {g base n : Nat} {e : TypeId} {z : Value} (h : Blk w g e (rep n z)) (hb : base ≤ g) (hn : n ≤ maxLen) : w.ownsRow base e 1 (.slice (some ⟨g, 0, none⟩) 0 n) 0 [] :=
  ⟨rfl, .inr ⟨g, n, _, rfl, hb, h, Nat.zero_le _, hn, by simp [rep], rfl⟩⟩
/-- Bytes as values. -/
def bl (l : List UInt8) : List Value := l.map fun b => Value.int .u8 b.toNat
theorem bl_of (s : ByteArray) : bytesOf s = bl s.data.toList := rfl
theorem bytesOf_ofL (l : List UInt8) : bytesOf (ofL l) = bl l := by rw [bl_of, ofL_data]
theorem bl_len (l : List UInt8) : (bl l).length = l.length := by simp [bl]
theorem bl_app (a b : List UInt8) : bl (a ++ b) = bl a ++ bl b := by simp [bl]
theorem bl_one (l : List UInt8) : ∀ u ∈ bl l, u.oneCell' = true := fun u hu => by
  simp only [bl, List.mem_map] at hu
  obtain ⟨x, _, rfl⟩ := hu
  rfl
end Go.Proofs.YtopfdmmimgnciaaGreatDoor
namespace Go.Proofs.YtopfdmmimgnciaaGreatDoor
open Go.RowKit

theorem prefix_eq (x p : ByteArray) (_h : p.size ≤ x.size) : ((x.extract 0 p.size).toList == p.toList) = p.data.toList.isPrefixOf x.data.toList := by
  have e : (x.extract 0 p.size).data.toList = x.data.toList.take p.size := by simp [ByteArray.data_extract, Array.toList_extract, List.extract]
  rw [Bool.eq_iff_iff, beq_iff_eq, List.isPrefixOf_iff_prefix, List.prefix_iff_eq_take, ByteArray.toList_eq, ByteArray.toList_eq]
  have hl : p.data.toList.length = p.size := by simp
  rw [hl, ← e]
  exact eq_comm
def isPre (p x : ByteArray) : Bool := p.data.toList.isPrefixOf x.data.toList
theorem prefixOf_any (x p : ByteArray) (w : World) (hx : x.size ≤ maxLen) (hp : p.size ≤ maxLen) :
    Calls Tryz.prog 113 #[.string x, .string p] w fun e w' => e = .returned (.bool (isPre p x)) ∧ w' = w := by
  obtain ⟨h1x, h1p⟩ := And.intro hx hp
  unfold maxLen at h1x h1p
  by_cases h : p.size ≤ x.size
  · have h0 := prefix_eq x p h
    have HE := Lib.hid h0; clear h0
    go_enter Tryz.func113, Tryz.ntmps113
    go_wp2
    go_ret
    exact ⟨ret_bool HE.out, rfl⟩
  · have h0 : isPre p x = false := by
      rw [Bool.eq_false_iff]; intro h1
      have h2 := (List.isPrefixOf_iff_prefix.1 h1).length_le
      simp at h2; omega
    rw [h0]; clear h0
    go_enter Tryz.func113, Tryz.ntmps113
    go_wp2
    go_ret
    exact ⟨rfl, rfl⟩
theorem hasPrefix_any (x p : ByteArray) (w : World) (hx : x.size ≤ maxLen) (hp : p.size ≤ maxLen) :
    Calls Tryz.prog 80 #[.string x, .string p] w fun e w' => e = .returned (.bool (isPre p x)) ∧ w' = w := by
  go_enter Tryz.func80, Tryz.ntmps80
  go_wp2_with fail
  refine (prefixOf_any x p _ hx hp).mono ?_
  rintro e w1 ⟨rfl, rfl⟩
  go_wp2
  go_ret
  exact ⟨rfl, rfl⟩
end Go.Proofs.YtopfdmmimgnciaaGreatDoor
namespace Go.Proofs.YtopfdmmimgnciaaGreatDoor
open Go.ChangeShapes Go.WideShapes Go.ChangeAt Go.RowKit

/-- Bits as values. -/
def bv (l : List Bool) : List Value := l.map Value.bool
theorem bv_len (l : List Bool) : (bv l).length = l.length := by simp [bv]
theorem bv_at (l : List Bool) (i : Nat) (h : i < l.length) : (bv l)[i]? = some (.bool l[i]) := by simp [bv, h]
section
variable {H : Type} {enc : TypeId × Value → H} {P : Program}
end
end Go.Proofs.YtopfdmmimgnciaaGreatDoor
namespace Go.Proofs.YtopfdmmimgnciaaGreatDoor.Can
section
variable {P : Program} {ops : Array Oper} {Q : Exit → Act → World → Prop} {S : World → Prop}

/-- Does the operation turn the world (or may it)? -/
def effB : Op → Bool
  | .move _ | .assign _ | .pick .. | .load .. | .nilCheck _ | .binOp .. | .unOp .. | .convert .. | .makeInterface .. | .slice .. | .fieldAddr .. | .field .. | .indexAddr .. | .index .. | .extract .. | .typeAssert .. => false
  | .call { callee := .builtin .len, .. } | .call { callee := .builtin .cap, .. } | .call { callee := .builtin .min, .. } | .call { callee := .builtin .max, .. } => false
  | _ => true
def effAt (ops : Array Oper) (i : Nat) : Bool := ((ops[i]?).map fun o => effB o.op).getD true

/-- The walk: 'tail' is the operation for which all others wait. -/
def wpCan (P : Program) (ops : Array Oper) (S : World → Prop) (Q : Exit → Act → World → Prop) (tail : Nat) : List Nat → Act → World → Prop
  | [], a, w => Q .normal a w
  | i :: rest, a, w =>
    if effAt ops i = true then wpOp P ops Q i (fun a' w' => (i = tail ∨ S w') ∧ wpCan P ops S Q tail rest a' w') a w
    else ∃ o v, ops[i]? = some o ∧ YieldsIf P ops S o v a ∧ wpCan P ops S Q tail rest (a.put o.dst v) w

/-! ### Which must come ahead of which -/
inductive Reach (ops : Array Oper) : Nat → Nat → Prop
  | one {i j : Nat} {o : Oper} (h : ops[i]? = some o) (e : Edge) (he : e ∈ o.after) (hb : Region.binds .any e = true) (hj : e.on = j) : Reach ops j i
  | more {i j k : Nat} {o : Oper} (h : ops[i]? = some o) (e : Edge) (he : e ∈ o.after) (hb : Region.binds .any e = true) (hj : e.on = k) (hr : Reach ops j k) : Reach ops j i
def fold (m : Array Nat) : List Edge → Nat → Nat
  | [], s => s
  | e :: es, s => fold m es (if Region.binds .any e then s ||| 2 ^ e.on ||| m.getD e.on 0 else s)
def mask (ops : Array Oper) : Nat → Array Nat
  | 0 => #[]
  | n + 1 => (mask ops n).push (match ops[n]? with | some o => fold (mask ops n) o.after.toList 0 | none => 0)
theorem fold_spec (m : Array Nat) (x : Nat) : ∀ (es : List Edge) (s : Nat), (fold m es s).testBit x = true → s.testBit x = true ∨ ∃ e ∈ es, Region.binds .any e = true ∧ (e.on = x ∨ (m.getD e.on 0).testBit x = true)
  | [], s, h => .inl h
  | e :: es, s, h => by
    rcases fold_spec m x es _ h with h1 | ⟨e', h1, h2, h3⟩
    · split at h1
      · rename_i hb
        simp only [Nat.testBit_or, Bool.or_eq_true] at h1
        rcases h1 with (h1 | h1) | h1
        · exact .inl h1
        · rw [Nat.testBit_two_pow] at h1
          exact .inr ⟨e, by simp, hb, .inl (by simpa using h1)⟩
        · exact .inr ⟨e, by simp, hb, .inr h1⟩
      · exact .inl h1
    · exact .inr ⟨e', List.mem_cons_of_mem _ h1, h2, h3⟩
theorem mask_size (ops : Array Oper) : ∀ n, (mask ops n).size = n
  | 0 => rfl
  | n + 1 => by unfold mask; rw [Array.size_push, mask_size ops n]
theorem mask_spec (ops : Array Oper) (x : Nat) : ∀ (n i : Nat), ((mask ops n).getD i 0).testBit x = true → Reach ops x i
  | 0, i, h => by simp [mask] at h
  | n + 1, i, h => by
    by_cases hi : i = n
    · subst hi
      unfold mask at h
      rw [Array.getD_eq_getD_getElem?, Array.getElem?_push, if_pos (mask_size ops i).symm] at h
      simp only [Option.getD_some] at h
      split at h
      · rename_i o ho
        rcases fold_spec _ x _ _ h with h1 | ⟨e, h1, h2, h3⟩
        · simp at h1
        · rcases h3 with h3 | h3
          · exact .one ho e (Array.mem_toList_iff.1 h1) h2 h3
          · exact .more ho e (Array.mem_toList_iff.1 h1) h2 rfl (mask_spec ops x i e.on h3)
      · simp at h
    · unfold mask at h
      rw [Array.getD_eq_getD_getElem?, Array.getElem?_push, if_neg (by rw [mask_size]; exact hi)] at h
      rw [← Array.getD_eq_getD_getElem?] at h
      exact mask_spec ops x n i h
theorem reach_listed {listed : Array Bool} (hc : ∀ j oj, ops[j]? = some oj → listed.getD j false = true → ∀ e ∈ oj.after, Region.binds .any e = true → listed.getD e.on false = true) :
    ∀ {x i : Nat}, Reach ops x i → (∀ o, ops[i]? = some o → ∀ e ∈ o.after, Region.binds .any e = true → listed.getD e.on false = true) → listed.getD x false = true := by
  intro x i h
  induction h with
  | one h e he hb hj => intro hi; subst hj; exact hi _ h e he hb
  | more h e he hb hj _ ih =>
    intro hi
    subst hj
    have h1 := hi _ h e he hb
    exact ih (fun o ho e' he' hb' => hc _ o ho h1 e' he' hb')

/-! ### What is asked of the list, by reckoning -/
def pairB (ops : Array Oper) (m : Array Nat) (tail x y : Nat) : Bool :=
  (m.getD y 0).testBit x || (!effAt ops x && y != tail && match ops[x]?, ops[y]? with | some ox, some oy => ox.apart ops oy | _, _ => false)
def pairsB (ops : Array Oper) (m : Array Nat) (tail : Nat) : List Nat → Bool
  | [] => true
  | x :: r => (x != tail || r.isEmpty) && r.all (fun y => pairB ops m tail x y) && pairsB ops m tail r
def backB (ops : Array Oper) : Bool := (List.range ops.size).all fun i => match ops[i]? with | some o => o.after.all (fun e => !Region.binds .any e || decide (e.on < i)) | none => true
def canB (ops : Array Oper) (tail : Nat) (L : List Nat) : Bool :=
  Region.noSelect ops && backB ops && pairsB ops (mask ops ops.size) tail L && decide L.Nodup && decide (L.length ≤ ops.size) && L.all (fun i => decide (i < ops.size)) && (List.range ops.size).all (fun i => L.contains i)

structure Inv (ops : Array Oper) (tail : Nat) (listed : Array Bool) (L : List Nat) : Prop where
  size : listed.size = ops.size
  closed : ∀ j oj, ops[j]? = some oj → listed.getD j false = true → ∀ e ∈ oj.after, Region.binds .any e = true → listed.getD e.on false = true
  iff : ∀ i, i < ops.size → (listed.getD i true = false ↔ i ∈ L)
  nodup : L.Nodup
  bound : ∀ i ∈ L, i < ops.size
  pairs : pairsB ops (mask ops ops.size) tail L = true

theorem pairsB_split {m : Array Nat} {tail : Nat} : ∀ (L1 : List Nat) (i : Nat) (L2 : List Nat), pairsB ops m tail (L1 ++ i :: L2) = true →
    (∀ x ∈ L1, pairB ops m tail x i = true) ∧ (i = tail → L2 = []) ∧ pairsB ops m tail (L1 ++ L2) = true
  | [], i, L2, h => by
    simp only [List.nil_append, pairsB, Bool.and_eq_true, Bool.or_eq_true, bne_iff_ne, ne_eq, List.isEmpty_iff] at h
    refine ⟨fun x hx => (by cases hx), fun hi => ?_, h.2⟩
    rcases h.1.1 with h1 | h1
    · exact absurd hi h1
    · exact h1
  | x :: L1, i, L2, h => by
    simp only [List.cons_append, pairsB, Bool.and_eq_true, Bool.or_eq_true, bne_iff_ne, ne_eq, List.isEmpty_iff, List.all_eq_true] at h
    obtain ⟨⟨h1, h2⟩, h3⟩ := h
    obtain ⟨g1, g2, g3⟩ := pairsB_split L1 i L2 h3
    refine ⟨fun y hy => ?_, g2, ?_⟩
    · rcases List.mem_cons.1 hy with rfl | hy
      · exact h2 i (by simp)
      · exact g1 y hy
    · simp only [List.cons_append, pairsB, Bool.and_eq_true, Bool.or_eq_true, bne_iff_ne, ne_eq, List.isEmpty_iff, List.all_eq_true]
      refine ⟨⟨?_, fun y hy => h2 y ?_⟩, g3⟩
      · rcases h1 with h1 | h1
        · exact .inl h1
        · simp at h1
      · simp only [List.mem_append, List.mem_cons] at hy ⊢
        rcases hy with hy | hy
        · exact .inl hy
        · exact .inr (.inr hy)

/-- An operation is moved to the front past those that leave the world alone. -/
theorem move_front {tail i : Nat} {oi : Oper} (hoi : ops[i]? = some oi) (hs : ∀ (j : Nat) (o : Oper) cs b, ops[j]? = some o → o.op ≠ .select cs b)
    (hQ : ∀ c (a : Act) (d : Option Tmp) v w, Q (.panic c) (a.put d v) w → Q (.panic c) a w) : ∀ (L1 L2 : List Nat) (a : Act) (w : World), S w →
    (∀ x ∈ L1, effAt ops x = false ∧ ∃ ox, ops[x]? = some ox ∧ ox.apart ops oi = true) →
    wpCan P ops S Q tail (L1 ++ i :: L2) a w → wpOp P ops Q i (fun a' w' => (i = tail ∨ S w') ∧ wpCan P ops S Q tail (L1 ++ L2) a' w') a w
  | [], L2, a, w, hS, _, h => by
    simp only [List.nil_append, wpCan] at h ⊢
    split at h
    · exact h
    · obtain ⟨o, v, ho, hy, hr⟩ := h
      exact hy.wpOp ho hS ⟨.inr hS, hr⟩
  | x :: L1, L2, a, w, hS, hx, h => by
    obtain ⟨he, ox, hox, hap⟩ := hx x (List.mem_cons_self ..)
    simp only [List.cons_append, wpCan, he, Bool.false_eq_true, if_false] at h ⊢
    obtain ⟨o, v, ho, hy, hr⟩ := h
    obtain rfl : o = ox := Option.some.inj (ho.symm.trans hox)
    have h1 := move_front hoi hs hQ L1 L2 _ w hS (fun y hy => hx y (List.mem_cons_of_mem _ hy)) hr
    have h2 := wpOp_putIf (P := P) (Q := Q) (S := S) hoi hap (hs x o · · ho) (hs i oi · · hoi) (fun c a w => hQ c a _ v w) hy h1
    exact wpOp_mono (fun a' w' ⟨h3, h4, h5⟩ => ⟨h4, o, v, ho, h3, h5⟩) h2

theorem back_min (hb : backB ops = true) {listed : Array Bool} (hsz : listed.size = ops.size) : ∀ (n i : Nat), i < n → i < ops.size → listed.getD i true = false → ∃ j, j ∈ Region.ready .any ops listed := by
  intro n
  induction n with
  | zero => intro i hi; omega
  | succ n ih =>
    intro i hi hlt hl
    have ho : ops[i]? = some ops[i] := Array.getElem?_eq_getElem hlt
    by_cases hall : ∀ e ∈ (ops[i]).after, Region.binds .any e = true → listed.getD e.on false = true
    · exact ⟨i, mem_ready.2 ⟨hl, _, ho, hall⟩⟩
    · have hex : ∃ e, e ∈ (ops[i]).after ∧ Region.binds .any e = true ∧ listed.getD e.on false = false := by
        apply Classical.byContradiction
        intro hno
        exact hall fun e he hbd => by
          cases hv : listed.getD e.on false with
          | true => rfl
          | false => exact absurd ⟨e, he, hbd, hv⟩ hno
      obtain ⟨e, he, hbd, hf⟩ := hex
      have h1 := List.all_eq_true.1 hb i (List.mem_range.2 hlt)
      rw [ho] at h1
      simp only [Array.all_eq_true'] at h1
      have h2 := h1 e he
      simp only [hbd, Bool.not_true, Bool.false_or, decide_eq_true_eq] at h2
      exact ih e.on (by omega) (by omega) (getD_in (by omega) hf)

theorem any_of_can {tail : Nat} (hs : ∀ (j : Nat) (o : Oper) cs b, ops[j]? = some o → o.op ≠ .select cs b) (hb : backB ops = true)
    (hQ : ∀ c (a : Act) (d : Option Tmp) v w, Q (.panic c) (a.put d v) w → Q (.panic c) a w) : ∀ (fuel : Nat) (listed : Array Bool) (L : List Nat) (a : Act) (w : World),
    Inv ops tail listed L → (L = [] ∨ S w) → L.length ≤ fuel → wpCan P ops S Q tail L a w → wpAny P .any ops Q fuel listed a w := by
  have none_ready : ∀ (listed : Array Bool), Inv ops tail listed [] → Region.ready .any ops listed = [] := by
    intro listed hI
    rcases hr : Region.ready .any ops listed with _ | ⟨j, r⟩
    · rfl
    · exfalso
      have hj : j ∈ Region.ready .any ops listed := by rw [hr]; simp
      obtain ⟨h1, o, ho, _⟩ := mem_ready.1 hj
      have h3 := (hI.iff j (Array.getElem?_eq_some_iff.1 ho).1).1 h1
      simp at h3
  intro fuel
  induction fuel with
  | zero =>
    intro listed L a w hI _ hL h
    have : L = [] := List.eq_nil_of_length_eq_zero (by omega)
    subst this
    exact ⟨none_ready listed hI, h⟩
  | succ fuel ih =>
    intro listed L a w hI hSw hL h
    refine ⟨fun hr => ?_, fun i hi => ?_⟩
    · rcases L with _ | ⟨x, r⟩
      · exact h
      · exfalso
        have hx : x < ops.size := hI.bound x (by simp)
        have hl := (hI.iff x hx).2 (by simp)
        obtain ⟨j, hj⟩ := back_min hb hI.size (x + 1) x (by omega) hx hl
        rw [hr] at hj
        cases hj
    · obtain ⟨hun, oi, hoi, hall⟩ := mem_ready.1 hi
      have hlt : i < ops.size := (Array.getElem?_eq_some_iff.1 hoi).1
      have hmem := (hI.iff i hlt).1 hun
      obtain ⟨L1, L2, rfl⟩ := List.append_of_mem hmem
      have hS : S w := by
        rcases hSw with h0 | h0
        · simp at h0
        · exact h0
      obtain ⟨hp1, hp2, hp3⟩ := pairsB_split L1 i L2 hI.pairs
      have hdis : i ∉ L1 ∧ i ∉ L2 := by
        have := hI.nodup
        rw [List.nodup_append] at this
        obtain ⟨_, h2, h3⟩ := this
        rw [List.nodup_cons] at h2
        exact ⟨fun h4 => h3 i h4 i (by simp) rfl, h2.1⟩
      have hx : ∀ x ∈ L1, effAt ops x = false ∧ ∃ ox, ops[x]? = some ox ∧ ox.apart ops oi = true ∧ i ≠ tail := by
        intro x hx
        have h1 := hp1 x hx
        simp only [pairB, Bool.or_eq_true, Bool.and_eq_true, Bool.not_eq_true', bne_iff_ne, ne_eq] at h1
        rcases h1 with h1 | ⟨⟨h1, h2⟩, h3⟩
        · exfalso
          have h4 := reach_listed hI.closed (mask_spec ops x _ i h1) (fun o ho e he hbd => by
            obtain rfl : o = oi := Option.some.inj (ho.symm.trans hoi)
            exact hall e he hbd)
          have hxb := hI.bound x (List.mem_append_left _ hx)
          have h5 := (hI.iff x hxb).2 (List.mem_append_left _ hx)
          rw [getD_both h5] at h4
          cases h4
        · rw [hoi] at h3
          cases hox : ops[x]? with
          | none => rw [hox] at h3; cases h3
          | some ox => rw [hox] at h3; exact ⟨h1, ox, rfl, h3, h2⟩
      have h1 := move_front hoi hs hQ L1 L2 a w hS (fun x hx' => let ⟨h1, ox, h2, h3, _⟩ := hx x hx'; ⟨h1, ox, h2, h3⟩) h
      refine wpOp_mono (fun a' w' ⟨h2, h3⟩ => ?_) h1
      refine ih _ (L1 ++ L2) a' w' ⟨?_, ?_, ?_, ?_, ?_, hp3⟩ ?_ ?_ h3
      · simp [hI.size]
      · intro j oj hj hl e he hbd
        by_cases hij : i = j
        · subst hij
          obtain rfl : oj = oi := Option.some.inj (hj.symm.trans hoi)
          exact getD_set_true (hall e he hbd)
        · rw [getD_set_ne false hij] at hl
          exact getD_set_true (hI.closed j oj hj hl e he hbd)
      · intro j hj
        by_cases hij : i = j
        · subst hij
          refine ⟨fun h4 => ?_, fun h4 => ?_⟩
          · have h5 : i < listed.size := by rw [hI.size]; exact hj
            simp [Array.getD_eq_getD_getElem?, h5] at h4
          · rcases List.mem_append.1 h4 with h4 | h4
            · exact absurd h4 hdis.1
            · exact absurd h4 hdis.2
        · rw [getD_set_ne true hij, hI.iff j hj]
          simp only [List.mem_append, List.mem_cons]
          constructor
          · rintro (h4 | rfl | h4)
            · exact .inl h4
            · exact absurd rfl hij
            · exact .inr h4
          · rintro (h4 | h4)
            · exact .inl h4
            · exact .inr (.inr h4)
      · have := hI.nodup
        rw [List.nodup_append] at this ⊢
        obtain ⟨g1, g2, g3⟩ := this
        rw [List.nodup_cons] at g2
        exact ⟨g1, g2.2, fun x hx y hy => g3 x hx y (List.mem_cons_of_mem _ hy)⟩
      · intro j hj
        refine hI.bound j ?_
        simp only [List.mem_append, List.mem_cons] at hj ⊢
        rcases hj with hj | hj
        · exact .inl hj
        · exact .inr (.inr hj)
      · rcases h2 with h2 | h2
        · left
          have h4 := hp2 h2
          have h5 : L1 = [] := by
            rcases L1 with _ | ⟨x, r⟩
            · rfl
            · obtain ⟨_, _, _, _, h6⟩ := hx x (by simp)
              exact absurd h2 h6
          rw [h4, h5]; rfl
        · exact .inr h2
      · simp only [List.length_append, List.length_cons] at hL ⊢; omega

/-- A region that draws its order, by one walk of the list L. -/
theorem wp_region_can {id : Nat} {a : Act} {w : World} (S : World → Prop) (tail : Nat) (L : List Nat) (hm : P.follows .mixedOrders = true) (hB : canB ops tail L = true)
    (hQ : ∀ c (a : Act) (d : Option Tmp) v w, Q (.panic c) (a.put d v) w → Q (.panic c) a w) (hS : S w.drew) (h : S w.drew → wpCan P ops S Q tail L a w.drew) : (Code.region id ops true).wp P Q a w := by
  simp only [canB, Bool.and_eq_true, decide_eq_true_eq] at hB
  obtain ⟨⟨⟨⟨⟨⟨h1, h2⟩, h3⟩, h4⟩, hlen⟩, h5⟩, h6⟩ := hB
  have h5' : ∀ i ∈ L, i < ops.size := fun i hi => by simpa using List.all_eq_true.1 h5 i hi
  have h6' : ∀ i, i < ops.size → i ∈ L := fun i hi => by simpa using List.all_eq_true.1 h6 i (List.mem_range.2 hi)
  refine wp_region_any hm (any_of_can (tail := tail) (fun j o cs b => Region.noSelect_spec h1 j o cs b) h2 hQ ops.size _ L a w.drew ⟨by simp, ?_, ?_, h4, h5', h3⟩ (.inr hS) hlen (h hS))
  · intro j oj _ hl
    rw [getD_replicate_false] at hl
    cases hl
  · intro i hi
    simp [hi, h6' i hi]

/-! ### The steps of the walk -/
theorem can_pure {tail i : Nat} {o : Oper} {v : Value} {rest : List Nat} {a : Act} {w : World} (ho : ops[i]? = some o) (he : effB o.op = false) (hy : YieldsIf P ops S o v a)
    (h : wpCan P ops S Q tail rest (a.put o.dst v) w) : wpCan P ops S Q tail (i :: rest) a w := by
  have h1 : effAt ops i = false := by simp [effAt, ho, he]
  simp only [wpCan, h1, Bool.false_eq_true, if_false]
  exact ⟨o, v, ho, hy, h⟩
theorem can_eff {tail i : Nat} {o : Oper} {rest : List Nat} {a : Act} {w : World} (ho : ops[i]? = some o) (he : effB o.op = true) (hw : Region.wanted o (yielded ops a.tmps) = true)
    (h : ∀ K : Act → World → Prop, Shut (∀ a w, S w → (S w → wpCan P ops S Q tail rest a w) → K a w) → if Region.wanted o (yielded ops a.tmps) = true then Oper.wp P o a w K Q else K (a.put o.dst undef) w) :
    wpCan P ops S Q tail (i :: rest) a w := by
  have h1 : effAt ops i = true := by simp [effAt, ho, he]
  simp only [wpCan, h1, if_true]
  unfold wpOp
  simp only [ho, hw, if_true]
  have h2 := h (fun a' w' => (i = tail ∨ S w') ∧ wpCan P ops S Q tail rest a' w') (fun a' w' hS hr => ⟨.inr hS, hr hS⟩)
  rw [if_pos hw] at h2
  exact .inl h2
theorem can_tail {i : Nat} {o : Oper} {a : Act} {w : World} (ho : ops[i]? = some o) (he : effB o.op = true) (hw : Region.wanted o (yielded ops a.tmps) = true)
    (h : ∀ K : Act → World → Prop, Shut (∀ a w, Q .normal a w → K a w) → if Region.wanted o (yielded ops a.tmps) = true then Oper.wp P o a w K Q else K (a.put o.dst undef) w) :
    wpCan P ops S Q i [i] a w := by
  have h1 : effAt ops i = true := by simp [effAt, ho, he]
  simp only [wpCan, h1, if_true]
  unfold wpOp
  simp only [ho, hw, if_true]
  have h2 := h (fun a' w' => (True ∨ S w') ∧ Q .normal a' w') (fun a' w' hr => ⟨.inl trivial, hr⟩)
  rw [if_pos hw] at h2
  exact .inl h2
theorem can_done {tail : Nat} {a : Act} {w : World} (h : Q .normal a w) : wpCan P ops S Q tail [] a w := h
end
end Go.Proofs.YtopfdmmimgnciaaGreatDoor.Can
namespace Go.Proofs.YtopfdmmimgnciaaGreatDoor
open Go.RowKit

/-- As RdT, and the block is below B. -/
def RdB (w : World) (e : TypeId) (B : Nat) (v : Value) (xs : List Value) : Prop :=
  ∃ A cap, v = .slice A xs.length cap ∧ xs.length ≤ cap ∧ cap ≤ maxLen ∧
    (0 < xs.length → ∃ b off cs fr, A = some ⟨b, off, none⟩ ∧ b < B ∧ w.heap[b]? = some (.cells cs e fr) ∧ ∀ j u, xs[j]? = some u → cs[off + j]? = some u)
section
variable {w w' : World} {e : TypeId} {v : Value} {xs : List Value} {B : Nat}
theorem RdB.below (h : RdB w e B v xs) (hb : Below B w w') : RdB w' e B v xs := by
  obtain ⟨A, cap, hv, h1, h2, h3⟩ := h
  exact ⟨A, cap, hv, h1, h2, fun hl => by obtain ⟨b, off, cs, fr, hA, hlt, hh, hc⟩ := h3 hl; exact ⟨b, off, cs, fr, hA, hlt, (hb.block b hlt).trans hh, hc⟩⟩
theorem RdB.far (h : RdB w e B v xs) {p : Addr} {t : TypeId} {cs : Array Value} (hp : Blk w p.block t cs) (ht : t ≠ e) (u : Value) : RdB (w.setCell p u) e B v xs := by
  obtain ⟨A, cap, hv, h1, h2, h3⟩ := h
  refine ⟨A, cap, hv, h1, h2, fun hl => ?_⟩
  obtain ⟨b, off, cs', fr, hA, hlt, hh, hc⟩ := h3 hl
  refine ⟨b, off, cs', fr, hA, hlt, (Below.heap_setCell w p u b (fun he => ?_)).trans hh, hc⟩
  subst he
  unfold Blk at hp
  rw [hh] at hp
  injection hp with hp
  injection hp with _ h6
  exact ht h6.symm
end
end Go.Proofs.YtopfdmmimgnciaaGreatDoor
namespace Go.Proofs.YtopfdmmimgnciaaGreatDoor
open Go.RowKit

/-- The value v reads as rows of bools. -/
def RowsT (w : World) (v : Value) (rows : List (List Bool)) : Prop :=
  ∃ vs : List Value, RdT w 42 v vs ∧ vs.length = rows.length ∧ ∀ i, i < rows.length → RdT w 4 (vs.getD i undef) (bv (rows.getD i []))
theorem RowsT.up {w w' : World} {v : Value} {rows : List (List Bool)} (h : RowsT w v rows) (hb : Below w.heap.size w w') : RowsT w' v rows := by
  obtain ⟨vs, h1, h2, h3⟩ := h
  exact ⟨vs, h1.up hb, h2, fun i hi => (h3 i hi).up hb⟩
/-- Its form, and its row i. -/
theorem RowsT.at_ {w : World} {v : Value} {rows : List (List Bool)} (h : RowsT w v rows) (h0 : 0 < rows.length) :
    ∃ b o cap, v = .slice (some ⟨b, o, none⟩) rows.length cap ∧ rows.length ≤ cap ∧ cap ≤ 9223372036854775807 ∧
      Hid (∀ i, i < rows.length → ∃ u, w.cell? ⟨b, o + i, none⟩ = some u ∧ RdT w 4 u (bv (rows.getD i []))) := by
  obtain ⟨vs, h1, h2, h3⟩ := h
  obtain ⟨A, cap, hv, k1, k2, k3⟩ := h1.rd
  rw [h2] at hv k1 k3
  obtain ⟨b, o, rfl, _, hc⟩ := k3 h0
  unfold maxLen at k2
  refine ⟨b, o, cap, hv, k1, by omega, fun i hi => ⟨vs[i]'(by omega), hc i _ (List.getElem?_eq_getElem (by omega)), ?_⟩⟩
  have := h3 i hi
  rwa [List.getD, List.getElem?_eq_getElem (by omega), Option.getD_some] at this
/-- A row's form, and its bits. -/
theorem row_at {w : World} {v : Value} {l : List Bool} (h : RdT w 4 v (bv l)) (h0 : 0 < l.length) :
    ∃ b o c, v = .slice (some ⟨b, o, none⟩) l.length c ∧ l.length ≤ c ∧ c ≤ 9223372036854775807 ∧ Hid (∀ j, j < l.length → w.cell? ⟨b, o + j, none⟩ = some (.bool (l.getD j false))) := by
  obtain ⟨A, c, hv, k1, k2, k3⟩ := h.rd
  rw [bv_len] at hv k1 k3
  obtain ⟨b, o, rfl, _, hc⟩ := k3 h0
  unfold maxLen at k2
  refine ⟨b, o, c, hv, k1, by omega, fun j hj => ?_⟩
  rw [List.getD, List.getElem?_eq_getElem hj]
  exact hc j _ (bv_at l j hj)

end Go.Proofs.YtopfdmmimgnciaaGreatDoor
namespace Go.Proofs.YtopfdmmimgnciaaGreatDoor
open Go.RowKit

theorem bv_set (l : List Bool) (i : Nat) (b : Bool) : (bv l).toArray.setIfInBounds i (.bool b) = (bv (l.set i b)).toArray := by simp [bv, List.map_set]
theorem bv_rep (n : Nat) (b : Bool) : rep n (.bool b) = (bv (List.replicate n b)).toArray := by simp [rep, bv]
theorem info_bool : (Tryz.prog.info? 4).map (fun i => (i.zero, i.size, i.bytes)) = some (some (.bool false), 1, 1) := by kernel_rfl
theorem info_bools : (Tryz.prog.info? 42).map (fun i => (i.zero, i.size, i.bytes)) = some (some (.slice none 0 0), 1, 24) := by kernel_rfl
theorem mk_bools (n : Nat) (W : World) (hn : n ≤ 65536) : (Instr.makeSlice 42 (.int .i64 (n : Int)) (.int .i64 (n : Int))).run Tryz.prog W =
    .ok (.slice (some ⟨W.heap.size, 0, none⟩) n n) (W.alloc (.cells (bv (List.replicate n false)).toArray 4)) := by
  have h := run_mk (P := Tryz.prog) 42 4 (.bool false) 1 Tryz.underlying42 info_bool rfl n (by omega) (by omega) W
  rw [bv_rep] at h
  exact h
theorem mk_rows (n : Nat) (W : World) (hn : n ≤ 65536) : (Instr.makeSlice 38 (.int .i64 (n : Int)) (.int .i64 (n : Int))).run Tryz.prog W =
    .ok (.slice (some ⟨W.heap.size, 0, none⟩) n n) (W.alloc (.cells (List.replicate n (Value.slice none 0 0)).toArray 42)) := by
  have h := run_mk (P := Tryz.prog) 38 42 (.slice none 0 0) 24 Tryz.underlying38 info_bools rfl n (by omega) (by omega) W
  have e : rep n (Value.slice none 0 0) = (List.replicate n (Value.slice none 0 0)).toArray := by simp [rep]
  rw [e] at h
  exact h
/-- Values, and then nil slices. -/
def padV (vs : List Value) (N : Nat) : List Value := vs ++ List.replicate (N - vs.length) (Value.slice none 0 0)
theorem padV_set (vs : List Value) (N : Nat) (u : Value) (h : vs.length < N) : (padV vs N).toArray.setIfInBounds vs.length u = (padV (vs ++ [u]) N).toArray := by
  unfold padV
  have e : N - vs.length = (N - (vs.length + 1)) + 1 := by omega
  rw [e, List.replicate_succ]
  simp
theorem padV_at (vs : List Value) (N : Nat) (h : vs.length < N) : (padV vs N).toArray[vs.length]? = some (Value.slice none 0 0) := by
  unfold padV
  rw [List.getElem?_toArray, List.getElem?_append_right (Nat.le_refl _), Nat.sub_self, List.getElem?_replicate_of_lt (by omega)]
theorem padV_full (vs : List Value) : padV vs vs.length = vs := by simp [padV]

/-- Rows of so many bits. -/
def rowsF (W H : Nat) (f : Nat → Nat → Bool) : List (List Bool) := (List.range H).map fun y => (List.range W).map fun x => f x y
def rowF (W : Nat) (f : Nat → Nat → Bool) (y : Nat) : List Bool := (List.range W).map fun x => f x y
theorem rowF_len (W : Nat) (f : Nat → Nat → Bool) (y : Nat) : (rowF W f y).length = W := by simp [rowF]
theorem rowsF_len (W H : Nat) (f : Nat → Nat → Bool) : (rowsF W H f).length = H := by simp [rowsF]
theorem rowsF_at (W H : Nat) (f : Nat → Nat → Bool) (y : Nat) (hy : y < H) : (rowsF W H f).getD y [] = rowF W f y := by simp [rowsF, rowF, List.getD, hy]
theorem rowF_at (W : Nat) (f : Nat → Nat → Bool) (y x : Nat) (hx : x < (rowF W f y).length) : (rowF W f y)[x] = f x y := by simp [rowF]
end Go.Proofs.YtopfdmmimgnciaaGreatDoor
namespace Go.Proofs.YtopfdmmimgnciaaGreatDoor
open Go.RowKit

end Go.Proofs.YtopfdmmimgnciaaGreatDoor
