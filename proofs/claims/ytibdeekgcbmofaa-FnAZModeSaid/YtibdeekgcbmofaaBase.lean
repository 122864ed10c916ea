/-
  GROUND: plain lemmas that the walks of this family use: numbers' bits, blocks, what a slice reads as, and the frame of a law (from 'it returns true and changes nothing old' to the row's own claim).
-/
import Derived.Test.YtibdeekgcbmofaaRows
import Derived.WalkKit
import Derived.WalkSpells
import Derived.ProofKit
import Derived.OpenShut
import Derived.Handy
import Derived.Deep.Draws
import Derived.Lib.Hide
import Derived.BigQuiet
import Derived.Deep.OwnRows
import Derived.Deep.RegionHeld3
import Derived.Deep.AppendLies
import Derived.Maps.AppendAt
namespace Go.Proofs.Ytibdeekgcbmofaa
open Go.ChangeShapes Go.WideShapes Go.ChangeAt Go.RowKit

/-! ### Bits of int -/
theorem ofInt_64 (a : Nat) (ha : a < 9223372036854775808) : (BitVec.ofInt 64 (a : Int)).toNat = a := by
  rw [BitVec.ofInt_natCast, BitVec.toNat_ofNat]; exact Nat.mod_eq_of_lt (by omega)
theorem i64_xor (a b : Nat) (ha : a < 9223372036854775808) (hb : b < 9223372036854775808) : bits .xor .i64 (a : Int) (b : Int) = ((a ^^^ b : Nat) : Int) := by
  have hx : a ^^^ b < 2 ^ 63 := Nat.xor_lt_two_pow (by omega) (by omega)
  show IntKind.i64.wrap ((BitVec.ofInt 64 (a : Int) ^^^ BitVec.ofInt 64 (b : Int)).toNat : Int) = _
  rw [BitVec.toNat_xor, ofInt_64 a ha, ofInt_64 b hb, IntKind.wrap_i64]
  omega
theorem i64_and (a b : Nat) (ha : a < 9223372036854775808) (hb : b < 9223372036854775808) : bits .and .i64 (a : Int) (b : Int) = ((a &&& b : Nat) : Int) := by
  have hx : a &&& b < 2 ^ 63 := Nat.and_lt_two_pow _ (by omega)
  show IntKind.i64.wrap ((BitVec.ofInt 64 (a : Int) &&& BitVec.ofInt 64 (b : Int)).toNat : Int) = _
  rw [BitVec.toNat_and, ofInt_64 a ha, ofInt_64 b hb, IntKind.wrap_i64]
  omega
theorem i64_or (a b : Nat) (ha : a < 9223372036854775808) (hb : b < 9223372036854775808) : bits .or .i64 (a : Int) (b : Int) = ((a ||| b : Nat) : Int) := by
  have hx : a ||| b < 2 ^ 63 := Nat.or_lt_two_pow (by omega) (by omega)
  show IntKind.i64.wrap ((BitVec.ofInt 64 (a : Int) ||| BitVec.ofInt 64 (b : Int)).toNat : Int) = _
  rw [BitVec.toNat_or, ofInt_64 a ha, ofInt_64 b hb, IntKind.wrap_i64]
  omega

/-- A sum of two indexes, as a region that draws wants it. -/
theorem sum_ix (i k n : Nat) (h : i + k < n) (hn : n ≤ 9223372036854775807) : IntKind.i64.wrap ((i : Int) + (k : Int)) = (i : Int) + (k : Int) ∧ 0 ≤ (i : Int) + (k : Int) ∧ (i : Int) + (k : Int) < (n : Int) ∧ ((i : Int) + (k : Int)).toNat = i + k :=
  ⟨by rw [IntKind.wrap_i64]; omega, by omega, by omega, by omega⟩
/-! ### Endings -/
theorem ret_int {k : IntKind} {a b : Int} (h : a = b) : Ending.returned (.int k a) = .returned (.int k b) := by rw [h]
theorem ret_bool {a b : Bool} (h : a = b) : Ending.returned (.bool a) = .returned (.bool b) := by rw [h]

/-! ### Worlds that have grown -/
theorem below_drewN {B : Nat} {a w : World} (h : Below B a w) (n : Nat) : Below B a (w.drewN n) := ⟨h.os, h.tape, h.output, h.size, h.block⟩
theorem below_up {a b c : World} {B : Nat} (h : Below B a b) (k : Below b.heap.size b c) (hB : B ≤ b.heap.size) : Below B a c := h.trans (k.mono hB)
theorem bup {a b c : World} (h : Below a.heap.size a b) (k : Below b.heap.size b c) : Below a.heap.size a c := h.trans (k.mono h.size)
theorem bal {a b : World} (h : Below a.heap.size a b) (o : Obj) : Below a.heap.size a (b.alloc o) := h.alloc h.size o
theorem bdr {a b : World} (h : Below a.heap.size a b) : Below a.heap.size a b.drew := h.drew
theorem bdn {a b : World} (h : Below a.heap.size a b) (n : Nat) : Below a.heap.size a (b.drewN n) := below_drewN h n
theorem brf (a : World) : Below a.heap.size a a := Below.refl _ _
theorem below_cells {B : Nat} {w w' : World} (hb : Below B w w') (b o : Nat) (h : b < B) : w'.cell? ⟨b, o, none⟩ = w.cell? ⟨b, o, none⟩ := hb.cell (p := ⟨b, o, none⟩) h

/-! ### A block that is known whole -/
/-- Block g is just the cells cs, of element type t, none of them frozen. -/
def Blk (w : World) (g : Nat) (t : TypeId) (cs : Array Value) : Prop := w.heap[g]? = some (.cells cs t (0, 0))
section
variable {w w' : World} {g : Nat} {t : TypeId} {cs : Array Value}
theorem Blk.lt (h : Blk w g t cs) : g < w.heap.size := by
  rcases Nat.lt_or_ge g w.heap.size with hlt | hge
  · exact hlt
  · unfold Blk at h; rw [Array.getElem?_eq_none hge] at h; cases h
theorem Blk.cell (h : Blk w g t cs) (i : Nat) : w.cell? ⟨g, i, none⟩ = cs[i]? := by
  unfold Blk at h; simp [World.cell?, h]
theorem Blk.frozen (h : Blk w g t cs) (i : Nat) : w.frozen? ⟨g, i, none⟩ = false := by
  unfold Blk at h; simp [World.frozen?, h]
theorem Blk.fresh (w : World) (t : TypeId) (cs : Array Value) : Blk (w.alloc (.cells cs t)) w.heap.size t cs := by
  show (w.heap.push _)[w.heap.size]? = _
  simp
theorem Blk.fresh' {w : World} {g : Nat} {t : TypeId} {cs : Array Value} (h : w.heap.size = g) : Blk (w.alloc (.cells cs t)) g t cs := h ▸ Blk.fresh w t cs
theorem Blk.drew (h : Blk w g t cs) : Blk w.drew g t cs := h
theorem Blk.drewN (h : Blk w g t cs) (n : Nat) : Blk (w.drewN n) g t cs := h
theorem Blk.alloc (h : Blk w g t cs) (o : Obj) : Blk (w.alloc o) g t cs := (Below.heap_alloc w o g h.lt).trans h
theorem Blk.put (h : Blk w g t cs) (i : Nat) (u : Value) : Blk (w.setCell ⟨g, i, none⟩ u) g t (cs.setIfInBounds i u) := by
  unfold Blk at h ⊢
  simp [World.setCell, Array.getElem?_modify, h]
theorem Blk.far (h : Blk w g t cs) {p : Addr} (hp : g ≠ p.block) (u : Value) : Blk (w.setCell p u) g t cs := (Below.heap_setCell w p u g hp).trans h
theorem Blk.below {B : Nat} (h : Blk w g t cs) (hb : Below B w w') (hg : g < B) : Blk w' g t cs := (hb.block g hg).trans h
theorem Blk.up (h : Blk w g t cs) (hb : Below w.heap.size w w') : Blk w' g t cs := (hb.block g h.lt).trans h
theorem Blk.grown {row : Option Nat} (h : Blk w g t cs) (hb : w.grownBy w' row) (hg : some g ≠ row) : Blk w' g t cs := (hb.block g h.lt hg).trans h
end

/-! ### What a slice of one-cell elements reads as -/
/-- The slice value v reads as xs; what it lies in is below block B. -/
def Rd (w : World) (B : Nat) (v : Value) (xs : List Value) : Prop :=
  ∃ A cap, v = .slice A xs.length cap ∧ xs.length ≤ cap ∧ cap ≤ maxLen ∧
    (0 < xs.length → ∃ b off, A = some ⟨b, off, none⟩ ∧ b < B ∧ ∀ j u, xs[j]? = some u → w.cell? ⟨b, off + j, none⟩ = some u)
section
variable {w w' : World} {B B' : Nat} {v : Value} {xs : List Value}
theorem Rd.more (h : Rd w B v xs) (hB : B ≤ B') : Rd w B' v xs := by
  obtain ⟨A, cap, hv, h1, h2, h3⟩ := h
  exact ⟨A, cap, hv, h1, h2, fun hl => by obtain ⟨b, off, e, hb, hc⟩ := h3 hl; exact ⟨b, off, e, by omega, hc⟩⟩
theorem Rd.below (h : Rd w B v xs) (hb : Below B w w') : Rd w' B v xs := by
  obtain ⟨A, cap, hv, h1, h2, h3⟩ := h
  exact ⟨A, cap, hv, h1, h2, fun hl => by
    obtain ⟨b, off, e, hb', hc⟩ := h3 hl
    exact ⟨b, off, e, hb', fun j u hu => (below_cells hb b _ hb').trans (hc j u hu)⟩⟩
theorem Rd.up (h : Rd w w.heap.size v xs) (hb : Below w.heap.size w w') : Rd w' w'.heap.size v xs := (h.below hb).more hb.size
theorem Rd.len (h : Rd w B v xs) : xs.length ≤ maxLen := by obtain ⟨A, cap, _, h1, h2, _⟩ := h; omega
theorem Rd.nil_ (w : World) (B : Nat) : Rd w B (.slice none 0 0) [] := ⟨none, 0, rfl, Nat.le_refl _, by decide, fun h => absurd h (by simp)⟩
theorem Rd.of_own {base : Nat} {e : TypeId} {n : Nat} (h : w.ownsRow base e 1 v n xs) : Rd w w.heap.size v xs := by
  obtain ⟨h1, h2 | ⟨g, cap, cur, hv, hb, hg, hn, hc, hs, ht⟩⟩ := h
  · obtain ⟨rfl, rfl⟩ := h2
    have : xs = [] := List.eq_nil_of_length_eq_zero (by simpa using h1)
    subst this
    exact Rd.nil_ _ _
  · have hl : xs.length = n := by simpa using h1
    subst hl
    refine ⟨_, cap, hv, hn, hc, fun _ => ⟨g, 0, rfl, (Blk.lt (w := w) (g := g) (t := e) (cs := cur) hg), fun j u hu => ?_⟩⟩
    rw [Blk.cell (w := w) (g := g) (t := e) (cs := cur) hg]
    have hj : j < xs.length := (List.getElem?_eq_some_iff.1 hu).1
    rw [Nat.zero_add]
    rw [← ht] at hu
    rw [List.getElem?_take_of_lt (by omega)] at hu
    simpa using hu
/-- A whole block as a slice. -/
theorem Rd.of_blk {g : Nat} {t : TypeId} {n cap : Nat} (h : Blk w g t xs.toArray) (hn : n = xs.length) (hc : xs.length ≤ cap) (hm : cap ≤ maxLen) : Rd w w.heap.size (.slice (some ⟨g, 0, none⟩) n cap) xs := by
  subst hn
  refine ⟨_, cap, rfl, hc, hm, fun _ => ⟨g, 0, rfl, h.lt, fun j u hu => ?_⟩⟩
  rw [h.cell, Nat.zero_add]
  simpa using hu
theorem Rd.one {w : World} {b : Nat} (h : w.heap.size = b) (t : TypeId) (u : Value) : Rd (w.alloc (.cells #[u] t)) (w.alloc (.cells #[u] t)).heap.size (.slice (some ⟨b, 0, none⟩) 1 1) [u] := by
  subst h
  exact Rd.of_blk (t := t) (xs := [u]) (Blk.fresh w t #[u]) rfl (Nat.le_refl _) (by decide)
theorem Rd.at_ {A : Option Addr} {n cap : Nat} (h : Rd w B (.slice A n cap) xs) {i : Nat} (hi : i < n) :
    ∃ b off u, A = some ⟨b, off, none⟩ ∧ b < B ∧ xs[i]? = some u ∧ w.cell? ⟨b, off + i, none⟩ = some u := by
  obtain ⟨A', cap', hv, _, _, h3⟩ := h
  injection hv with e1 e2 e3
  subst e1 e2 e3
  obtain ⟨b, off, e, hb, hc⟩ := h3 (by omega)
  exact ⟨b, off, xs[i], e, hb, List.getElem?_eq_getElem hi, hc i _ (List.getElem?_eq_getElem hi)⟩
theorem Rd.drop {b off n cap k : Nat} (h : Rd w B (.slice (some ⟨b, off, none⟩) n cap) xs) (hk : k < n) : Rd w B (.slice (some ⟨b, off + k, none⟩) (n - k) (cap - k)) (xs.drop k) := by
  obtain ⟨A', cap', hv, h1, h2, h3⟩ := h
  injection hv with e1 e2 e3
  subst e1 e2 e3
  obtain ⟨b', off', e, hb, hc⟩ := h3 (by omega)
  injection e with e
  injection e with e1 e2 e3
  subst e1 e2
  refine ⟨_, _, by rw [List.length_drop], by rw [List.length_drop]; omega, by omega, fun _ => ⟨_, _, rfl, hb, fun j u hu => ?_⟩⟩
  rw [List.getElem?_drop] at hu
  rw [Nat.add_assoc]
  exact hc _ u hu
theorem Rd.form (h : Rd w B v xs) : ∃ A cap, v = .slice A xs.length cap ∧ xs.length ≤ cap ∧ cap ≤ maxLen := by
  obtain ⟨A, cap, hv, h1, h2, _⟩ := h; exact ⟨A, cap, hv, h1, h2⟩
end
/-- The slice value v reads as xs, and lies in a block of elements of type e. -/
def RdT (w : World) (e : TypeId) (v : Value) (xs : List Value) : Prop :=
  ∃ A cap, v = .slice A xs.length cap ∧ xs.length ≤ cap ∧ cap ≤ maxLen ∧
    (0 < xs.length → ∃ b off cs fr, A = some ⟨b, off, none⟩ ∧ w.heap[b]? = some (.cells cs e fr) ∧ ∀ j u, xs[j]? = some u → cs[off + j]? = some u)
section
variable {w w' : World} {e : TypeId} {v : Value} {xs : List Value}
theorem heap_lt {b : Nat} {o : Obj} (h : w.heap[b]? = some o) : b < w.heap.size := (Array.getElem?_eq_some_iff.1 h).1
theorem RdT.rd (h : RdT w e v xs) : Rd w w.heap.size v xs := by
  obtain ⟨A, cap, hv, h1, h2, h3⟩ := h
  refine ⟨A, cap, hv, h1, h2, fun hl => ?_⟩
  obtain ⟨b, off, cs, fr, hA, hh, hc⟩ := h3 hl
  exact ⟨b, off, hA, heap_lt hh, fun j u hu => by rw [World.cell?, hh]; simpa using hc j u hu⟩
theorem RdT.up (h : RdT w e v xs) (hb : Below w.heap.size w w') : RdT w' e v xs := by
  obtain ⟨A, cap, hv, h1, h2, h3⟩ := h
  refine ⟨A, cap, hv, h1, h2, fun hl => ?_⟩
  obtain ⟨b, off, cs, fr, hA, hh, hc⟩ := h3 hl
  exact ⟨b, off, cs, fr, hA, (hb.block b (heap_lt hh)).trans hh, hc⟩
theorem RdT.grown {row : Option Nat} (h : RdT w e v xs) (hb : w.grownBy w' row) (hr : ∀ g, row = some g → ∃ cs t fr, w.heap[g]? = some (.cells cs t fr) ∧ t ≠ e) : RdT w' e v xs := by
  obtain ⟨A, cap, hv, h1, h2, h3⟩ := h
  refine ⟨A, cap, hv, h1, h2, fun hl => ?_⟩
  obtain ⟨b, off, cs, fr, hA, hh, hc⟩ := h3 hl
  refine ⟨b, off, cs, fr, hA, (hb.block b (heap_lt hh) (fun he => ?_)).trans hh, hc⟩
  obtain ⟨cs', t, fr', h4, h5⟩ := hr b he.symm
  rw [hh] at h4
  injection h4 with h4
  injection h4 with _ h6
  exact h5 h6.symm
theorem RdT.far (h : RdT w e v xs) {p : Addr} {t : TypeId} {cs : Array Value} (hp : Blk w p.block t cs) (ht : t ≠ e) (u : Value) : RdT (w.setCell p u) e v xs := by
  obtain ⟨A, cap, hv, h1, h2, h3⟩ := h
  refine ⟨A, cap, hv, h1, h2, fun hl => ?_⟩
  obtain ⟨b, off, cs', fr, hA, hh, hc⟩ := h3 hl
  refine ⟨b, off, cs', fr, hA, (Below.heap_setCell w p u b (fun he => ?_)).trans hh, hc⟩
  subst he
  unfold Blk at hp
  rw [hh] at hp
  injection hp with hp
  injection hp with _ h6
  exact ht h6.symm
theorem RdT.nil_ (w : World) (e : TypeId) : RdT w e (.slice none 0 0) [] := ⟨none, 0, rfl, Nat.le_refl _, by decide, fun h => absurd h (by simp)⟩
theorem RdT.of_own {base n : Nat} (h : w.ownsRow base e 1 v n xs) : RdT w e v xs := by
  obtain ⟨h1, h2 | ⟨g, cap, cur, hv, hb, hg, hn, hc, hs, ht⟩⟩ := h
  · obtain ⟨rfl, rfl⟩ := h2
    have : xs = [] := List.eq_nil_of_length_eq_zero (by simpa using h1)
    subst this
    exact RdT.nil_ _ _
  · have hl : xs.length = n := by simpa using h1
    subst hl
    refine ⟨_, cap, hv, hn, hc, fun _ => ⟨g, 0, cur, _, rfl, hg, fun j u hu => ?_⟩⟩
    have hj : j < xs.length := (List.getElem?_eq_some_iff.1 hu).1
    rw [Nat.zero_add]
    rw [← ht, List.getElem?_take_of_lt (by omega)] at hu
    simpa using hu
theorem RdT.of_blk {g n cap : Nat} (h : Blk w g e xs.toArray) (hn : n = xs.length) (hc : xs.length ≤ cap) (hm : cap ≤ maxLen) : RdT w e (.slice (some ⟨g, 0, none⟩) n cap) xs := by
  subst hn
  exact ⟨_, cap, rfl, hc, hm, fun _ => ⟨g, 0, _, _, rfl, h, fun j u hu => by rw [Nat.zero_add]; simpa using hu⟩⟩
theorem RdT.one {b : Nat} (h : w.heap.size = b) (e : TypeId) (u : Value) : RdT (w.alloc (.cells #[u] e)) e (.slice (some ⟨b, 0, none⟩) 1 1) [u] := by
  subst h
  exact RdT.of_blk (xs := [u]) (Blk.fresh w e #[u]) rfl (Nat.le_refl _) (by decide)
theorem RdT.drop {b off n cap k : Nat} (h : RdT w e (.slice (some ⟨b, off, none⟩) n cap) xs) (hk : k < n) : RdT w e (.slice (some ⟨b, off + k, none⟩) (n - k) (cap - k)) (xs.drop k) := by
  obtain ⟨A', cap', hv, h1, h2, h3⟩ := h
  injection hv with e1 e2 e3
  subst e1 e2 e3
  obtain ⟨b', off', cs, fr, e, hb, hc⟩ := h3 (by omega)
  injection e with e
  injection e with e1 e2 e3
  subst e1 e2
  refine ⟨_, _, by rw [List.length_drop], by rw [List.length_drop]; omega, by omega, fun _ => ⟨_, _, cs, fr, rfl, hb, fun j u hu => ?_⟩⟩
  rw [List.getElem?_drop] at hu
  rw [Nat.add_assoc]
  exact hc _ u hu
end
theorem own_up {w w' : World} {v : Value} {xs : List Value} {base : Nat} {e : TypeId} {size n : Nat} (h : w.ownsRow base e size v n xs) (hb : Below w.heap.size w w') : w'.ownsRow base e size v n xs := by
  obtain ⟨h1, h2 | ⟨g, cap, cur, hv, hb', hg, r⟩⟩ := h
  · exact ⟨h1, .inl h2⟩
  · exact ⟨h1, .inr ⟨g, cap, cur, hv, hb', (hb.block g (Blk.lt (w := w) (g := g) (t := e) (cs := cur) hg)).trans hg, r⟩⟩
/-- A cell that is there stays as it is where the world has only grown. -/
theorem cell_up {w w' : World} {a : Addr} {v : Value} (h : w.cell? a = some v) (hb : Below w.heap.size w w') : w'.cell? a = some v :=
  (hb.cell (World.block_lt_of_cell? w a h)).trans h
theorem cell_grown {w w' : World} {a : Addr} {v u : Value} {base : Nat} {e : TypeId} {size n : Nat} {xs : List Value} (h : w.cell? a = some v) (hg : w.grownBy w' u.ownBlock)
    (ho : w.ownsRow base e size u n xs) (hlt : a.block < base) : w'.cell? a = some v := by
  refine (World.cell?_of_block (hg.block a.block (World.block_lt_of_cell? w a h) ?_)).trans h
  rcases ho.2 with ⟨rfl, _⟩ | ⟨g, cap, cur, rfl, hb, _⟩
  · simp [Value.ownBlock]
  · simp only [Value.ownBlock, ne_eq, Option.some.injEq]; omega
theorem below_grown {w0 w w' : World} {u : Value} {base : Nat} {e : TypeId} {size n : Nat} {xs : List Value} (hb : Below base w0 w) (hg : w.grownBy w' u.ownBlock)
    (ho : w.ownsRow base e size u n xs) (hB : base ≤ w.heap.size) : Below base w0 w' := by
  refine hb.grown hg hB (fun k hk => ?_)
  rcases ho.2 with ⟨rfl, _⟩ | ⟨g, cap, cur, rfl, hb', _⟩
  · simp [Value.ownBlock] at hk
  · simp only [Value.ownBlock, Option.some.injEq] at hk; omega
/-- append of one element, which lies in a new block, onto a row of the call's own: inside a region. -/
theorem step_app1 {P : Program} {ops : Array Oper} {o : Oper} {a : Act} {K : Act → World → Prop} {Q : Exit → Act → World → Prop} {E : Prop} (hgd : o.guard = none) (s x : Operand) (t : TypeId)
    (ho : o.op = .call { callee := .builtin .append, args := #[s, x], argTypes := #[t, t] }) (base : Nat) (e : TypeId) (i : TypeInfo) (z : Value) (bytes : Nat)
    (ht : P.underlying t = some (.slice e)) (hi : P.info? e = some i) (hz : i.zero = some z) (hsize : i.size = 1) (hby : i.bytes = bytes) (hzs : z.cells.size = 1)
    (v : Value) (n : Nat) (xs : List Value) (hs : a.eval s = v) (w : World) (u : Value) (hown : w.ownsRow base e 1 v n xs) (c : Nat)
    (hx : a.eval x = .slice (some ⟨w.heap.size, 0, none⟩) 1 c) (hu : u.oneCell' = true) (hn : n + 1 ≤ maxLen) (hb : (n + 1) * bytes ≤ 140737488355328) (hbase : base ≤ w.heap.size)
    (h : ∀ g cap w', w'.ownsRow base e 1 (.slice (some ⟨g, 0, none⟩) (n + 1) cap) (n + 1) (xs ++ [u]) → (w.alloc (.cells #[u] e)).grownBy w' v.ownBlock →
      K (a.put o.dst (.slice (some ⟨g, 0, none⟩) (n + 1) cap)) w') :
    if Region.wanted o (yielded ops a.tmps) = true then Oper.wp P o a (w.alloc (.cells #[u] e)) K Q else E := by
  refine step_append_lies _ hgd s x t ho base e i z 1 bytes ht hi hz hsize hby hzs (by omega) v n xs hs (hown.alloc _) ⟨w.heap.size, 0, none⟩ 1 c [u] hx rfl (fun j y hj => ?_) (fun y hy => ?_) (by omega) hn hb (by simp; omega) _ rfl
    (fun g cap w' h1 h2 _ _ => h g cap w' h1 h2)
  · have : j = 0 := by have := (List.getElem?_eq_some_iff.1 hj).1; simp at this; omega
    subst this
    rw [show (⟨w.heap.size, 0, none⟩ : Addr).add 0 = ⟨w.heap.size, 0, none⟩ from rfl, (Blk.fresh w e #[u]).cell]
    simpa using hj
  · simp at hy; subst hy; exact hu
/-- n cells that all hold z. -/
def rep (n : Nat) (z : Value) : Array Value := Array.replicate n z
theorem rep_size (n : Nat) (z : Value) : (rep n z).size = n := by simp [rep]
theorem rep_at {n i : Nat} (z : Value) (h : i < n) : (rep n z)[i]? = some z := by simp [rep, h]
theorem run_mk {P : Program} (t e : TypeId) (z : Value) (bytes : Nat) (ht : P.underlying t = some (.slice e)) (hinfo : (P.info? e).map (fun i => (i.zero, i.size, i.bytes)) = some (some z, 1, bytes)) (hz1 : z.cells = #[z])
    (n : Nat) (hbytes : bytes * n ≤ 281474976710656) (h63 : n ≤ 9223372036854775807) (w : World) :
    (Instr.makeSlice t (.int .i64 (n : Int)) (.int .i64 (n : Int))).run P w = .ok (.slice (some ⟨w.heap.size, 0, none⟩) n n) (w.alloc (.cells (rep n z) e)) := by
  have h1 := Go.run_make_row' t e z bytes ht hinfo hz1 .i64 .i64 n hbytes h63 w
  rw [h1]
  have h2 : Go.madeCells #[z] n = rep n z := by
    unfold rep
    apply Array.ext_getElem?
    intro i
    simp only [madeCells]
    by_cases hi : i < n
    · simp [hi, Nat.mod_one]
    · simp [hi]
  rw [h2]
/-- Integers of kind k as values. -/
def vals (k : IntKind) (xs : List Int) : List Value := xs.map (Value.int k)
theorem vals_len (k : IntKind) (xs : List Int) : (vals k xs).length = xs.length := by simp [vals]
theorem vals_at {k : IntKind} {xs : List Int} {i : Nat} {u : Value} (h : (vals k xs)[i]? = some u) : u = .int k (xs.getD i 0) := by
  unfold vals at h
  rw [List.getElem?_map] at h
  obtain ⟨y, hy, rfl⟩ := Option.map_eq_some_iff.1 h
  simp [List.getD, hy]

/-! ### append of a whole slice onto a row of the call's own -/
section
variable {P : Program} (w : World)
theorem run_app_nil (base : Nat) (t ty e : TypeId) (i : TypeInfo) (ht : P.underlying t = some (.slice e)) (hi : P.info? e = some i)
    (v : Value) (n : Nat) (xs : List Value) (hown : w.ownsRow base e 1 v n xs) (c : Nat) : (Builtin.append_ #[t, t] ty #[v, .slice none 0 c]).run P w = .ok v w := by
  obtain ⟨_, ⟨rfl, rfl⟩ | ⟨g, cap, cur, rfl, _, _, hnc, _⟩⟩ := hown
  · simp [Builtin.append_, run_underlying ht, sizeOf, typeInfo, hi, Builtin.lenOf, Builtin.firstCells]
  · simp [Builtin.append_, run_underlying ht, sizeOf, typeInfo, hi, Builtin.lenOf, Builtin.firstCells, hnc, storeCells]
theorem run_app_rd (base : Nat) (t ty e : TypeId) (i : TypeInfo) (z : Value) (bytes : Nat) (ht : P.underlying t = some (.slice e)) (hi : P.info? e = some i) (hz : i.zero = some z)
    (hsize : i.size = 1) (hby : i.bytes = bytes) (hzs : z.cells.size = 1)
    (v : Value) (n : Nat) (xs : List Value) (hown : w.ownsRow base e 1 v n xs) (B : Nat) (src : Value) (ys : List Value) (hr : Rd w B src ys) (h1 : ∀ u ∈ ys, u.oneCell' = true)
    (h63 : n + ys.length ≤ maxLen) (hbytes : (n + ys.length) * bytes ≤ 140737488355328) (hbase : base ≤ w.heap.size) :
    ∃ v' w', (Builtin.append_ #[t, t] ty #[v, src]).run P w = .ok v' w' ∧ w'.ownsRow base e 1 v' (n + ys.length) (xs ++ ys) ∧ w.grownBy w' v.ownBlock := by
  obtain ⟨A, cap, rfl, _, _, h3⟩ := hr
  rcases A with _ | ad
  · have hn : ys = [] := by
      rcases ys with _ | ⟨y, r⟩
      · rfl
      · obtain ⟨b, off, he, _⟩ := h3 (by simp); cases he
    subst hn
    exact ⟨v, w, run_app_nil w base t ty e i ht hi v n xs hown cap, by simpa using hown, World.grownBy.refl w _⟩
  · have hc : ∀ j u, ys[j]? = some u → w.cell? (ad.add j) = some u := by
      intro j u hu
      have hj : j < ys.length := (List.getElem?_eq_some_iff.1 hu).1
      obtain ⟨b, off, he, _, hcc⟩ := h3 (by omega)
      injection he with he
      subst he
      have e1 : (⟨b, off, none⟩ : Addr).add j = ⟨b, off + j, none⟩ := by unfold Addr.add; split <;> simp_all
      rw [e1]; exact hcc j u hu
    obtain ⟨v', w', hrun, h2, h4, _, _⟩ := run_append_own_at (P := P) w base t ty e i z 1 bytes ht hi hz hsize hby hzs (by omega) v n xs hown ad ys.length cap ys (by simp) hc h1 h63 hbytes hbase
    exact ⟨v', w', hrun, h2, h4⟩
theorem wp_app_rd {o : Oper} {a : Act} {K : Act → World → Prop} {Q : Exit → Act → World → Prop} (s x : Operand) (t : TypeId)
    (ho : o.op = .call { callee := .builtin .append, args := #[s, x], argTypes := #[t, t] })
    (base : Nat) (e : TypeId) (i : TypeInfo) (z : Value) (bytes : Nat) (ht : P.underlying t = some (.slice e)) (hi : P.info? e = some i) (hz : i.zero = some z)
    (hsize : i.size = 1) (hby : i.bytes = bytes) (hzs : z.cells.size = 1)
    (v : Value) (n : Nat) (xs : List Value) (hs : a.eval s = v) (hown : w.ownsRow base e 1 v n xs) (B : Nat) (src : Value) (ys : List Value) (hx : a.eval x = src) (hr : Rd w B src ys) (h1 : ∀ u ∈ ys, u.oneCell' = true)
    (h63 : n + ys.length ≤ maxLen) (hbytes : (n + ys.length) * bytes ≤ 140737488355328) (hbase : base ≤ w.heap.size)
    (h : ∀ v' w', w'.ownsRow base e 1 v' (n + ys.length) (xs ++ ys) → w.grownBy w' v.ownBlock → K (a.put o.dst v') w') : o.wp P a w K Q := by
  obtain ⟨v', w', hrun, h2, h3⟩ := run_app_rd (P := P) w base t o.type e i z bytes ht hi hz hsize hby hzs v n xs hown B src ys hr h1 h63 hbytes hbase
  unfold Oper.wp execOp
  simp only [ho, resolve, invoke, builtin, Sem.run_bind, Sem.run_pure, Result.andThen_ok, List.map_toArray, List.map_cons, List.map_nil, hs, hx, hrun]
  exact h v' w' h2 h3
theorem list_app_rd {ops : Array Oper} {rest : List Oper} {o : Oper} {a : Act} {Q : Exit → Act → World → Prop} (hgd : o.guard = none) (s x : Operand) (t : TypeId)
    (ho : o.op = .call { callee := .builtin .append, args := #[s, x], argTypes := #[t, t] })
    (base : Nat) (e : TypeId) (i : TypeInfo) (z : Value) (bytes : Nat) (ht : P.underlying t = some (.slice e)) (hi : P.info? e = some i) (hz : i.zero = some z)
    (hsize : i.size = 1) (hby : i.bytes = bytes) (hzs : z.cells.size = 1)
    (v : Value) (n : Nat) (xs : List Value) (hs : a.eval s = v) (hown : w.ownsRow base e 1 v n xs) (B : Nat) (src : Value) (ys : List Value) (hx : a.eval x = src) (hr : Rd w B src ys) (h1 : ∀ u ∈ ys, u.oneCell' = true)
    (h63 : n + ys.length ≤ maxLen) (hbytes : (n + ys.length) * bytes ≤ 140737488355328) (hbase : base ≤ w.heap.size)
    (h : ∀ v' w', w'.ownsRow base e 1 v' (n + ys.length) (xs ++ ys) → w.grownBy w' v.ownBlock → wpList P ops Q rest (a.put o.dst v') w') : wpList P ops Q (o :: rest) a w :=
  wpList_plain hgd fun _ hK => wp_app_rd w s x t ho base e i z bytes ht hi hz hsize hby hzs v n xs hs hown B src ys hx hr h1 h63 hbytes hbase fun v' w' h2 h3 => hK _ _ (h v' w' h2 h3)
theorem step_app_rd {ops : Array Oper} {o : Oper} {a : Act} {K : Act → World → Prop} {Q : Exit → Act → World → Prop} {E : Prop} (hgd : o.guard = none) (s x : Operand) (t : TypeId)
    (ho : o.op = .call { callee := .builtin .append, args := #[s, x], argTypes := #[t, t] })
    (base : Nat) (e : TypeId) (i : TypeInfo) (z : Value) (bytes : Nat) (ht : P.underlying t = some (.slice e)) (hi : P.info? e = some i) (hz : i.zero = some z)
    (hsize : i.size = 1) (hby : i.bytes = bytes) (hzs : z.cells.size = 1)
    (v : Value) (n : Nat) (xs : List Value) (hs : a.eval s = v) (hown : w.ownsRow base e 1 v n xs) (B : Nat) (src : Value) (ys : List Value) (hx : a.eval x = src) (hr : Rd w B src ys) (h1 : ∀ u ∈ ys, u.oneCell' = true)
    (h63 : n + ys.length ≤ maxLen) (hbytes : (n + ys.length) * bytes ≤ 140737488355328) (hbase : base ≤ w.heap.size)
    (h : ∀ v' w', w'.ownsRow base e 1 v' (n + ys.length) (xs ++ ys) → w.grownBy w' v.ownBlock → K (a.put o.dst v') w') :
    if Region.wanted o (yielded ops a.tmps) = true then Oper.wp P o a w K Q else E := by
  have hw : Region.wanted o (yielded ops a.tmps) = true := by simp [Region.wanted, hgd]
  rw [if_pos hw]
  exact wp_app_rd w s x t ho base e i z bytes ht hi hz hsize hby hzs v n xs hs hown B src ys hx hr h1 h63 hbytes hbase h
end
theorem own_nil (w : World) (base : Nat) (e : TypeId) : w.ownsRow base e 1 (.slice none 0 0) 0 [] := ⟨rfl, .inl ⟨rfl, rfl⟩⟩
theorem own_empty {w : World} {g base : Nat} {e : TypeId} (h : Blk w g e #[]) (hb : base ≤ g) : w.ownsRow base e 1 (.slice (some ⟨g, 0, none⟩) 0 0) 0 [] :=
  ⟨rfl, .inr ⟨g, 0, #[], rfl, hb, h, Nat.le_refl _, by decide, rfl, rfl⟩⟩

/-! ### The frame of a law -/
section
variable {H : Type} {enc : TypeId × Value → H} {P : Program}
theorem trodAll_stays (hl : laidOutB P = true) {W W' : World} {sp : Nat → Bool} : ∀ (ts : List TypeId) (vs : List Value) (ds : List (DataW H)) (ps : List MemPlace),
    (∀ t ∈ ts, P.readableRec t = true ∧ t < P.types.size) → DataW.TrodAll enc P W 0 (fun _ => true) true ts vs ds ps → (∀ p ∈ ps, W.sameAt W' p) → (∀ p ∈ ps, sp p.block = true) →
    DataW.TrodAll enc P W' 0 sp true ts vs ds ps
  | [], vs, ds, ps, _, h, _, _ => by
    obtain ⟨rfl, rfl, rfl⟩ := trodAll_nil h
    exact trodAll_mk0
  | t :: ts, vs, ds, ps, hts, h, hsame, hsp => by
    obtain ⟨v, vs', d, ds', p, q, rfl, rfl, rfl, h1, h2⟩ := trodAll_cons h
    refine trodAll_cons_mk ?_ ?_
    · exact WideElems.Trod_stays hl (hts t (List.mem_cons_self ..)).1 (hts t (List.mem_cons_self ..)).2 h1 (fun x hx => hsame x (List.mem_append.2 (.inl hx))) (fun x hx => hsp x (List.mem_append.2 (.inl hx)))
    · exact trodAll_stays hl ts vs' ds' q (fun t ht => hts t (List.mem_cons_of_mem _ ht)) h2 (fun x hx => hsame x (List.mem_append.2 (.inr hx))) (fun x hx => hsp x (List.mem_append.2 (.inr hx)))
theorem law_post {f : Func} {s : ChangeSpec} {apart : Bool} {W W' : World} {args : Array Value} {ds gs : List (DataW H)} {before : List MemPlace} {tb : TypeId}
    (hl : laidOutB P = true) (hts : (f.params.toList.all fun t => P.readableRec t && decide (t < P.types.size)) = true) (htb : P.underlying tb = some .bool) (hrt : f.resultTypes = #[tb]) (hvars : s.vars = [])
    (hW : DataW.Whole enc P f.params.toList s.vars apart W args.toList ds gs before)
    (hs : (s.fn H (ds ++ gs)).results = [.lit (.bool true)] ∧ (s.fn H (ds ++ gs)).args = ds ∧ (s.fn H (ds ++ gs)).vars = [])
    (hb : Below W.heap.size W W') : s.post enc P f apart true false false W args (.bool true) W' := by
  have hts' : ∀ t ∈ f.params.toList, P.readableRec t = true ∧ t < P.types.size := fun t ht => by
    have := List.all_eq_true.1 hts t ht
    simpa using this
  have hlt : ∀ p ∈ before, p.block < W.heap.size := fun p hp => hW.lt p hp
  have hW0 := hW
  obtain ⟨p, q, hA, hV, rfl, _, _⟩ := hW
  rw [hvars] at hV
  have hq : q = [] ∧ gs = [] := by
    cases gs with
    | nil => exact ⟨hV, rfl⟩
    | cons _ _ => exact hV.elim
  obtain ⟨rfl, rfl⟩ := hq
  simp only [List.append_nil] at hW0 hlt hs ⊢
  refine ⟨ds, [], p, [], p, [], hW0, ?_, ?_, ?_, ?_, fun h => by cases h⟩
  · rw [List.append_nil, hs.1, hrt]
    exact trodAll_mk1 (shut_bool htb true)
  · rw [List.append_nil, hs.2.1]
    exact trodAll_stays hl _ _ _ _ hts' hA (fun x hx => hb.same (hlt x hx)) (fun x hx => by simpa using hlt x hx)
  · rw [List.append_nil, hs.2.2, hvars]
    exact rfl
  · exact World.keptBut_mono (fun x hx => ⟨hx, Or.inr (Or.inl hx)⟩) (hb.frame (· ∈ p))

/-! ### What an argument reads as -/
theorem rd_ints {t e : TypeId} {k : IntKind} {W : World} {v : Value} {d : DataW H} {ps : List MemPlace} (ht : P.underlying t = some (.slice e)) (he : P.underlying e = some (.int k)) (hc : P.cellsOf e = 1)
    (hv : ∃ a len cap, v = .slice a len cap) (h : DataW.Trod enc P W 0 (fun _ => true) true t v d ps) (hlt : ∀ p ∈ ps, p.block < W.heap.size) :
    ∃ xs : List Int, Rd W W.heap.size v (vals k xs) ∧ ∀ n ∈ xs, (Lit.int k n).wf = true := by
  obtain ⟨a0, len0, cap0, rfl⟩ := hv
  obtain ⟨fuel, hf⟩ := h
  rcases open_ints ht he hc hf with ⟨hcs, _⟩ | ⟨a, len, cap, zs, hcs, _, hl, hm, hz, hx, hcell, hwz⟩
  · simp only [Value.cells, List.cons.injEq, and_true] at hcs
    rw [hcs]
    exact ⟨[], Rd.nil_ _ _, fun n hn => by cases hn⟩
  · simp only [Value.cells, List.cons.injEq, and_true] at hcs
    rw [hcs]
    simp only [if_true] at hz
    have hlen : (vals k (zs.take len)).length = len := by rw [vals_len, List.length_take]; omega
    refine ⟨zs.take len, ⟨some a, cap, by rw [hlen], by omega, hm, fun hpos => ?_⟩, fun n hn => hwz n (List.mem_of_mem_take hn)⟩
    rw [hlen] at hpos
    have h0 := hcell 0 (by omega)
    obtain ⟨b, off, spot⟩ := a
    have hs : spot = none := by
      cases spot with
      | none => rfl
      | some x => simp [Addr.add, World.cell?] at h0; split at h0 <;> simp_all
    subst hs
    refine ⟨b, off, rfl, ?_, fun j u hu => ?_⟩
    · have hx2 := congrArg Prod.snd hx
      simp only at hx2
      exact hlt (.cell b off) (by rw [hx2]; simp only [MemPlace.row]; refine List.mem_map.2 ⟨0, by simp; omega, by simp⟩)
    · have hj : j < len := by have := (List.getElem?_eq_some_iff.1 hu).1; rw [hlen] at this; exact this
      have hc' := hcell j (by omega)
      rw [vals_at hu]
      have e1 : (⟨b, off, none⟩ : Addr).add j = ⟨b, off + j, none⟩ := by unfold Addr.add; split <;> simp_all
      rw [e1] at hc'
      rw [hc']
      have e2 : (zs.take len).getD j 0 = zs.getD j 0 := by simp [List.getD, List.getElem?_take_of_lt hj]
      rw [e2]
end
end Go.Proofs.Ytibdeekgcbmofaa
