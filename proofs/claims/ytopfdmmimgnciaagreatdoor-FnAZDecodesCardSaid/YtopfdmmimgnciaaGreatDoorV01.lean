/-
  GROUND: plain lemmas that the walks of this family use: numbers' bits, blocks, what a slice reads as, and the frame of a law (from 'it returns true and changes nothing old' to the row's own claim). GROUND: strings as bytes. PLAIN: what bits of an Aztec text say: numbers in so many bits, the modes' tables, and the reader's way. GROUND: a list that is filled place by place; where a walk is stopped. PLAIN: words of an Aztec symbol as bits, with and without the bits that are stuffed in. PLAIN: words of bits with stuffing, as AZStuff makes them, and what they say. PLAIN: what the bits of a message say, step by step, and with ones behind them. PLAIN: a message as AZWrite makes it of bytes, and that its bits say its text.
-/
import Derived.Test.YtopfdmmimgnciaaGreatDoorRows
import Derived.WalkKit
import Derived.WalkSpells
import Derived.ProofKit
import Derived.OpenShut
import Derived.Handy
import Derived.Deep.Draws
import Derived.Lib.Hide
import Derived.BigQuiet
import Derived.Deep.OwnRows
import Derived.Deep.RegionHeld3
import Derived.Deep.AppendLies
import Derived.Maps.AppendAt
import Derived.Lib.ConvBytes
import Derived.Laws.CopyOwn
namespace Go.Proofs.YtopfdmmimgnciaaGreatDoor
open Go.ChangeShapes Go.WideShapes Go.ChangeAt Go.RowKit

/-! ### Bits of int -/
theorem ofInt_64 (a : Nat) (ha : a < 9223372036854775808) : (BitVec.ofInt 64 (a : Int)).toNat = a := by
  rw [BitVec.ofInt_natCast, BitVec.toNat_ofNat]; exact Nat.mod_eq_of_lt (by omega)
theorem i64_xor (a b : Nat) (ha : a < 9223372036854775808) (hb : b < 9223372036854775808) : bits .xor .i64 (a : Int) (b : Int) = ((a ^^^ b : Nat) : Int) := by
  have hx : a ^^^ b < 2 ^ 63 := Nat.xor_lt_two_pow (by omega) (by omega)
  show IntKind.i64.wrap ((BitVec.ofInt 64 (a : Int) ^^^ BitVec.ofInt 64 (b : Int)).toNat : Int) = _
  rw [BitVec.toNat_xor, ofInt_64 a ha, ofInt_64 b hb, IntKind.wrap_i64]
  omega
theorem i64_and (a b : Nat) (ha : a < 9223372036854775808) (hb : b < 9223372036854775808) : bits .and .i64 (a : Int) (b : Int) = ((a &&& b : Nat) : Int) := by
  have hx : a &&& b < 2 ^ 63 := Nat.and_lt_two_pow _ (by omega)
  show IntKind.i64.wrap ((BitVec.ofInt 64 (a : Int) &&& BitVec.ofInt 64 (b : Int)).toNat : Int) = _
  rw [BitVec.toNat_and, ofInt_64 a ha, ofInt_64 b hb, IntKind.wrap_i64]
  omega
theorem i64_or (a b : Nat) (ha : a < 9223372036854775808) (hb : b < 9223372036854775808) : bits .or .i64 (a : Int) (b : Int) = ((a ||| b : Nat) : Int) := by
  have hx : a ||| b < 2 ^ 63 := Nat.or_lt_two_pow (by omega) (by omega)
  show IntKind.i64.wrap ((BitVec.ofInt 64 (a : Int) ||| BitVec.ofInt 64 (b : Int)).toNat : Int) = _
  rw [BitVec.toNat_or, ofInt_64 a ha, ofInt_64 b hb, IntKind.wrap_i64]
  omega

/-- A sum of two indexes, as a region that draws wants it. -/
theorem sum_ix (i k n : Nat) (h : i + k < n) (hn : n ≤ 9223372036854775807) : IntKind.i64.wrap ((i : Int) + (k : Int)) = (i : Int) + (k : Int) ∧ 0 ≤ (i : Int) + (k : Int) ∧ (i : Int) + (k : Int) < (n : Int) ∧ ((i : Int) + (k : Int)).toNat = i + k :=
  ⟨by rw [IntKind.wrap_i64]; omega, by omega, by omega, by omega⟩
/-! ### Endings -/
theorem ret_int {k : IntKind} {a b : Int} (h : a = b) : Ending.returned (.int k a) = .returned (.int k b) := by rw [h]
theorem ret_bool {a b : Bool} (h : a = b) : Ending.returned (.bool a) = .returned (.bool b) := by rw [h]

/-! ### Worlds that have grown -/
theorem below_drewN {B : Nat} {a w : World} (h : Below B a w) (n : Nat) : Below B a (w.drewN n) := ⟨h.os, h.tape, h.output, h.size, h.block⟩
theorem below_up {a b c : World} {B : Nat} (h : Below B a b) (k : Below b.heap.size b c) (hB : B ≤ b.heap.size) : Below B a c := h.trans (k.mono hB)
theorem bup {a b c : World} (h : Below a.heap.size a b) (k : Below b.heap.size b c) : Below a.heap.size a c := h.trans (k.mono h.size)
theorem bal {a b : World} (h : Below a.heap.size a b) (o : Obj) : Below a.heap.size a (b.alloc o) := h.alloc h.size o
theorem bdr {a b : World} (h : Below a.heap.size a b) : Below a.heap.size a b.drew := h.drew
theorem bdn {a b : World} (h : Below a.heap.size a b) (n : Nat) : Below a.heap.size a (b.drewN n) := below_drewN h n
theorem brf (a : World) : Below a.heap.size a a := Below.refl _ _
theorem below_cells {B : Nat} {w w' : World} (hb : Below B w w') (b o : Nat) (h : b < B) : w'.cell? ⟨b, o, none⟩ = w.cell? ⟨b, o, none⟩ := hb.cell (p := ⟨b, o, none⟩) h

/-! ### A block that is known whole -/
/-- Block g is just the cells cs, of element type t, none of them frozen. -/
def Blk (w : World) (g : Nat) (t : TypeId) (cs : Array Value) : Prop := w.heap[g]? = some (.cells cs t (0, 0))
section
variable {w w' : World} {g : Nat} {t : TypeId} {cs : Array Value}
theorem Blk.lt (h : Blk w g t cs) : g < w.heap.size := by
  rcases Nat.lt_or_ge g w.heap.size with hlt | hge
  · exact hlt
  · unfold Blk at h; rw [Array.getElem?_eq_none hge] at h; cases h
theorem Blk.cell (h : Blk w g t cs) (i : Nat) : w.cell? ⟨g, i, none⟩ = cs[i]? := by
  unfold Blk at h; simp [World.cell?, h]
theorem Blk.frozen (h : Blk w g t cs) (i : Nat) : w.frozen? ⟨g, i, none⟩ = false := by
  unfold Blk at h; simp [World.frozen?, h]
theorem Blk.fresh (w : World) (t : TypeId) (cs : Array Value) : Blk (w.alloc (.cells cs t)) w.heap.size t cs := by
  show (w.heap.push _)[w.heap.size]? = _
  simp
theorem Blk.fresh' {w : World} {g : Nat} {t : TypeId} {cs : Array Value} (h : w.heap.size = g) : Blk (w.alloc (.cells cs t)) g t cs := h ▸ Blk.fresh w t cs
theorem Blk.drew (h : Blk w g t cs) : Blk w.drew g t cs := h
theorem Blk.drewN (h : Blk w g t cs) (n : Nat) : Blk (w.drewN n) g t cs := h
theorem Blk.alloc (h : Blk w g t cs) (o : Obj) : Blk (w.alloc o) g t cs := (Below.heap_alloc w o g h.lt).trans h
theorem Blk.put (h : Blk w g t cs) (i : Nat) (u : Value) : Blk (w.setCell ⟨g, i, none⟩ u) g t (cs.setIfInBounds i u) := by
  unfold Blk at h ⊢
  simp [World.setCell, Array.getElem?_modify, h]
theorem Blk.far (h : Blk w g t cs) {p : Addr} (hp : g ≠ p.block) (u : Value) : Blk (w.setCell p u) g t cs := (Below.heap_setCell w p u g hp).trans h
theorem Blk.below {B : Nat} (h : Blk w g t cs) (hb : Below B w w') (hg : g < B) : Blk w' g t cs := (hb.block g hg).trans h
theorem Blk.up (h : Blk w g t cs) (hb : Below w.heap.size w w') : Blk w' g t cs := (hb.block g h.lt).trans h
theorem Blk.grown {row : Option Nat} (h : Blk w g t cs) (hb : w.grownBy w' row) (hg : some g ≠ row) : Blk w' g t cs := (hb.block g h.lt hg).trans h
end

/-! ### What a slice of one-cell elements reads as -/
/-- The slice value v reads as xs; what it lies in is below block B. -/
def Rd (w : World) (B : Nat) (v : Value) (xs : List Value) : Prop :=
  ∃ A cap, v = .slice A xs.length cap ∧ xs.length ≤ cap ∧ cap ≤ maxLen ∧
    (0 < xs.length → ∃ b off, A = some ⟨b, off, none⟩ ∧ b < B ∧ ∀ j u, xs[j]? = some u → w.cell? ⟨b, off + j, none⟩ = some u)
section
variable {w w' : World} {B B' : Nat} {v : Value} {xs : List Value}
theorem Rd.more (h : Rd w B v xs) (hB : B ≤ B') : Rd w B' v xs := by
  obtain ⟨A, cap, hv, h1, h2, h3⟩ := h
  exact ⟨A, cap, hv, h1, h2, fun hl => by obtain ⟨b, off, e, hb, hc⟩ := h3 hl; exact ⟨b, off, e, by omega, hc⟩⟩
theorem Rd.below (h : Rd w B v xs) (hb : Below B w w') : Rd w' B v xs := by
  obtain ⟨A, cap, hv, h1, h2, h3⟩ := h
  exact ⟨A, cap, hv, h1, h2, fun hl => by
    obtain ⟨b, off, e, hb', hc⟩ := h3 hl
    exact ⟨b, off, e, hb', fun j u hu => (below_cells hb b _ hb').trans (hc j u hu)⟩⟩
theorem Rd.up (h : Rd w w.heap.size v xs) (hb : Below w.heap.size w w') : Rd w' w'.heap.size v xs := (h.below hb).more hb.size
theorem Rd.len (h : Rd w B v xs) : xs.length ≤ maxLen := by obtain ⟨A, cap, _, h1, h2, _⟩ := h; omega
theorem Rd.nil_ (w : World) (B : Nat) : Rd w B (.slice none 0 0) [] := ⟨none, 0, rfl, Nat.le_refl _, by decide, fun h => absurd h (by simp)⟩
theorem Rd.of_own {base : Nat} {e : TypeId} {n : Nat} (h : w.ownsRow base e 1 v n xs) : Rd w w.heap.size v xs := by
  obtain ⟨h1, h2 | ⟨g, cap, cur, hv, hb, hg, hn, hc, hs, ht⟩⟩ := h
  · obtain ⟨rfl, rfl⟩ := h2
    have : xs = [] := List.eq_nil_of_length_eq_zero (by simpa using h1)
    subst this
    exact Rd.nil_ _ _
  · have hl : xs.length = n := by simpa using h1
    subst hl
    refine ⟨_, cap, hv, hn, hc, fun _ => ⟨g, 0, rfl, (Blk.lt (w := w) (g := g) (t := e) (cs := cur) hg), fun j u hu => ?_⟩⟩
    rw [Blk.cell (w := w) (g := g) (t := e) (cs := cur) hg]
    have hj : j < xs.length := (List.getElem?_eq_some_iff.1 hu).1
    rw [Nat.zero_add]
    rw [← ht] at hu
    rw [List.getElem?_take_of_lt (by omega)] at hu
    simpa using hu
/-- A whole block as a slice. -/
theorem Rd.of_blk {g : Nat} {t : TypeId} {n cap : Nat} (h : Blk w g t xs.toArray) (hn : n = xs.length) (hc : xs.length ≤ cap) (hm : cap ≤ maxLen) : Rd w w.heap.size (.slice (some ⟨g, 0, none⟩) n cap) xs := by
  subst hn
  refine ⟨_, cap, rfl, hc, hm, fun _ => ⟨g, 0, rfl, h.lt, fun j u hu => ?_⟩⟩
  rw [h.cell, Nat.zero_add]
  simpa using hu
theorem Rd.one {w : World} {b : Nat} (h : w.heap.size = b) (t : TypeId) (u : Value) : Rd (w.alloc (.cells #[u] t)) (w.alloc (.cells #[u] t)).heap.size (.slice (some ⟨b, 0, none⟩) 1 1) [u] := by
  subst h
  exact Rd.of_blk (t := t) (xs := [u]) (Blk.fresh w t #[u]) rfl (Nat.le_refl _) (by decide)
theorem Rd.at_ {A : Option Addr} {n cap : Nat} (h : Rd w B (.slice A n cap) xs) {i : Nat} (hi : i < n) :
    ∃ b off u, A = some ⟨b, off, none⟩ ∧ b < B ∧ xs[i]? = some u ∧ w.cell? ⟨b, off + i, none⟩ = some u := by
  obtain ⟨A', cap', hv, _, _, h3⟩ := h
  injection hv with e1 e2 e3
  subst e1 e2 e3
  obtain ⟨b, off, e, hb, hc⟩ := h3 (by omega)
  exact ⟨b, off, xs[i], e, hb, List.getElem?_eq_getElem hi, hc i _ (List.getElem?_eq_getElem hi)⟩
theorem Rd.drop {b off n cap k : Nat} (h : Rd w B (.slice (some ⟨b, off, none⟩) n cap) xs) (hk : k < n) : Rd w B (.slice (some ⟨b, off + k, none⟩) (n - k) (cap - k)) (xs.drop k) := by
  obtain ⟨A', cap', hv, h1, h2, h3⟩ := h
  injection hv with e1 e2 e3
  subst e1 e2 e3
  obtain ⟨b', off', e, hb, hc⟩ := h3 (by omega)
  injection e with e
  injection e with e1 e2 e3
  subst e1 e2
  refine ⟨_, _, by rw [List.length_drop], by rw [List.length_drop]; omega, by omega, fun _ => ⟨_, _, rfl, hb, fun j u hu => ?_⟩⟩
  rw [List.getElem?_drop] at hu
  rw [Nat.add_assoc]
  exact hc _ u hu
theorem Rd.form (h : Rd w B v xs) : ∃ A cap, v = .slice A xs.length cap ∧ xs.length ≤ cap ∧ cap ≤ maxLen := by
  obtain ⟨A, cap, hv, h1, h2, _⟩ := h; exact ⟨A, cap, hv, h1, h2⟩
end
/-- The slice value v reads as xs, and lies in a block of elements of type e. -/
def RdT (w : World) (e : TypeId) (v : Value) (xs : List Value) : Prop :=
  ∃ A cap, v = .slice A xs.length cap ∧ xs.length ≤ cap ∧ cap ≤ maxLen ∧
    (0 < xs.length → ∃ b off cs fr, A = some ⟨b, off, none⟩ ∧ w.heap[b]? = some (.cells cs e fr) ∧ ∀ j u, xs[j]? = some u → cs[off + j]? = some u)
section
variable {w w' : World} {e : TypeId} {v : Value} {xs : List Value}
theorem heap_lt {b : Nat} {o : Obj} (h : w.heap[b]? = some o) : b < w.heap.size := (Array.getElem?_eq_some_iff.1 h).1
theorem RdT.rd (h : RdT w e v xs) : Rd w w.heap.size v xs := by
  obtain ⟨A, cap, hv, h1, h2, h3⟩ := h
  refine ⟨A, cap, hv, h1, h2, fun hl => ?_⟩
  obtain ⟨b, off, cs, fr, hA, hh, hc⟩ := h3 hl
  exact ⟨b, off, hA, heap_lt hh, fun j u hu => by rw [World.cell?, hh]; simpa using hc j u hu⟩
theorem RdT.up (h : RdT w e v xs) (hb : Below w.heap.size w w') : RdT w' e v xs := by
  obtain ⟨A, cap, hv, h1, h2, h3⟩ := h
  refine ⟨A, cap, hv, h1, h2, fun hl => ?_⟩
  obtain ⟨b, off, cs, fr, hA, hh, hc⟩ := h3 hl
  exact ⟨b, off, cs, fr, hA, (hb.block b (heap_lt hh)).trans hh, hc⟩
theorem RdT.grown {row : Option Nat} (h : RdT w e v xs) (hb : w.grownBy w' row) (hr : ∀ g, row = some g → ∃ cs t fr, w.heap[g]? = some (.cells cs t fr) ∧ t ≠ e) : RdT w' e v xs := by
  obtain ⟨A, cap, hv, h1, h2, h3⟩ := h
  refine ⟨A, cap, hv, h1, h2, fun hl => ?_⟩
  obtain ⟨b, off, cs, fr, hA, hh, hc⟩ := h3 hl
  refine ⟨b, off, cs, fr, hA, (hb.block b (heap_lt hh) (fun he => ?_)).trans hh, hc⟩
  obtain ⟨cs', t, fr', h4, h5⟩ := hr b he.symm
  rw [hh] at h4
  injection h4 with h4
  injection h4 with _ h6
  exact h5 h6.symm
theorem RdT.far (h : RdT w e v xs) {p : Addr} {t : TypeId} {cs : Array Value} (hp : Blk w p.block t cs) (ht : t ≠ e) (u : Value) : RdT (w.setCell p u) e v xs := by
  obtain ⟨A, cap, hv, h1, h2, h3⟩ := h
  refine ⟨A, cap, hv, h1, h2, fun hl => ?_⟩
  obtain ⟨b, off, cs', fr, hA, hh, hc⟩ := h3 hl
  refine ⟨b, off, cs', fr, hA, (Below.heap_setCell w p u b (fun he => ?_)).trans hh, hc⟩
  subst he
  unfold Blk at hp
  rw [hh] at hp
  injection hp with hp
  injection hp with _ h6
  exact ht h6.symm
theorem RdT.nil_ (w : World) (e : TypeId) : RdT w e (.slice none 0 0) [] := ⟨none, 0, rfl, Nat.le_refl _, by decide, fun h => absurd h (by simp)⟩
theorem RdT.of_own {base n : Nat} (h : w.ownsRow base e 1 v n xs) : RdT w e v xs := by
  obtain ⟨h1, h2 | ⟨g, cap, cur, hv, hb, hg, hn, hc, hs, ht⟩⟩ := h
  · obtain ⟨rfl, rfl⟩ := h2
    have : xs = [] := List.eq_nil_of_length_eq_zero (by simpa using h1)
    subst this
    exact RdT.nil_ _ _
  · have hl : xs.length = n := by simpa using h1
    subst hl
    refine ⟨_, cap, hv, hn, hc, fun _ => ⟨g, 0, cur, _, rfl, hg, fun j u hu => ?_⟩⟩
    have hj : j < xs.length := (List.getElem?_eq_some_iff.1 hu).1
    rw [Nat.zero_add]
    rw [← ht, List.getElem?_take_of_lt (by omega)] at hu
    simpa using hu
theorem RdT.of_blk {g n cap : Nat} (h : Blk w g e xs.toArray) (hn : n = xs.length) (hc : xs.length ≤ cap) (hm : cap ≤ maxLen) : RdT w e (.slice (some ⟨g, 0, none⟩) n cap) xs := by
  subst hn
  exact ⟨_, cap, rfl, hc, hm, fun _ => ⟨g, 0, _, _, rfl, h, fun j u hu => by rw [Nat.zero_add]; simpa using hu⟩⟩
theorem RdT.one {b : Nat} (h : w.heap.size = b) (e : TypeId) (u : Value) : RdT (w.alloc (.cells #[u] e)) e (.slice (some ⟨b, 0, none⟩) 1 1) [u] := by
  subst h
  exact RdT.of_blk (xs := [u]) (Blk.fresh w e #[u]) rfl (Nat.le_refl _) (by decide)
theorem RdT.drop {b off n cap k : Nat} (h : RdT w e (.slice (some ⟨b, off, none⟩) n cap) xs) (hk : k < n) : RdT w e (.slice (some ⟨b, off + k, none⟩) (n - k) (cap - k)) (xs.drop k) := by
  obtain ⟨A', cap', hv, h1, h2, h3⟩ := h
  injection hv with e1 e2 e3
  subst e1 e2 e3
  obtain ⟨b', off', cs, fr, e, hb, hc⟩ := h3 (by omega)
  injection e with e
  injection e with e1 e2 e3
  subst e1 e2
  refine ⟨_, _, by rw [List.length_drop], by rw [List.length_drop]; omega, by omega, fun _ => ⟨_, _, cs, fr, rfl, hb, fun j u hu => ?_⟩⟩
  rw [List.getElem?_drop] at hu
  rw [Nat.add_assoc]
  exact hc _ u hu
end
theorem own_up {w w' : World} {v : Value} {xs : List Value} {base : Nat} {e : TypeId} {size n : Nat} (h : w.ownsRow base e size v n xs) (hb : Below w.heap.size w w') : w'.ownsRow base e size v n xs := by
  obtain ⟨h1, h2 | ⟨g, cap, cur, hv, hb', hg, r⟩⟩ := h
  · exact ⟨h1, .inl h2⟩
  · exact ⟨h1, .inr ⟨g, cap, cur, hv, hb', (hb.block g (Blk.lt (w := w) (g := g) (t := e) (cs := cur) hg)).trans hg, r⟩⟩
/-- A cell that is there stays as it is where the world has only grown. -/
theorem cell_up {w w' : World} {a : Addr} {v : Value} (h : w.cell? a = some v) (hb : Below w.heap.size w w') : w'.cell? a = some v :=
  (hb.cell (World.block_lt_of_cell? w a h)).trans h
theorem below_grown {w0 w w' : World} {u : Value} {base : Nat} {e : TypeId} {size n : Nat} {xs : List Value} (hb : Below base w0 w) (hg : w.grownBy w' u.ownBlock)
    (ho : w.ownsRow base e size u n xs) (hB : base ≤ w.heap.size) : Below base w0 w' := by
  refine hb.grown hg hB (fun k hk => ?_)
  rcases ho.2 with ⟨rfl, _⟩ | ⟨g, cap, cur, rfl, hb', _⟩
  · simp [Value.ownBlock] at hk
  · simp only [Value.ownBlock, Option.some.injEq] at hk; omega
/-- n cells that all hold z. -/
def rep (n : Nat) (z : Value) : Array Value := Array.replicate n z
theorem rep_size (n : Nat) (z : Value) : (rep n z).size = n := by simp [rep]
theorem run_mk {P : Program} (t e : TypeId) (z : Value) (bytes : Nat) (ht : P.underlying t = some (.slice e)) (hinfo : (P.info? e).map (fun i => (i.zero, i.size, i.bytes)) = some (some z, 1, bytes)) (hz1 : z.cells = #[z])
    (n : Nat) (hbytes : bytes * n ≤ 281474976710656) (h63 : n ≤ 9223372036854775807) (w : World) :
    (Instr.makeSlice t (.int .i64 (n : Int)) (.int .i64 (n : Int))).run P w = .ok (.slice (some ⟨w.heap.size, 0, none⟩) n n) (w.alloc (.cells (rep n z) e)) := by
  have h1 := Go.run_make_row' t e z bytes ht hinfo hz1 .i64 .i64 n hbytes h63 w
  rw [h1]
  have h2 : Go.madeCells #[z] n = rep n z := by
    unfold rep
    apply Array.ext_getElem?
    intro i
    simp only [madeCells]
    by_cases hi : i < n
    · simp [hi, Nat.mod_one]
    · simp [hi]
  rw [h2]
/-- Integers of kind k as values. -/
def vals (k : IntKind) (xs : List Int) : List Value := xs.map (Value.int k)
theorem vals_len (k : IntKind) (xs : List Int) : (vals k xs).length = xs.length := by simp [vals]
theorem vals_at {k : IntKind} {xs : List Int} {i : Nat} {u : Value} (h : (vals k xs)[i]? = some u) : u = .int k (xs.getD i 0) := by
  unfold vals at h
  rw [List.getElem?_map] at h
  obtain ⟨y, hy, rfl⟩ := Option.map_eq_some_iff.1 h
  simp [List.getD, hy]

/-! ### append of a whole slice onto a row of the call's own -/
section
variable {P : Program} (w : World)
theorem run_app_nil (base : Nat) (t ty e : TypeId) (i : TypeInfo) (ht : P.underlying t = some (.slice e)) (hi : P.info? e = some i)
    (v : Value) (n : Nat) (xs : List Value) (hown : w.ownsRow base e 1 v n xs) (c : Nat) : (Builtin.append_ #[t, t] ty #[v, .slice none 0 c]).run P w = .ok v w := by
  obtain ⟨_, ⟨rfl, rfl⟩ | ⟨g, cap, cur, rfl, _, _, hnc, _⟩⟩ := hown
  · simp [Builtin.append_, run_underlying ht, sizeOf, typeInfo, hi, Builtin.lenOf, Builtin.firstCells]
  · simp [Builtin.append_, run_underlying ht, sizeOf, typeInfo, hi, Builtin.lenOf, Builtin.firstCells, hnc, storeCells]
theorem run_app_rd (base : Nat) (t ty e : TypeId) (i : TypeInfo) (z : Value) (bytes : Nat) (ht : P.underlying t = some (.slice e)) (hi : P.info? e = some i) (hz : i.zero = some z)
    (hsize : i.size = 1) (hby : i.bytes = bytes) (hzs : z.cells.size = 1)
    (v : Value) (n : Nat) (xs : List Value) (hown : w.ownsRow base e 1 v n xs) (B : Nat) (src : Value) (ys : List Value) (hr : Rd w B src ys) (h1 : ∀ u ∈ ys, u.oneCell' = true)
    (h63 : n + ys.length ≤ maxLen) (hbytes : (n + ys.length) * bytes ≤ 140737488355328) (hbase : base ≤ w.heap.size) :
    ∃ v' w', (Builtin.append_ #[t, t] ty #[v, src]).run P w = .ok v' w' ∧ w'.ownsRow base e 1 v' (n + ys.length) (xs ++ ys) ∧ w.grownBy w' v.ownBlock := by
  obtain ⟨A, cap, rfl, _, _, h3⟩ := hr
  rcases A with _ | ad
  · have hn : ys = [] := by
      rcases ys with _ | ⟨y, r⟩
      · rfl
      · obtain ⟨b, off, he, _⟩ := h3 (by simp); cases he
    subst hn
    exact ⟨v, w, run_app_nil w base t ty e i ht hi v n xs hown cap, by simpa using hown, World.grownBy.refl w _⟩
  · have hc : ∀ j u, ys[j]? = some u → w.cell? (ad.add j) = some u := by
      intro j u hu
      have hj : j < ys.length := (List.getElem?_eq_some_iff.1 hu).1
      obtain ⟨b, off, he, _, hcc⟩ := h3 (by omega)
      injection he with he
      subst he
      have e1 : (⟨b, off, none⟩ : Addr).add j = ⟨b, off + j, none⟩ := by unfold Addr.add; split <;> simp_all
      rw [e1]; exact hcc j u hu
    obtain ⟨v', w', hrun, h2, h4, _, _⟩ := run_append_own_at (P := P) w base t ty e i z 1 bytes ht hi hz hsize hby hzs (by omega) v n xs hown ad ys.length cap ys (by simp) hc h1 h63 hbytes hbase
    exact ⟨v', w', hrun, h2, h4⟩
theorem wp_app_rd {o : Oper} {a : Act} {K : Act → World → Prop} {Q : Exit → Act → World → Prop} (s x : Operand) (t : TypeId)
    (ho : o.op = .call { callee := .builtin .append, args := #[s, x], argTypes := #[t, t] })
    (base : Nat) (e : TypeId) (i : TypeInfo) (z : Value) (bytes : Nat) (ht : P.underlying t = some (.slice e)) (hi : P.info? e = some i) (hz : i.zero = some z)
    (hsize : i.size = 1) (hby : i.bytes = bytes) (hzs : z.cells.size = 1)
    (v : Value) (n : Nat) (xs : List Value) (hs : a.eval s = v) (hown : w.ownsRow base e 1 v n xs) (B : Nat) (src : Value) (ys : List Value) (hx : a.eval x = src) (hr : Rd w B src ys) (h1 : ∀ u ∈ ys, u.oneCell' = true)
    (h63 : n + ys.length ≤ maxLen) (hbytes : (n + ys.length) * bytes ≤ 140737488355328) (hbase : base ≤ w.heap.size)
    (h : ∀ v' w', w'.ownsRow base e 1 v' (n + ys.length) (xs ++ ys) → w.grownBy w' v.ownBlock → K (a.put o.dst v') w') : o.wp P a w K Q := by
  obtain ⟨v', w', hrun, h2, h3⟩ := run_app_rd (P := P) w base t o.type e i z bytes ht hi hz hsize hby hzs v n xs hown B src ys hr h1 h63 hbytes hbase
  unfold Oper.wp execOp
  simp only [ho, resolve, invoke, builtin, Sem.run_bind, Sem.run_pure, Result.andThen_ok, List.map_toArray, List.map_cons, List.map_nil, hs, hx, hrun]
  exact h v' w' h2 h3
theorem list_app_rd {ops : Array Oper} {rest : List Oper} {o : Oper} {a : Act} {Q : Exit → Act → World → Prop} (hgd : o.guard = none) (s x : Operand) (t : TypeId)
    (ho : o.op = .call { callee := .builtin .append, args := #[s, x], argTypes := #[t, t] })
    (base : Nat) (e : TypeId) (i : TypeInfo) (z : Value) (bytes : Nat) (ht : P.underlying t = some (.slice e)) (hi : P.info? e = some i) (hz : i.zero = some z)
    (hsize : i.size = 1) (hby : i.bytes = bytes) (hzs : z.cells.size = 1)
    (v : Value) (n : Nat) (xs : List Value) (hs : a.eval s = v) (hown : w.ownsRow base e 1 v n xs) (B : Nat) (src : Value) (ys : List Value) (hx : a.eval x = src) (hr : Rd w B src ys) (h1 : ∀ u ∈ ys, u.oneCell' = true)
    (h63 : n + ys.length ≤ maxLen) (hbytes : (n + ys.length) * bytes ≤ 140737488355328) (hbase : base ≤ w.heap.size)
    (h : ∀ v' w', w'.ownsRow base e 1 v' (n + ys.length) (xs ++ ys) → w.grownBy w' v.ownBlock → wpList P ops Q rest (a.put o.dst v') w') : wpList P ops Q (o :: rest) a w :=
  wpList_plain hgd fun _ hK => wp_app_rd w s x t ho base e i z bytes ht hi hz hsize hby hzs v n xs hs hown B src ys hx hr h1 h63 hbytes hbase fun v' w' h2 h3 => hK _ _ (h v' w' h2 h3)
end
theorem own_nil (w : World) (base : Nat) (e : TypeId) : w.ownsRow base e 1 (.slice none 0 0) 0 [] := ⟨rfl, .inl ⟨rfl, rfl⟩⟩
theorem own_empty {w : World} {g base : Nat} {e : TypeId} (h : Blk w g e #[]) (hb : base ≤ g) : w.ownsRow base e 1 (.slice (some ⟨g, 0, none⟩) 0 0) 0 [] :=
  ⟨rfl, .inr ⟨g, 0, #[], rfl, hb, h, Nat.le_refl _, by decide, rfl, rfl⟩⟩

/-! ### The frame of a law -/
section
variable {H : Type} {enc : TypeId × Value → H} {P : Program}
theorem trodAll_stays (hl : laidOutB P = true) {W W' : World} {sp : Nat → Bool} : ∀ (ts : List TypeId) (vs : List Value) (ds : List (DataW H)) (ps : List MemPlace),
    (∀ t ∈ ts, P.readableRec t = true ∧ t < P.types.size) → DataW.TrodAll enc P W 0 (fun _ => true) true ts vs ds ps → (∀ p ∈ ps, W.sameAt W' p) → (∀ p ∈ ps, sp p.block = true) →
    DataW.TrodAll enc P W' 0 sp true ts vs ds ps
  | [], vs, ds, ps, _, h, _, _ => by
    obtain ⟨rfl, rfl, rfl⟩ := trodAll_nil h
    exact trodAll_mk0
  | t :: ts, vs, ds, ps, hts, h, hsame, hsp => by
    obtain ⟨v, vs', d, ds', p, q, rfl, rfl, rfl, h1, h2⟩ := trodAll_cons h
    refine trodAll_cons_mk ?_ ?_
    · exact WideElems.Trod_stays hl (hts t (List.mem_cons_self ..)).1 (hts t (List.mem_cons_self ..)).2 h1 (fun x hx => hsame x (List.mem_append.2 (.inl hx))) (fun x hx => hsp x (List.mem_append.2 (.inl hx)))
    · exact trodAll_stays hl ts vs' ds' q (fun t ht => hts t (List.mem_cons_of_mem _ ht)) h2 (fun x hx => hsame x (List.mem_append.2 (.inr hx))) (fun x hx => hsp x (List.mem_append.2 (.inr hx)))
theorem law_post {f : Func} {s : ChangeSpec} {apart : Bool} {W W' : World} {args : Array Value} {ds gs : List (DataW H)} {before : List MemPlace} {tb : TypeId}
    (hl : laidOutB P = true) (hts : (f.params.toList.all fun t => P.readableRec t && decide (t < P.types.size)) = true) (htb : P.underlying tb = some .bool) (hrt : f.resultTypes = #[tb]) (hvars : s.vars = [])
    (hW : DataW.Whole enc P f.params.toList s.vars apart W args.toList ds gs before)
    (hs : (s.fn H (ds ++ gs)).results = [.lit (.bool true)] ∧ (s.fn H (ds ++ gs)).args = ds ∧ (s.fn H (ds ++ gs)).vars = [])
    (hb : Below W.heap.size W W') : s.post enc P f apart true false false W args (.bool true) W' := by
  have hts' : ∀ t ∈ f.params.toList, P.readableRec t = true ∧ t < P.types.size := fun t ht => by
    have := List.all_eq_true.1 hts t ht
    simpa using this
  have hlt : ∀ p ∈ before, p.block < W.heap.size := fun p hp => hW.lt p hp
  have hW0 := hW
  obtain ⟨p, q, hA, hV, rfl, _, _⟩ := hW
  rw [hvars] at hV
  have hq : q = [] ∧ gs = [] := by
    cases gs with
    | nil => exact ⟨hV, rfl⟩
    | cons _ _ => exact hV.elim
  obtain ⟨rfl, rfl⟩ := hq
  simp only [List.append_nil] at hW0 hlt hs ⊢
  refine ⟨ds, [], p, [], p, [], hW0, ?_, ?_, ?_, ?_, fun h => by cases h⟩
  · rw [List.append_nil, hs.1, hrt]
    exact trodAll_mk1 (shut_bool htb true)
  · rw [List.append_nil, hs.2.1]
    exact trodAll_stays hl _ _ _ _ hts' hA (fun x hx => hb.same (hlt x hx)) (fun x hx => by simpa using hlt x hx)
  · rw [List.append_nil, hs.2.2, hvars]
    exact rfl
  · exact World.keptBut_mono (fun x hx => ⟨hx, Or.inr (Or.inl hx)⟩) (hb.frame (· ∈ p))

/-! ### What an argument reads as -/
theorem rd_ints {t e : TypeId} {k : IntKind} {W : World} {v : Value} {d : DataW H} {ps : List MemPlace} (ht : P.underlying t = some (.slice e)) (he : P.underlying e = some (.int k)) (hc : P.cellsOf e = 1)
    (hv : ∃ a len cap, v = .slice a len cap) (h : DataW.Trod enc P W 0 (fun _ => true) true t v d ps) (hlt : ∀ p ∈ ps, p.block < W.heap.size) :
    ∃ xs : List Int, Rd W W.heap.size v (vals k xs) ∧ ∀ n ∈ xs, (Lit.int k n).wf = true := by
  obtain ⟨a0, len0, cap0, rfl⟩ := hv
  obtain ⟨fuel, hf⟩ := h
  rcases open_ints ht he hc hf with ⟨hcs, _⟩ | ⟨a, len, cap, zs, hcs, _, hl, hm, hz, hx, hcell, hwz⟩
  · simp only [Value.cells, List.cons.injEq, and_true] at hcs
    rw [hcs]
    exact ⟨[], Rd.nil_ _ _, fun n hn => by cases hn⟩
  · simp only [Value.cells, List.cons.injEq, and_true] at hcs
    rw [hcs]
    simp only [if_true] at hz
    have hlen : (vals k (zs.take len)).length = len := by rw [vals_len, List.length_take]; omega
    refine ⟨zs.take len, ⟨some a, cap, by rw [hlen], by omega, hm, fun hpos => ?_⟩, fun n hn => hwz n (List.mem_of_mem_take hn)⟩
    rw [hlen] at hpos
    have h0 := hcell 0 (by omega)
    obtain ⟨b, off, spot⟩ := a
    have hs : spot = none := by
      cases spot with
      | none => rfl
      | some x => simp [Addr.add, World.cell?] at h0; split at h0 <;> simp_all
    subst hs
    refine ⟨b, off, rfl, ?_, fun j u hu => ?_⟩
    · have hx2 := congrArg Prod.snd hx
      simp only at hx2
      exact hlt (.cell b off) (by rw [hx2]; simp only [MemPlace.row]; refine List.mem_map.2 ⟨0, by simp; omega, by simp⟩)
    · have hj : j < len := by have := (List.getElem?_eq_some_iff.1 hu).1; rw [hlen] at this; exact this
      have hc' := hcell j (by omega)
      rw [vals_at hu]
      have e1 : (⟨b, off, none⟩ : Addr).add j = ⟨b, off + j, none⟩ := by unfold Addr.add; split <;> simp_all
      rw [e1] at hc'
      rw [hc']
      have e2 : (zs.take len).getD j 0 = zs.getD j 0 := by simp [List.getD, List.getElem?_take_of_lt hj]
      rw [e2]
end
end Go.Proofs.YtopfdmmimgnciaaGreatDoor
namespace Go.Proofs.YtopfdmmimgnciaaGreatDoor
open Go.RowKit

/-- The bytes of a string as values. -/
def bytesOf (s : ByteArray) : List Value := s.data.toList.map fun b => Value.int .u8 b.toNat
theorem bytesOf_len (s : ByteArray) : (bytesOf s).length = s.size := by simp [bytesOf]
theorem bytesOf_at (s : ByteArray) (i : Nat) (h : i < s.size) : (bytesOf s)[i]? = some (.int .u8 ((s[i]).toNat : Int)) := by
  unfold bytesOf
  rw [List.getElem?_map, List.getElem?_eq_getElem (by simpa using h)]
  rfl
theorem conv_any {P : Program} (w : World) (src dst e : TypeId) (s : ByteArray) {u : TypeDesc} (hs : P.underlying src = some u) (hd : P.underlying dst = some (.slice e)) (he : P.underlying e = some (.int .u8)) (hm : s.size ≤ maxLen) :
    ∃ v w', (convert src dst (.string s)).run P w = .ok v w' ∧ Rd w' w'.heap.size v (bytesOf s) ∧ Below w.heap.size w w' := by
  refine ⟨_, _, Lib.run_convert_string_bytes w src dst e s hs hd he, ⟨_, _, by rw [bytesOf_len], by rw [bytesOf_len]; exact grownCap_ge _ _ _ _, grownCap_le_maxLen _ _ _ _ hm, fun _ => ⟨_, _, rfl, ?_, fun j u hu => ?_⟩⟩, ?_⟩
  · rw [Lib.bytesWorld_size]; omega
  · have hj : j < s.size := by have := (List.getElem?_eq_some_iff.1 hu).1; rwa [bytesOf_len] at this
    rw [Nat.zero_add, Lib.bytesWorld_cell w e s j hj]
    rw [bytesOf_at s j hj] at hu
    rw [← hu]
    have : s.data.toList.getD j 0 = s[j] := by rw [List.getD, List.getElem?_eq_getElem (by simpa using hj)]; rfl
    rw [this]
  · exact ⟨rfl, rfl, rfl, by rw [Lib.bytesWorld_size]; omega, fun b hb => Lib.bytesWorld_at_old w e s b hb⟩
end Go.Proofs.YtopfdmmimgnciaaGreatDoor
namespace Go.Proofs.YtopfdmmimgnciaaGreatDoor

/-- A number in so many bits, the highest one first. -/
def putL (n many : Nat) : List Bool := (List.range many).map fun i => (n / 2 ^ (many - 1 - i)) % 2 == 1
theorem putL_len (n many : Nat) : (putL n many).length = many := by simp [putL]
theorem putL_succ (n many : Nat) : putL n (many + 1) = ((n / 2 ^ many) % 2 == 1) :: putL n many := by
  unfold putL
  rw [List.range_succ_eq_map, List.map_cons, List.map_map]
  congr 1
  apply List.map_congr_left
  intro i _
  simp only [Function.comp_apply]
  have : many + 1 - 1 - i.succ = many - 1 - i := by omega
  rw [this]
/-- The number that bits say. -/
def valL (l : List Bool) : Nat := l.foldl (fun r b => 2 * r + b.toNat) 0
theorem valL_snoc (l : List Bool) (b : Bool) : valL (l ++ [b]) = 2 * valL l + b.toNat := by simp [valL]
theorem foldl_val (l : List Bool) (r : Nat) : l.foldl (fun r b => 2 * r + b.toNat) r = r * 2 ^ l.length + valL l := by
  induction l generalizing r with
  | nil => simp [valL]
  | cons b l ih =>
    rw [List.foldl_cons, ih]
    have h2 : valL (b :: l) = b.toNat * 2 ^ l.length + valL l := by
      unfold valL; rw [List.foldl_cons, ih]; simp [valL]
    rw [h2, List.length_cons, Nat.pow_succ, Nat.add_mul]
    have : 2 * r * 2 ^ l.length = r * (2 ^ l.length * 2) := by rw [Nat.mul_comm 2 r, Nat.mul_assoc, Nat.mul_comm 2]
    omega
theorem valL_cons (b : Bool) (l : List Bool) : valL (b :: l) = b.toNat * 2 ^ l.length + valL l := by
  have := foldl_val l (2 * 0 + b.toNat)
  unfold valL at *
  rw [List.foldl_cons, this]; simp
theorem valL_lt (l : List Bool) : valL l < 2 ^ l.length := by
  induction l with
  | nil => simp [valL]
  | cons b l ih =>
    rw [valL_cons, List.length_cons, Nat.pow_succ]
    have hb : b.toNat ≤ 1 := by cases b <;> decide
    have : b.toNat * 2 ^ l.length ≤ 1 * 2 ^ l.length := Nat.mul_le_mul_right _ hb
    omega
theorem valL_putL (n many : Nat) : valL (putL n many) = n % 2 ^ many := by
  induction many with
  | zero => simp [putL, valL, Nat.mod_one]
  | succ m ih =>
    rw [putL_succ, valL_cons, putL_len, ih]
    have e : ((n / 2 ^ m) % 2 == 1).toNat = (n / 2 ^ m) % 2 := by
      rcases Nat.mod_two_eq_zero_or_one (n / 2 ^ m) with h | h <;> simp [h]
    rw [e, Nat.pow_succ]
    have h1 := Nat.mod_mul (x := n) (a := 2 ^ m) (b := 2)
    rw [h1, Nat.mul_comm (2 ^ m)]
    omega

/-- The strings of the tables, as the reader has them: 0 upper, 1 lower, 2 mixed, 3 digits, 4 punctuation. -/
def ctrlS (a b : UInt8) : List UInt8 := [67, 84, 82, 76, 95, a, b]
def flgS : List UInt8 := [70, 76, 71, 40, 110, 41]
def tabL : Nat → List (List UInt8)
  | 0 => [ctrlS 80 83, [32], [65], [66], [67], [68], [69], [70], [71], [72], [73], [74], [75], [76], [77], [78], [79], [80], [81], [82], [83], [84], [85], [86], [87], [88], [89], [90], ctrlS 76 76, ctrlS 77 76, ctrlS 68 76, ctrlS 66 83]
  | 1 => [ctrlS 80 83, [32], [97], [98], [99], [100], [101], [102], [103], [104], [105], [106], [107], [108], [109], [110], [111], [112], [113], [114], [115], [116], [117], [118], [119], [120], [121], [122], ctrlS 85 83, ctrlS 77 76, ctrlS 68 76, ctrlS 66 83]
  | 2 => [ctrlS 80 83, [32], [1], [2], [3], [4], [5], [6], [7], [8], [9], [10], [11], [12], [13], [27], [28], [29], [30], [31], [64], [92], [94], [95], [96], [124], [126], [127], ctrlS 76 76, ctrlS 85 76, ctrlS 80 76, ctrlS 66 83]
  | 3 => [ctrlS 80 83, [32], [48], [49], [50], [51], [52], [53], [54], [55], [56], [57], [44], [46], ctrlS 85 76, ctrlS 85 83]
  | 4 => [flgS, [13], [13, 10], [46, 32], [44, 32], [58, 32], [33], [34], [35], [36], [37], [38], [39], [40], [41], [42], [43], [44], [45], [46], [47], [58], [59], [60], [61], [62], [63], [91], [93], [123], [125], ctrlS 85 76]
  | _ => []
def tabS (t c : Nat) : List UInt8 := (tabL t).getD c []
/-- How many bits a number has in a mode. -/
def sizeT (t : Nat) : Nat := if t = 3 then 4 else 5
theorem tabL_len (t : Nat) (h : t < 5) : (tabL t).length = 2 ^ sizeT t := by
  have : t = 0 ∨ t = 1 ∨ t = 2 ∨ t = 3 ∨ t = 4 := by omega
  rcases this with rfl | rfl | rfl | rfl | rfl <;> rfl
/-- The mode that a letter names. -/
def modeT (a : UInt8) : Nat := if a = 76 then 1 else if a = 80 then 4 else if a = 77 then 2 else if a = 68 then 3 else if a = 66 then 5 else 0
/-- What an entry of the tables is: bytes, another mode, or a function that the reader is not asked for here. -/
inductive EntK (l : List UInt8) : Prop
  | text (h1 : l ≠ flgS) (h2 : ¬ [67, 84, 82, 76, 95] <+: l) (h3 : l ≠ []) (h4 : l.length ≤ 2)
  | ctrl (a b : UInt8) (h : l = ctrlS a b) (hm : a = 76 ∨ a = 80 ∨ a = 77 ∨ a = 68 ∨ a = 66 ∨ a = 85) (hb : b = 76 → a ≠ 66)
  | flg (h : l = flgS)
def entB (l : List UInt8) : Bool := (l != flgS && !([67, 84, 82, 76, 95].isPrefixOf l) && l != [] && decide (l.length ≤ 2)) || (l == ctrlS (l.getD 5 0) (l.getD 6 0) && [76, 80, 77, 68, 66, 85].contains (l.getD 5 0) && (l.getD 6 0 != 76 || l.getD 5 0 != 66)) || l == flgS
theorem entK (l : List UInt8) (h : entB l = true) : EntK l := by
  unfold entB at h
  simp only [Bool.or_eq_true, Bool.and_eq_true, bne_iff_ne, ne_eq, Bool.not_eq_true', decide_eq_true_eq, beq_iff_eq] at h
  rcases h with (⟨⟨⟨h1, h2⟩, h3⟩, h4⟩ | ⟨⟨h1, h2⟩, h5⟩) | h
  · exact .text h1 (fun hp => by rw [List.isPrefixOf_iff_prefix.2 hp] at h2; cases h2) h3 h4
  · exact .ctrl _ _ h1 (by simpa using h2) (fun h6 => by rcases h5 with h5 | h5; exact absurd h6 h5; exact h5)
  · exact .flg h
theorem tab_ent (t c : Nat) (h : t < 5) (hc : c < 2 ^ sizeT t) : EntK (tabS t c) := by
  apply entK
  have ha : ∀ t, t < 5 → (tabL t).all entB = true := by decide
  have := List.all_eq_true.1 (ha t h)
  have hl := tabL_len t h
  unfold tabS
  rw [List.getD, List.getElem?_eq_getElem (by omega)]
  exact this _ (List.getElem_mem _)

/-- Bytes of so many times eight bits; what is not there ends them: what is said, and what is left. -/
def takeB : Nat → List Bool → List UInt8 × List Bool
  | 0, l => ([], l)
  | k + 1, l => if l.length < 8 then ([], []) else
    let r := takeB k (l.drop 8)
    (UInt8.ofNat (valL (l.take 8)) :: r.1, r.2)
/-- The reader's way: what is said from a state on; none: a function that it is not asked for here. -/
def dec : Nat → List Bool → Nat → Nat → Option (List UInt8)
  | 0, _, _, _ => none
  | f + 1, l, latch, shift =>
    if l.length = 0 then some []
    else if shift = 5 then
      if l.length < 5 then some []
      else if valL (l.take 5) = 0 then
        if (l.drop 5).length < 11 then some []
        else (dec f (takeB (valL ((l.drop 5).take 11) + 31) (l.drop 16)).2 latch latch).map ((takeB (valL ((l.drop 5).take 11) + 31) (l.drop 16)).1 ++ ·)
      else (dec f (takeB (valL (l.take 5)) (l.drop 5)).2 latch latch).map ((takeB (valL (l.take 5)) (l.drop 5)).1 ++ ·)
    else if l.length < sizeT shift then some []
    else
      let s := tabS shift (valL (l.take (sizeT shift)))
      if s = flgS then none
      else if [67, 84, 82, 76, 95] <+: s then dec f (l.drop (sizeT shift)) (if s.getD 6 0 = 76 then modeT (s.getD 5 0) else shift) (modeT (s.getD 5 0))
      else (dec f (l.drop (sizeT shift)) latch latch).map (s ++ ·)

/-! One step of the reader -/
section
variable {f lt sh : Nat} {l : List Bool} {rest : List UInt8}
theorem sizeT_pos (t : Nat) : 4 ≤ sizeT t ∧ sizeT t ≤ 5 := by unfold sizeT; split <;> omega
end
theorem takeB_succ (k : Nat) (l : List Bool) (h : 8 ≤ l.length) : takeB (k + 1) l = (UInt8.ofNat (valL (l.take 8)) :: (takeB k (l.drop 8)).1, (takeB k (l.drop 8)).2) := by
  rw [takeB, if_neg (by omega)]
theorem takeB_short (k : Nat) (l : List Bool) (h : l.length < 8) : takeB (k + 1) l = ([], []) := by
  rw [takeB, if_pos h]

/-- Bits that say bytes below 128 as they are. -/
def byteBits (l : List UInt8) : List Bool := l.flatMap fun b => putL b.toNat 8
theorem take_app {α : Type} (a b : List α) (n : Nat) (h : a.length = n) : (a ++ b).take n = a := by rw [List.take_append_of_le_length (by omega), List.take_of_length_le (by omega)]
theorem drop_app {α : Type} (a b : List α) (n : Nat) (h : a.length = n) : (a ++ b).drop n = b := by rw [← h]; exact List.drop_left
theorem takeB_bits (l : List UInt8) (r : List Bool) : takeB l.length (byteBits l ++ r) = (l, r) := by
  induction l with
  | nil => rfl
  | cons b l ih =>
    have e : byteBits (b :: l) ++ r = putL b.toNat 8 ++ (byteBits l ++ r) := by
      have : byteBits (b :: l) = putL b.toNat 8 ++ byteBits l := rfl
      rw [this, List.append_assoc]
    rw [e, List.length_cons, takeB, if_neg (by rw [List.length_append, putL_len]; omega)]
    simp only [drop_app _ _ 8 (putL_len _ _), take_app _ _ 8 (putL_len _ _), ih, valL_putL]
    have hb := b.toNat_lt
    rw [Nat.mod_eq_of_lt (by omega)]
    simp
/-- The head of a piece of bytes. -/
def headL (n : Nat) : List Bool := putL 31 5 ++ (if n < 32 then putL n 5 else putL 0 5 ++ putL (n - 31) 11)
end Go.Proofs.YtopfdmmimgnciaaGreatDoor
namespace Go.Proofs.YtopfdmmimgnciaaGreatDoor
open Go.RowKit

/-- The first k of a list, and then z, N in all. -/
def fillA {α : Type} (l : List α) (z : α) (N k : Nat) : List α := l.take k ++ List.replicate (N - k) z
theorem fill_len {α : Type} (l : List α) (z : α) (N k : Nat) (hk : k ≤ l.length) (hl : l.length ≤ N) : (fillA l z N k).length = N := by
  unfold fillA; rw [List.length_append, List.length_take, List.length_replicate]; omega
theorem fill_set {α : Type} (l : List α) (z : α) (N k : Nat) (hk : k < l.length) (_hl : l.length ≤ N) : (fillA l z N k).set k l[k] = fillA l z N (k + 1) := by
  unfold fillA
  have e : N - k = (N - (k + 1)) + 1 := by omega
  have h1 : (l.take k).length = k := by rw [List.length_take]; omega
  rw [List.set_append, if_neg (by omega), h1, Nat.sub_self, e, List.replicate_succ, List.set_cons_zero, List.take_succ_eq_append_getElem hk, List.append_assoc]
  rfl
theorem fill_zero {α : Type} (l : List α) (z : α) (N : Nat) : fillA l z N 0 = List.replicate N z := by simp [fillA]
theorem fill_end {α : Type} (l : List α) (z : α) (N : Nat) : fillA l z N l.length = l ++ List.replicate (N - l.length) z := by simp [fillA]
theorem fill_full {α : Type} (l : List α) (z : α) : fillA l z l.length l.length = l := by simp [fillA]
/-- Stops the walk at the operation that writes a slot. -/
theorem stop_at {P : Program} {ops : Array Oper} {rest : List Oper} {o : Oper} {a : Act} {Q : Exit → Act → World → Prop} {w : World} (h : Hid (wpList P ops Q (o :: rest) a w)) : wpList P ops Q (o :: rest) a w := h
theorem fill_at_k {α : Type} (l : List α) (z : α) (N k : Nat) (hk : k < N) (hkl : k ≤ l.length) : (fillA l z N k)[k]? = some z := by
  unfold fillA
  rw [List.getElem?_append_right (by rw [List.length_take]; omega), List.length_take, Nat.min_eq_left hkl, Nat.sub_self, List.getElem?_replicate_of_lt (by omega)]
end Go.Proofs.YtopfdmmimgnciaaGreatDoor
namespace Go.Proofs.YtopfdmmimgnciaaGreatDoor

/-- How many bits a word has, by the layers. -/
def widN (n : Nat) : Nat := if n ≤ 2 then 6 else if n ≤ 8 then 8 else if n ≤ 22 then 10 else 12
theorem widN_or (n : Nat) : widN n = 6 ∨ widN n = 8 ∨ widN n = 10 ∨ widN n = 12 := by unfold widN; split; simp; split; simp; split <;> simp
theorem widN_le (n : Nat) : 6 ≤ widN n ∧ widN n ≤ 12 := by rcases widN_or n with h | h | h | h <;> omega
/-- Words as bits. -/
def wbits (width : Nat) (ws : List Nat) : List Bool := (ws.map fun x => putL x width).flatten
theorem wbits_len (width : Nat) (ws : List Nat) : (wbits width ws).length = width * ws.length := by
  induction ws with
  | nil => rfl
  | cons x r ih =>
    have : wbits width (x :: r) = putL x width ++ wbits width r := rfl
    rw [this, List.length_append, putL_len, ih, List.length_cons, Nat.mul_succ, Nat.add_comm]
theorem wbits_app (width : Nat) (a b : List Nat) : wbits width (a ++ b) = wbits width a ++ wbits width b := by simp [wbits]
theorem wbits_snoc (width : Nat) (a : List Nat) (x : Nat) : wbits width (a ++ [x]) = wbits width a ++ putL x width := by rw [wbits_app]; simp [wbits]
/-- Word i of bits, behind some bits that are left over. -/
theorem wbits_read (width : Nat) (pre : List Bool) (ws : List Nat) (i : Nat) (hi : i < ws.length) : ((pre ++ wbits width ws).drop (pre.length + width * i)).take width = putL (ws.getD i 0) width := by
  have e1 : ws = ws.take i ++ (ws.getD i 0 :: ws.drop (i + 1)) := by
    rw [List.getD, List.getElem?_eq_getElem hi, Option.getD_some, ← List.drop_eq_getElem_cons hi, List.take_append_drop]
  have e2 : wbits width ws = wbits width (ws.take i) ++ (putL (ws.getD i 0) width ++ wbits width (ws.drop (i + 1))) := by
    have : wbits width (ws.getD i 0 :: ws.drop (i + 1)) = putL (ws.getD i 0) width ++ wbits width (ws.drop (i + 1)) := rfl
    rw [← this, ← wbits_app, ← e1]
  have hl : (wbits width (ws.take i)).length = width * i := by rw [wbits_len, List.length_take, Nat.min_eq_left (by omega)]
  rw [e2, ← List.append_assoc, List.drop_append, List.drop_of_length_le (by rw [List.length_append, hl]; omega), List.length_append, hl, Nat.sub_self, List.drop_zero, List.nil_append, List.take_append_of_le_length (by rw [putL_len]; exact Nat.le_refl _), List.take_of_length_le (by rw [putL_len]; exact Nat.le_refl _)]
/-- A word without the bit that is stuffed in. -/
def isStuf (width x : Nat) : Bool := x == 1 || x == 2 ^ width - 2
def unW (width x : Nat) : List Bool := if isStuf width x = true then putL (x / 2) (width - 1) else putL x width
def unL (width : Nat) (ws : List Nat) : List Bool := (ws.map (unW width)).flatten
theorem unL_snoc (width : Nat) (a : List Nat) (x : Nat) : unL width (a ++ [x]) = unL width a ++ unW width x := by simp [unL]
/-- How many bits are stuffed in. -/
def cntS (width : Nat) (ws : List Nat) : Nat := (ws.map fun x => (isStuf width x).toNat).sum
theorem cntS_snoc (width : Nat) (a : List Nat) (x : Nat) : cntS width (a ++ [x]) = cntS width a + (isStuf width x).toNat := by simp [cntS]
theorem unW_len (width x : Nat) (hw : 1 ≤ width) : (unW width x).length + (isStuf width x).toNat = width := by
  unfold unW
  cases h : isStuf width x
  · rw [if_neg (by decide), putL_len]; rfl
  · rw [if_pos rfl, putL_len]; simp; omega
theorem unL_len (width : Nat) (ws : List Nat) (hw : 1 ≤ width) : (unL width ws).length + cntS width ws = ws.length * width := by
  induction ws with
  | nil => simp [unL, cntS]
  | cons x r ih =>
    have e1 : unL width (x :: r) = unW width x ++ unL width r := rfl
    have e2 : cntS width (x :: r) = (isStuf width x).toNat + cntS width r := by simp [cntS]
    have := unW_len width x hw
    rw [e1, e2, List.length_append, List.length_cons, Nat.succ_mul]
    omega
/-- Bit j of word i in the bits of all words. -/
theorem unL_at (width : Nat) (ws : List Nat) (i j : Nat) (hi : i < ws.length) (hj : j < (unW width (ws.getD i 0)).length) : (unL width ws)[(unL width (ws.take i)).length + j]? = (unW width (ws.getD i 0))[j]? := by
  have e1 : ws = ws.take i ++ (ws.getD i 0 :: ws.drop (i + 1)) := by
    rw [List.getD, List.getElem?_eq_getElem hi, Option.getD_some, ← List.drop_eq_getElem_cons hi, List.take_append_drop]
  have e2 : unL width ws = unL width (ws.take i) ++ (unW width (ws.getD i 0) ++ unL width (ws.drop (i + 1))) := by
    have h1 : unL width (ws.getD i 0 :: ws.drop (i + 1)) = unW width (ws.getD i 0) ++ unL width (ws.drop (i + 1)) := rfl
    have h2 : unL width (ws.take i ++ (ws.getD i 0 :: ws.drop (i + 1))) = unL width (ws.take i) ++ unL width (ws.getD i 0 :: ws.drop (i + 1)) := by simp [unL]
    rw [← h1, ← h2, ← e1]
  rw [e2, List.getElem?_append_right (Nat.le_add_right _ _), Nat.add_sub_cancel_left, List.getElem?_append_left hj]
theorem unL_le (width : Nat) (ws : List Nat) (i : Nat) : (unL width (ws.take i)).length ≤ (unL width ws).length := by
  have h : ∀ a b, unL width (a ++ b) = unL width a ++ unL width b := fun a b => by simp [unL]
  have this := h (ws.take i) (ws.drop i)
  rw [List.take_append_drop] at this
  rw [this, List.length_append]; omega
theorem take_one (ws : List Nat) (i : Nat) (hi : i < ws.length) : ws.take (i + 1) = ws.take i ++ [ws.getD i 0] := by
  rw [List.take_succ_eq_append_getElem hi, List.getD, List.getElem?_eq_getElem hi]; rfl
theorem unL_next (width : Nat) (ws : List Nat) (i : Nat) (hi : i < ws.length) : (unL width (ws.take (i + 1))).length = (unL width (ws.take i)).length + (unW width (ws.getD i 0)).length := by
  rw [take_one ws i hi, unL_snoc, List.length_append]
/-- The bits of the two words that have one stuffed in. -/
theorem unW_one (width j : Nat) (hj : j < width - 1) : (unW width 1)[j]? = some false := by
  unfold unW isStuf
  rw [if_pos (by simp)]
  unfold putL
  rw [List.getElem?_map, List.getElem?_range hj]
  simp
theorem unW_mask (width j : Nat) (hw : width = 6 ∨ width = 8 ∨ width = 10 ∨ width = 12) (hj : j < width - 1) : (unW width (2 ^ width - 2))[j]? = some true := by
  unfold unW isStuf
  rw [if_pos (by simp)]
  unfold putL
  rw [List.getElem?_map, List.getElem?_range hj]
  simp only [Option.map_some]
  congr 1
  have e : (2 ^ width - 2) / 2 = 2 ^ (width - 1) - 1 := by rcases hw with rfl | rfl | rfl | rfl <;> decide
  have h1 := Nat.testBit_two_pow_sub_one (width - 1) (width - 1 - 1 - j)
  rw [e]
  rw [Nat.testBit_eq_decide_div_mod_eq] at h1
  rw [show decide (width - 1 - 1 - j < width - 1) = true from decide_eq_true (by omega)] at h1
  rw [beq_iff_eq]
  exact of_decide_eq_true h1
theorem unW_plain (width x j : Nat) (hs : isStuf width x = false) (hj : j < width) : (unW width x)[j]? = some (x.testBit (width - 1 - j)) := by
  unfold unW
  rw [if_neg (by rw [hs]; decide)]
  unfold putL
  rw [List.getElem?_map, List.getElem?_range hj]
  simp only [Option.map_some]
  congr 1
  rw [Nat.testBit_eq_decide_div_mod_eq, Bool.eq_iff_iff]
  simp
end Go.Proofs.YtopfdmmimgnciaaGreatDoor
namespace Go.Proofs.YtopfdmmimgnciaaGreatDoor

theorem putL_valL : ∀ (l : List Bool), putL (valL l) l.length = l
  | [] => rfl
  | b :: l => by
    have ih := putL_valL l
    have hv := valL_lt l
    rw [List.length_cons, putL_succ, valL_cons]
    have e1 : (b.toNat * 2 ^ l.length + valL l) / 2 ^ l.length = b.toNat := by
      rw [Nat.add_comm, Nat.add_mul_div_right _ _ (Nat.two_pow_pos _), Nat.div_eq_of_lt hv, Nat.zero_add]
    rw [e1]
    congr 1
    · cases b <;> rfl
    · have e2 : ∀ n a k, putL (a * 2 ^ k + n) k = putL n k := fun n a k => by
        unfold putL
        refine List.map_congr_left fun i hi => ?_
        have hi := List.mem_range.1 hi
        have e3 : a * 2 ^ k = 2 ^ (k - 1 - i) * (2 * (a * 2 ^ i)) := by
          have e4 : (2 : Nat) ^ k = 2 ^ (k - 1 - i) * 2 * 2 ^ i := by
            rw [← Nat.pow_succ, ← Nat.pow_add, show (k - 1 - i).succ + i = k by omega]
          rw [e4]
          ac_rfl
        rw [e3, Nat.mul_add_div (Nat.two_pow_pos _), Nat.mul_add_mod]
      exact (e2 (valL l) b.toNat l.length).trans ih
theorem unL_cons (W x : Nat) (ws : List Nat) : unL W (x :: ws) = unW W x ++ unL W ws := by simp [unL]
/-- The bits, and ones behind them. -/
def padT (W : Nat) (bits : List Bool) : List Bool := bits ++ List.replicate W true
def stuffF (W : Nat) : Nat → List Bool → List Nat
  | 0, _ => []
  | f + 1, bits =>
    if bits.length = 0 then []
    else if valL ((padT W bits).take (W - 1)) = 0 then 1 :: stuffF W f (bits.drop (W - 1))
    else if valL ((padT W bits).take (W - 1)) = 2 ^ (W - 1) - 1 then (2 ^ W - 2) :: stuffF W f (bits.drop (W - 1))
    else valL ((padT W bits).take W) :: stuffF W f (bits.drop W)
theorem padT_take (W m : Nat) (bits : List Bool) (hm : m ≤ W) : ∃ k, k ≤ m - bits.length ∧ (padT W bits).take m ++ bits.drop m = bits ++ List.replicate k true ∧ ((padT W bits).take m).length = m ∧ (k = 0 ∨ bits.drop m = []) := by
  unfold padT
  by_cases h : m ≤ bits.length
  · refine ⟨0, Nat.zero_le _, ?_, ?_, .inl rfl⟩
    · rw [List.take_append_of_le_length h, List.take_append_drop, List.replicate_zero, List.append_nil]
    · rw [List.length_take, List.length_append, List.length_replicate]; omega
  · have hd : bits.drop m = [] := List.drop_of_length_le (by omega)
    refine ⟨m - bits.length, Nat.le_refl _, ?_, ?_, .inr hd⟩
    · rw [hd, List.append_nil, List.take_append, List.take_of_length_le (by omega), List.take_replicate, Nat.min_eq_left (by omega)]
    · rw [List.length_take, List.length_append, List.length_replicate]; omega
/-- The words say the bits, and fewer ones behind them than a word has; none is all zeros or all ones. -/
theorem stuff_says (W : Nat) (hW : 3 ≤ W) : ∀ (f : Nat) (bits : List Bool), bits.length ≤ f → (∃ k, k < W ∧ unL W (stuffF W f bits) = bits ++ List.replicate k true) ∧ ∀ x ∈ stuffF W f bits, 1 ≤ x ∧ x < 2 ^ W - 1
  | 0, bits, hf => by
    obtain rfl : bits = [] := List.length_eq_zero_iff.1 (by omega)
    exact ⟨⟨0, by omega, rfl⟩, fun x hx => by cases hx⟩
  | f + 1, bits, hf => by
    have h2 : (2 : Nat) ^ W = 2 * 2 ^ (W - 1) := by rw [← Nat.pow_succ', show (W - 1).succ = W by omega]
    have h4 : (2 : Nat) ^ 2 ≤ 2 ^ (W - 1) := Nat.pow_le_pow_right (by decide) (by omega)
    have key : ∀ (m x : Nat), 1 ≤ m → m ≤ W → 0 < bits.length → unW W x = (padT W bits).take m → (1 ≤ x ∧ x < 2 ^ W - 1) → (∃ k, k < W ∧ unL W (x :: stuffF W f (bits.drop m)) = bits ++ List.replicate k true) ∧ ∀ y ∈ x :: stuffF W f (bits.drop m), 1 ≤ y ∧ y < 2 ^ W - 1 := fun m x hm1 hm hb hu hx => by
      obtain ⟨⟨k, hk, ih1⟩, ih2⟩ := stuff_says W hW f (bits.drop m) (by rw [List.length_drop]; omega)
      obtain ⟨k0, hk0, e0, _, hor⟩ := padT_take W m bits hm
      refine ⟨?_, fun y hy => ?_⟩
      · rcases hor with rfl | hd
        · refine ⟨k, hk, ?_⟩
          rw [unL_cons, hu, ih1, ← List.append_assoc, e0, List.replicate_zero, List.append_nil]
        · refine ⟨k0, by omega, ?_⟩
          have hs : stuffF W f [] = [] := by cases f <;> rfl
          rw [unL_cons, hu, hd, hs]
          rw [hd] at e0
          exact e0
      · rcases List.mem_cons.1 hy with rfl | hy
        · exact hx
        · exact ih2 y hy
    obtain ⟨_, _, _, hl1, _⟩ := padT_take W (W - 1) bits (by omega)
    obtain ⟨_, _, _, hl2, _⟩ := padT_take W W bits (Nat.le_refl _)
    have hv1 := putL_valL ((padT W bits).take (W - 1))
    have hv2 := putL_valL ((padT W bits).take W)
    have hlt := valL_lt ((padT W bits).take (W - 1))
    rw [hl1] at hv1 hlt
    rw [hl2] at hv2
    have hsn : ∃ b : Bool, (padT W bits).take W = (padT W bits).take (W - 1) ++ [b] := by
      have hlen : W - 1 < (padT W bits).length := by unfold padT; rw [List.length_append, List.length_replicate]; omega
      refine ⟨(padT W bits)[W - 1], ?_⟩
      have e := List.take_succ_eq_append_getElem hlen
      rw [show W - 1 + 1 = W by omega] at e
      exact e
    obtain ⟨b, hb⟩ := hsn
    have hvv : valL ((padT W bits).take W) = 2 * valL ((padT W bits).take (W - 1)) + b.toNat := by rw [hb, valL_snoc]
    have hb1 : b.toNat ≤ 1 := by cases b <;> decide
    unfold stuffF
    by_cases c0 : bits.length = 0
    · rw [if_pos c0]
      obtain rfl : bits = [] := List.length_eq_zero_iff.1 c0
      exact ⟨⟨0, by omega, rfl⟩, fun x hx => by cases hx⟩
    · rw [if_neg c0]
      by_cases c1 : valL ((padT W bits).take (W - 1)) = 0
      · rw [if_pos c1]
        refine key (W - 1) 1 (by omega) (by omega) (by omega) ?_ ⟨Nat.le_refl _, by omega⟩
        unfold unW isStuf
        rw [if_pos (by simp)]
        rw [c1] at hv1
        exact hv1
      · rw [if_neg c1]
        by_cases c2 : valL ((padT W bits).take (W - 1)) = 2 ^ (W - 1) - 1
        · rw [if_pos c2]
          refine key (W - 1) (2 ^ W - 2) (by omega) (by omega) (by omega) ?_ ⟨by omega, by omega⟩
          unfold unW isStuf
          rw [if_pos (by simp)]
          rw [c2] at hv1
          rw [show (2 ^ W - 2) / 2 = 2 ^ (W - 1) - 1 by omega]
          exact hv1
        · rw [if_neg c2]
          refine key W _ (by omega) (Nat.le_refl _) (by omega) ?_ ⟨by omega, by omega⟩
          unfold unW isStuf
          rw [if_neg (by
            rw [Bool.or_eq_true, beq_iff_eq, beq_iff_eq]
            omega)]
          exact hv2
end Go.Proofs.YtopfdmmimgnciaaGreatDoor
namespace Go.Proofs.YtopfdmmimgnciaaGreatDoor

theorem sizeT_two (t : Nat) : sizeT t = 4 ∨ sizeT t = 5 := by unfold sizeT; split <;> simp
theorem step_ctrl (f t c lt : Nat) (a b : UInt8) (r : List Bool) (ht : t ≠ 5) (hc : c < 2 ^ sizeT t) (he : tabS t c = ctrlS a b) :
    dec (f + 1) (putL c (sizeT t) ++ r) lt t = dec f r (if b = 76 then modeT a else t) (modeT a) := by
  have hl : (putL c (sizeT t) ++ r).length = sizeT t + r.length := by rw [List.length_append, putL_len]
  have hp := sizeT_pos t
  rw [dec, if_neg (by omega), if_neg ht, if_neg (by omega)]
  simp only [take_app _ _ (sizeT t) (putL_len _ _), drop_app _ _ (sizeT t) (putL_len _ _)]
  rw [valL_putL, Nat.mod_eq_of_lt hc, he, if_neg (by unfold ctrlS flgS; simp), if_pos ⟨[a, b], rfl⟩]
  rfl
theorem step_text (f t c lt : Nat) (r : List Bool) (ht : t ≠ 5) (hc : c < 2 ^ sizeT t) (h1 : tabS t c ≠ flgS) (h2 : ¬ [67, 84, 82, 76, 95] <+: tabS t c) :
    dec (f + 1) (putL c (sizeT t) ++ r) lt t = (dec f r lt lt).map (tabS t c ++ ·) := by
  have hl : (putL c (sizeT t) ++ r).length = sizeT t + r.length := by rw [List.length_append, putL_len]
  have hp := sizeT_pos t
  rw [dec, if_neg (by omega), if_neg ht, if_neg (by omega)]
  simp only [take_app _ _ (sizeT t) (putL_len _ _), drop_app _ _ (sizeT t) (putL_len _ _)]
  rw [valL_putL, Nat.mod_eq_of_lt hc, if_neg h1, if_neg h2]
/-- From the mode t on, bits say a text and lead to the mode t'. -/
def Says (t : Nat) (bits : List Bool) (t' : Nat) (txt : List UInt8) : Prop := ∃ k, ∀ f r, dec (f + k) (bits ++ r) t t = (dec f r t' t').map (txt ++ ·)
theorem Says.nil (t : Nat) : Says t [] t [] := ⟨0, fun f r => by simp⟩
theorem Says.latch {t c t' : Nat} {a : UInt8} (ht : t ≠ 5) (hc : c < 2 ^ sizeT t) (he : tabS t c = ctrlS a 76) (hm : modeT a = t') : Says t (putL c (sizeT t)) t' [] :=
  ⟨1, fun f r => by rw [step_ctrl f t c t a 76 r ht hc he, if_pos rfl, hm]; simp⟩
theorem Says.shift {t c t2 c2 : Nat} {a : UInt8} (ht : t ≠ 5) (hc : c < 2 ^ sizeT t) (he : tabS t c = ctrlS a 83) (hm : modeT a = t2) (ht2 : t2 ≠ 5) (hc2 : c2 < 2 ^ sizeT t2) (h1 : tabS t2 c2 ≠ flgS) (h2 : ¬ [67, 84, 82, 76, 95] <+: tabS t2 c2) :
    Says t (putL c (sizeT t) ++ putL c2 (sizeT t2)) t (tabS t2 c2) :=
  ⟨2, fun f r => by
    rw [List.append_assoc, show f + 2 = (f + 1) + 1 from rfl, step_ctrl (f + 1) t c t a 83 _ ht hc he, if_neg (by decide), hm]
    exact step_text f t2 c2 t r ht2 hc2 h1 h2⟩
/-- Ones behind a message say nothing. -/
theorem ones_nothing : ∀ t, t < 5 → ∀ k, k < 12 → dec 5 (List.replicate k true) t t = some [] := by decide
theorem Says.all {bits : List Bool} {t : Nat} {txt : List UInt8} (h : Says 0 bits t txt) (ht : t < 5) {k : Nat} (hk : k < 12) : ∃ f, dec f (bits ++ List.replicate k true) 0 0 = some txt := by
  obtain ⟨n, e⟩ := h
  refine ⟨5 + n, ?_⟩
  rw [e, ones_nothing t ht k hk]
  simp
/-- Bytes as they are, from a mode that has them. -/
theorem Says.bytes {t : Nat} (ht : t < 3) {l : List UInt8} (h0 : 0 < l.length) (h1 : l.length ≤ 2000) : Says t (headL l.length ++ byteBits l) t l :=
  ⟨2, fun f r => by
    have e : headL l.length ++ byteBits l ++ r = putL 31 5 ++ ((if l.length < 32 then putL l.length 5 else putL 0 5 ++ putL (l.length - 31) 11) ++ (byteBits l ++ r)) := by
      unfold headL; simp only [List.append_assoc]
    have e5 : sizeT t = 5 := by unfold sizeT; rw [if_neg (by omega)]
    have ev : tabS t 31 = ctrlS 66 83 := by
      have : t = 0 ∨ t = 1 ∨ t = 2 := by omega
      rcases this with rfl | rfl | rfl <;> decide
    have hs := step_ctrl (f + 1) t 31 t 66 83 ((if l.length < 32 then putL l.length 5 else putL 0 5 ++ putL (l.length - 31) 11) ++ (byteBits l ++ r)) (by omega) (by rw [e5]; decide) ev
    rw [e5, if_neg (show ¬ ((83 : UInt8) = 76) by decide)] at hs
    rw [e, show f + 2 = (f + 1) + 1 from rfl, hs]
    have em : modeT 66 = 5 := by decide
    rw [em]
    by_cases hl : l.length < 32
    · rw [if_pos hl]
      rw [dec, if_neg (by rw [List.length_append, putL_len]; omega), if_pos rfl, if_neg (by rw [List.length_append, putL_len]; omega)]
      simp only [take_app _ _ 5 (putL_len _ _), drop_app _ _ 5 (putL_len _ _)]
      rw [valL_putL, Nat.mod_eq_of_lt (by omega), if_neg (by omega), takeB_bits]
    · rw [if_neg hl]
      rw [dec, if_neg (by simp only [List.length_append, putL_len]; omega), if_pos rfl, if_neg (by simp only [List.length_append, putL_len]; omega)]
      have e2 : (putL 0 5 ++ putL (l.length - 31) 11 ++ (byteBits l ++ r)).drop 16 = byteBits l ++ r := drop_app _ _ 16 (by simp only [List.length_append, putL_len])
      rw [e2, List.append_assoc]
      simp only [take_app _ _ 5 (putL_len _ _), drop_app _ _ 5 (putL_len _ _)]
      have e0 : valL (putL 0 5) = 0 := by decide
      rw [e0, if_pos rfl, if_neg (by simp only [List.length_append, putL_len]; omega)]
      simp only [take_app _ _ 11 (putL_len _ _)]
      rw [valL_putL, Nat.mod_eq_of_lt (by omega)]
      have e3 : l.length - 31 + 31 = l.length := by omega
      rw [e3, takeB_bits]⟩
end Go.Proofs.YtopfdmmimgnciaaGreatDoor
namespace Go.Proofs.YtopfdmmimgnciaaGreatDoor

/-- The reader's table of a writer's mode (0 upper, 1 lower, 2 mixed, 3 punctuation, 4 digits). -/
def rm (m : Nat) : Nat := if m = 3 then 4 else if m = 4 then 3 else m
def offS (s : List UInt8) : Bool := s == flgS || [67, 84, 82, 76, 95].isPrefixOf s
/-- The writer's table: nothing where a number means something else. -/
def wtab (m : Nat) : List (List UInt8) := (tabL (rm m)).map fun s => if offS s then [] else s
def findC (l : List (List UInt8)) : Nat → Nat → Nat
  | 0, k => k
  | f + 1, k => if l.getD k [] = [] then findC l f ((k + 1) % l.length) else k
/-- The number that say puts. -/
def sayC (m n : Nat) : Nat := findC (wtab m) 32 (n % (wtab m).length)
def latN : Nat → List Nat × List Nat
  | 0 => ([28, 29, 30], [1, 2, 4])
  | 1 => ([29, 30], [2, 4])
  | 2 => ([28, 29, 30], [1, 0, 3])
  | 3 => ([31], [0])
  | _ => ([14], [0])
theorem find_ok : ∀ m, m < 5 → ∀ k, k < 32 → k < (wtab m).length → findC (wtab m) 32 k < 2 ^ sizeT (rm m) ∧ offS (tabS (rm m) (findC (wtab m) 32 k)) = false := by decide +kernel
/-- One thing: its bits, the mode behind it, what it says. -/
def wOne (m k n : Nat) (r : List Nat) : List Bool × Nat × List UInt8 :=
  if k % 16 < 3 then (putL ((latN m).1.getD (n % (latN m).1.length) 0) (sizeT (rm m)), (latN m).2.getD (n % (latN m).1.length) 0, [])
  else if k % 16 = 3 ∧ m ≠ 3 then (putL 0 (sizeT (rm m)) ++ putL (sayC 3 n) 5, m, tabS 4 (sayC 3 n))
  else if k % 16 = 4 ∧ (m = 1 ∨ m = 4) then ((if m = 1 then putL 28 5 else putL 15 4) ++ putL (sayC 0 n) 5, m, tabS 0 (sayC 0 n))
  else if k % 16 = 5 then
    (if (r.take (n % 70)).length = 0 ∨ 2 < m then ([], m, [])
    else (headL (r.take (n % 70)).length ++ byteBits ((r.take (n % 70)).map fun b => UInt8.ofNat (b % 128)), m, (r.take (n % 70)).map fun b => UInt8.ofNat (b % 128)))
  else (putL (sayC m n) (sizeT (rm m)), m, tabS (rm m) (sayC m n))
def wAll : Nat → List Nat → Nat → List Bool × Nat × List UInt8
  | f + 1, k :: n :: r, m => ((wOne m k n r).1 ++ (wAll f r (wOne m k n r).2.1).1, (wAll f r (wOne m k n r).2.1).2.1, (wOne m k n r).2.2 ++ (wAll f r (wOne m k n r).2.1).2.2)
  | _, _, m => ([], m, [])
end Go.Proofs.YtopfdmmimgnciaaGreatDoor
