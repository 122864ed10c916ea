/-
  GROUND: the reader's state. WALK: decodeNumericSegment.
-/
import Derived.Test.YtjkfkkenaiodoaaPq6
import Derived.Test.YtjkfkkenaiodoaaApl
namespace Go.Proofs.Ytjkfkkenaiodoaa
open Go.RowKit

theorem own_onl {w w' : World} {p base n : Nat} {e t : TypeId} {v : Value} {xs : List Value} {cs : Array Value} (h : w.ownsRow base e 1 v n xs) (k : Onl p w w') (hp : Blk w p t cs) (ht : t ≠ e) : w'.ownsRow base e 1 v n xs := by
  obtain ⟨h1, h2 | ⟨r, cap, cur, rfl, hb', hr, rest⟩⟩ := h
  · exact ⟨h1, .inl h2⟩
  · refine ⟨h1, .inr ⟨r, cap, cur, rfl, hb', (k.same r (Blk.lt (w := w) (g := r) (t := e) (cs := cur) hr) (fun he => ?_)).trans hr, rest⟩⟩
    subst he
    unfold Blk at hp
    rw [hr] at hp
    injection hp with hp
    injection hp with _ h6
    exact ht h6.symm
theorem own_ne {w : World} {p base n : Nat} {e t : TypeId} {v : Value} {xs : List Value} {cs : Array Value} (h : w.ownsRow base e 1 v n xs) (hp : Blk w p t cs) (ht : t ≠ e) : some p ≠ v.ownBlock := by
  obtain ⟨h1, ⟨rfl, _⟩ | ⟨r, cap, cur, rfl, hb', hr, rest⟩⟩ := h
  · simp [Value.ownBlock]
  · simp only [Value.ownBlock, ne_eq, Option.some.injEq]
    intro he
    subst he
    unfold Blk at hp
    rw [hr] at hp
    injection hp with hp
    injection hp with _ h6
    exact ht h6.symm
theorem own_lessP {w : World} {base B : Nat} {e : TypeId} {size n : Nat} {v : Value} {xs : List Value} (h : w.ownsRow base e size v n xs) (hB : B ≤ base) : w.ownsRow B e size v n xs := by
  obtain ⟨h1, h2 | ⟨g, cap, cur, hv, hb, r⟩⟩ := h
  · exact ⟨h1, .inl h2⟩
  · exact ⟨h1, .inr ⟨g, cap, cur, hv, by omega, r⟩⟩
/-- The source of bits is read up to bit pos. -/
def SrcAt (w : World) (p : Nat) (sv : Value) (pos : Nat) : Prop := Blk w p 106 #[sv, .int .i64 ((pos / 8 : Nat) : Int), .int .i64 ((pos % 8 : Nat) : Int)]
/-- What does not change: the bytes, below block B of world w0. -/
structure SrcOk (w0 : World) (B p : Nat) (sv : Value) (bs : List Nat) : Prop where
  rd : RdB w0 5 B sv (wv8 bs)
  lt : ∀ x ∈ bs, x < 256
  len : bs.length ≤ 2147483647
  le : B ≤ p
theorem SrcOk.bs {w0 w : World} {B p pos : Nat} {sv : Value} {bs : List Nat} (h : SrcOk w0 B p sv bs) (hb : Below B w0 w) (hs : SrcAt w p sv pos) : BsAt w p sv bs (pos / 8) (pos % 8) := ⟨hs, (h.rd.below hb).rdT, h.lt⟩
theorem rdBits_yes {w0 : World} {B p : Nat} {sv : Value} {bs : List Nat} (h : SrcOk w0 B p sv bs) (pos n : Nat) (w : World) (hb : Below B w0 w) (hBw : B ≤ w.heap.size) (hs : SrcAt w p sv pos) (h1 : 1 ≤ n) (h32 : n ≤ 32) (hp : pos + n ≤ 8 * bs.length) :
    Calls Try.prog 33 #[.pointer (some ⟨p, 0, none⟩), .int .i64 n] w fun e w' => e = .returned (.tuple #[.int .i64 ((rb bs pos n : Nat) : Int), .nilIface]) ∧ SrcAt w' p sv (pos + n) ∧ Onl p w w' ∧ Below B w0 w' := by
  have e1 : 8 * (pos / 8) + pos % 8 = pos := by omega
  refine (readBits_any p (pos / 8) (pos % 8) n sv bs w (h.bs hb hs) h.len (by omega) h1 h32 (by omega)).mono ?_
  rintro e w' ⟨rfl, hbs, ho⟩
  rw [e1] at hbs ⊢
  exact ⟨rfl, hbs.head, ho, ho.below B w0 hb h.le hBw⟩
theorem rdBits_no {w0 : World} {B p : Nat} {sv : Value} {bs : List Nat} (h : SrcOk w0 B p sv bs) (pos n : Nat) (w : World) (hb : Below B w0 w) (hBw : B ≤ w.heap.size) (hs : SrcAt w p sv pos) (h1 : 1 ≤ n) (h32 : n ≤ 32) (hp : pos ≤ 8 * bs.length) (hp2 : 8 * bs.length < pos + n) :
    Calls Try.prog 33 #[.pointer (some ⟨p, 0, none⟩), .int .i64 n] w fun e w' => (∃ t x, e = .returned (.tuple #[.int .i64 0, .iface t x])) ∧ Below B w0 w' ∧ Onl p w w' := by
  have e1 : 8 * (pos / 8) + pos % 8 = pos := by omega
  refine (readBits_no p (pos / 8) (pos % 8) n sv bs w (h.bs hb hs) h.len (by omega) (by omega) h1 h32 (by omega)).mono ?_
  rintro e w' ⟨⟨t, x, rfl⟩, hbs, ho⟩
  exact ⟨⟨t, x, rfl⟩, ho.below B w0 hb h.le hBw, ho⟩
/-- An error is wrapped, or made: some error, and old blocks stay. -/
theorem wrapF_any (t : TypeId) (x : Value) (w : World) : Calls Try.prog 35 #[.iface t x] w fun e w' => (∃ t u, e = .returned (.iface t u)) ∧ Below w.heap.size w w' := by
  have h : ∀ s w', Calls Try.prog 49 #[.string s, .iface t x] w' fun e w'' => e = .returned (.agg #[.string s, .iface t x]) ∧ Below w'.heap.size w' w'' := fun s w' => by
    go_enter Try.func49, Try.ntmps49
    go_wp2
    go_returns
    exact ⟨rfl, by go_grown⟩
  go_enter Try.func35, Try.ntmps35
  go_wp2_with fail
  refine (h _ _).mono ?_
  rintro e w1 ⟨rfl, hb⟩
  go_wp2
  go_ret
  exact ⟨⟨_, _, rfl⟩, hb⟩
theorem newF_any (v : Value) (w : World) : Calls Try.prog 44 #[v] w fun e w' => (∃ t u, e = .returned (.iface t u)) ∧ Below w.heap.size w w' := by
  have h : ∀ s u w', Calls Try.prog 53 #[.string s, u] w' fun e w'' => e = .returned (.agg #[.string s, .nilIface]) ∧ Below w'.heap.size w' w'' := fun s u w' => by
    go_enter Try.func53, Try.ntmps53
    go_wp2
    go_returns
    exact ⟨rfl, by go_grown⟩
  go_enter Try.func44, Try.ntmps44
  go_wp2_with fail
  refine (h _ _ _).mono ?_
  rintro e w1 ⟨rfl, hb⟩
  go_wp2
  go_ret
  exact ⟨⟨_, _, rfl⟩, hb⟩
/-- From w to w' blocks stay, but for p and v's own one; v' lies where v did, or in a new block. -/
structure Fr (w : World) (p : Nat) (v : Value) (w' : World) (v' : Value) : Prop where
  same : ∀ b, b < w.heap.size → b ≠ p → some b ≠ v.ownBlock → w'.heap[b]? = w.heap[b]?
  ob : v'.ownBlock = v.ownBlock ∨ ∃ g, v'.ownBlock = some g ∧ w.heap.size ≤ g
  size : w.heap.size ≤ w'.heap.size
theorem Fr.refl (w : World) (p : Nat) (v : Value) : Fr w p v w v := ⟨fun _ _ _ _ => rfl, .inl rfl, Nat.le_refl _⟩
theorem Fr.read {w w' w2 : World} {p : Nat} {v v' : Value} (h : Fr w p v w' v') (k : Onl p w' w2) : Fr w p v w2 v' :=
  ⟨fun b h1 h2 h3 => (k.same b (Nat.lt_of_lt_of_le h1 h.size) h2).trans (h.same b h1 h2 h3), h.ob, Nat.le_trans h.size k.size⟩
theorem Fr.below {w w' w2 : World} {p : Nat} {v v' : Value} (h : Fr w p v w' v') (k : Below w'.heap.size w' w2) : Fr w p v w2 v' := h.read (Onl.of_below k)
theorem Fr.app {w w' w2 : World} {p : Nat} {v v' v2 : Value} (h : Fr w p v w' v') (hg : w'.grownBy w2 v'.ownBlock) (hl : v2.ownBlock = v'.ownBlock ∨ v2.ownBlock = some w'.heap.size) : Fr w p v w2 v2 := by
  refine ⟨fun b h1 h2 h3 => (hg.block b (Nat.lt_of_lt_of_le h1 h.size) (fun he => ?_)).trans (h.same b h1 h2 h3), ?_, Nat.le_trans h.size hg.size⟩
  · rcases h.ob with hb | ⟨g, hb, hgs⟩
    · rw [hb] at he; exact h3 he
    · rw [hb] at he; injection he with he; omega
  · rcases hl with hl | hl
    · rw [hl]; exact h.ob
    · exact .inr ⟨_, hl, h.size⟩
/-- What the walk of a segment of the decoder ends with. -/
def DecQ (w0 w : World) (B p base : Nat) (sv : Value) (v : Value) (res : List UInt8) (R : Option (List UInt8 × Nat)) (e : Ending) (w' : World) : Prop :=
  Below B w0 w' ∧ w.heap.size ≤ w'.heap.size ∧
  ((R = none ∧ ∃ u t x, e = .returned (.tuple #[u, .iface t x])) ∨
   (∃ t p2 v' k', R = some (t, p2) ∧ e = .returned (.tuple #[v', .nilIface]) ∧ SrcAt w' p sv p2 ∧ w'.ownsRow base 5 1 v' k' (bl (res ++ t)) ∧ k' = (res ++ t).length ∧ Fr w p v w' v'))
end Go.Proofs.Ytjkfkkenaiodoaa
