/-
  GROUND: a reader's state: a source of bits, and a row of bytes that grows.
-/
import Derived.Test.YtjpcajecmfhppaaDoorBs3
import Derived.Test.YtjpcajecmfhppaaDoorRb
import Derived.Test.YtjpcajecmfhppaaDoorCan
import Derived.Test.YtjpcajecmfhppaaDoorFill
import Derived.Test.YtjpcajecmfhppaaDoorSx
import Derived.Test.YtjpcajecmfhppaaDoorApl
import Derived.Great.BuildSlice
namespace Go.Proofs.YtjpcajecmfhppaaDoor
open Go.RowKit

theorem info_u8P : (Tryd.prog.info? 5).map (fun i => (i.zero, i.size, i.bytes)) = some (some (.int .u8 0), 1, 1) := by kernel_rfl
theorem bl_single (n : Nat) (h : n < 256) : bl [UInt8.ofNat n] = [.int .u8 (n : Int)] := by
  simp [bl]; omega
theorem own_onl {w w' : World} {p base n : Nat} {e t : TypeId} {v : Value} {xs : List Value} {cs : Array Value} (h : w.ownsRow base e 1 v n xs) (k : Onl p w w') (hp : Blk w p t cs) (ht : t ≠ e) : w'.ownsRow base e 1 v n xs := by
  obtain ⟨h1, h2 | ⟨r, cap, cur, rfl, hb', hr, rest⟩⟩ := h
  · exact ⟨h1, .inl h2⟩
  · refine ⟨h1, .inr ⟨r, cap, cur, rfl, hb', (k.same r (Blk.lt (w := w) (g := r) (t := e) (cs := cur) hr) (fun he => ?_)).trans hr, rest⟩⟩
    subst he
    unfold Blk at hp
    rw [hr] at hp
    injection hp with hp
    injection hp with _ h6
    exact ht h6.symm
theorem own_ne {w : World} {p base n : Nat} {e t : TypeId} {v : Value} {xs : List Value} {cs : Array Value} (h : w.ownsRow base e 1 v n xs) (hp : Blk w p t cs) (ht : t ≠ e) : some p ≠ v.ownBlock := by
  obtain ⟨h1, ⟨rfl, _⟩ | ⟨r, cap, cur, rfl, hb', hr, rest⟩⟩ := h
  · simp [Value.ownBlock]
  · simp only [Value.ownBlock, ne_eq, Option.some.injEq]
    intro he
    subst he
    unfold Blk at hp
    rw [hr] at hp
    injection hp with hp
    injection hp with _ h6
    exact ht h6.symm
theorem own_lessP {w : World} {base B : Nat} {e : TypeId} {size n : Nat} {v : Value} {xs : List Value} (h : w.ownsRow base e size v n xs) (hB : B ≤ base) : w.ownsRow B e size v n xs := by
  obtain ⟨h1, h2 | ⟨g, cap, cur, hv, hb, r⟩⟩ := h
  · exact ⟨h1, .inl h2⟩
  · exact ⟨h1, .inr ⟨g, cap, cur, hv, by omega, r⟩⟩
/-- The source of bits is read up to bit pos. -/
def SrcAt (w : World) (p : Nat) (sv : Value) (pos : Nat) : Prop := Blk w p 86 #[sv, .int .i64 ((pos / 8 : Nat) : Int), .int .i64 ((pos % 8 : Nat) : Int)]
/-- What does not change: the bytes, below block B of world w0. -/
structure SrcOk (w0 : World) (B p : Nat) (sv : Value) (bs : List Nat) : Prop where
  rd : RdB w0 5 B sv (wv8 bs)
  lt : ∀ x ∈ bs, x < 256
  len : bs.length ≤ 2147483647
  le : B ≤ p
theorem SrcOk.bs {w0 w : World} {B p pos : Nat} {sv : Value} {bs : List Nat} (h : SrcOk w0 B p sv bs) (hb : Below B w0 w) (hs : SrcAt w p sv pos) : BsAt w p sv bs (pos / 8) (pos % 8) := ⟨hs, (h.rd.below hb).rdT, h.lt⟩
theorem rdBits_yes {w0 : World} {B p : Nat} {sv : Value} {bs : List Nat} (h : SrcOk w0 B p sv bs) (pos n : Nat) (w : World) (hb : Below B w0 w) (hBw : B ≤ w.heap.size) (hs : SrcAt w p sv pos) (h1 : 1 ≤ n) (h32 : n ≤ 32) (hp : pos + n ≤ 8 * bs.length) :
    Calls Tryd.prog 44 #[.pointer (some ⟨p, 0, none⟩), .int .i64 n] w fun e w' => e = .returned (.tuple #[.int .i64 ((rb bs pos n : Nat) : Int), .nilIface]) ∧ SrcAt w' p sv (pos + n) ∧ Onl p w w' ∧ Below B w0 w' := by
  have e1 : 8 * (pos / 8) + pos % 8 = pos := by omega
  refine (readBits_any p (pos / 8) (pos % 8) n sv bs w (h.bs hb hs) h.len (by omega) h1 h32 (by omega)).mono ?_
  rintro e w' ⟨rfl, hbs, ho⟩
  rw [e1] at hbs ⊢
  exact ⟨rfl, hbs.head, ho, ho.below B w0 hb h.le hBw⟩
theorem newF_any (v : Value) (w : World) : Calls Tryd.prog 37 #[v] w fun e w' => (∃ t u, e = .returned (.iface t u)) ∧ Below w.heap.size w w' := by
  have h : ∀ s u w', Calls Tryd.prog 56 #[.string s, u] w' fun e w'' => e = .returned (.agg #[.string s, .nilIface]) ∧ Below w'.heap.size w' w'' := fun s u w' => by
    go_enter Tryd.func56, Tryd.ntmps56
    go_wp2
    go_returns
    exact ⟨rfl, by go_grown⟩
  go_enter Tryd.func37, Tryd.ntmps37
  go_wp2_with fail
  refine (h _ _ _).mono ?_
  rintro e w1 ⟨rfl, hb⟩
  go_wp2
  go_ret
  exact ⟨⟨_, _, rfl⟩, hb⟩
/-- From w to w' blocks stay, but for p and v's own one; v' lies where v did, or in a new block. -/
structure Fr (w : World) (p : Nat) (v : Value) (w' : World) (v' : Value) : Prop where
  same : ∀ b, b < w.heap.size → b ≠ p → some b ≠ v.ownBlock → w'.heap[b]? = w.heap[b]?
  ob : v'.ownBlock = v.ownBlock ∨ ∃ g, v'.ownBlock = some g ∧ w.heap.size ≤ g
  size : w.heap.size ≤ w'.heap.size
theorem Fr.refl (w : World) (p : Nat) (v : Value) : Fr w p v w v := ⟨fun _ _ _ _ => rfl, .inl rfl, Nat.le_refl _⟩
theorem Fr.read {w w' w2 : World} {p : Nat} {v v' : Value} (h : Fr w p v w' v') (k : Onl p w' w2) : Fr w p v w2 v' :=
  ⟨fun b h1 h2 h3 => (k.same b (Nat.lt_of_lt_of_le h1 h.size) h2).trans (h.same b h1 h2 h3), h.ob, Nat.le_trans h.size k.size⟩
theorem Fr.below {w w' w2 : World} {p : Nat} {v v' : Value} (h : Fr w p v w' v') (k : Below w'.heap.size w' w2) : Fr w p v w2 v' := h.read (Onl.of_below k)
theorem Fr.app {w w' w2 : World} {p : Nat} {v v' v2 : Value} (h : Fr w p v w' v') (hg : w'.grownBy w2 v'.ownBlock) (hl : v2.ownBlock = v'.ownBlock ∨ v2.ownBlock = some w'.heap.size) : Fr w p v w2 v2 := by
  refine ⟨fun b h1 h2 h3 => (hg.block b (Nat.lt_of_lt_of_le h1 h.size) (fun he => ?_)).trans (h.same b h1 h2 h3), ?_, Nat.le_trans h.size hg.size⟩
  · rcases h.ob with hb | ⟨g, hb, hgs⟩
    · rw [hb] at he; exact h3 he
    · rw [hb] at he; injection he with he; omega
  · rcases hl with hl | hl
    · rw [hl]; exact h.ob
    · exact .inr ⟨_, hl, h.size⟩
theorem newBits_any (A : Option Addr) (n c : Nat) (w : World) : Calls Tryd.prog 29 #[.slice A n c] w fun e w' => e = .returned (.pointer (some ⟨w.heap.size, 0, none⟩)) ∧ w' = w.alloc (.cells #[.slice A n c, .int .i64 0, .int .i64 0] 86) := by
  go_enter Tryd.func29, Tryd.ntmps29
  go_wp2
  go_ret
  exact ⟨rfl, rfl⟩
/-- The cells of a result. -/
def drC (A : Option Addr) (n c : Nat) (s : ByteArray) (A2 : Option Addr) (n2 c2 : Nat) (s2 : ByteArray) (a b k : Int) : Array Value :=
  #[.slice A n c, .int .i64 (8 * (n : Int)), .string s, .slice A2 n2 c2, .string s2, .int .i64 0, .int .i64 0, .nilIface, .int .i64 b, .int .i64 a, .int .i64 k]
theorem newDec_any (A : Option Addr) (n c : Nat) (s s2 : ByteArray) (A2 : Option Addr) (n2 c2 : Nat) (a b k : Int) (w : World) (hn : n ≤ 2147483647) : Calls Tryd.prog 57 #[.slice A n c, .string s, .slice A2 n2 c2, .string s2, .int .i64 a, .int .i64 b, .int .i64 k] w fun e w' => e = .returned (.pointer (some ⟨w.heap.size, 0, none⟩)) ∧ w' = w.alloc (.cells (drC A n c s A2 n2 c2 s2 a b k) 84) := by
  go_enter Tryd.func57, Tryd.ntmps57
  go_wp2
  go_ret
  exact ⟨rfl, rfl⟩
theorem getText_any (g : Nat) (v : Value) (w : World) (h : w.cell? ⟨g, 2, none⟩ = some v) : Calls Tryd.prog 22 #[.pointer (some ⟨g, 0, none⟩)] w fun e w' => e = .returned v ∧ w' = w := by
  go_enter Tryd.func22, Tryd.ntmps22
  go_wp2
  go_ret
  exact ⟨rfl, rfl⟩
theorem getRawBytes_any (g : Nat) (v : Value) (w : World) (h : w.cell? ⟨g, 0, none⟩ = some v) : Calls Tryd.prog 23 #[.pointer (some ⟨g, 0, none⟩)] w fun e w' => e = .returned v ∧ w' = w := by
  go_enter Tryd.func23, Tryd.ntmps23
  go_wp2
  go_ret
  exact ⟨rfl, rfl⟩
theorem getByteSegments_any (g : Nat) (v : Value) (w : World) (h : w.cell? ⟨g, 3, none⟩ = some v) : Calls Tryd.prog 21 #[.pointer (some ⟨g, 0, none⟩)] w fun e w' => e = .returned v ∧ w' = w := by
  go_enter Tryd.func21, Tryd.ntmps21
  go_wp2
  go_ret
  exact ⟨rfl, rfl⟩
theorem getECLevel_any (g : Nat) (v : Value) (w : World) (h : w.cell? ⟨g, 4, none⟩ = some v) : Calls Tryd.prog 24 #[.pointer (some ⟨g, 0, none⟩)] w fun e w' => e = .returned v ∧ w' = w := by
  go_enter Tryd.func24, Tryd.ntmps24
  go_wp2
  go_ret
  exact ⟨rfl, rfl⟩
theorem getErrorsCorrected_any (g : Nat) (v : Value) (w : World) (h : w.cell? ⟨g, 5, none⟩ = some v) : Calls Tryd.prog 25 #[.pointer (some ⟨g, 0, none⟩)] w fun e w' => e = .returned v ∧ w' = w := by
  go_enter Tryd.func25, Tryd.ntmps25
  go_wp2
  go_ret
  exact ⟨rfl, rfl⟩
theorem getStructuredAppendSequenceNumber_any (g : Nat) (v : Value) (w : World) (h : w.cell? ⟨g, 9, none⟩ = some v) : Calls Tryd.prog 26 #[.pointer (some ⟨g, 0, none⟩)] w fun e w' => e = .returned v ∧ w' = w := by
  go_enter Tryd.func26, Tryd.ntmps26
  go_wp2
  go_ret
  exact ⟨rfl, rfl⟩
theorem getStructuredAppendParity_any (g : Nat) (v : Value) (w : World) (h : w.cell? ⟨g, 8, none⟩ = some v) : Calls Tryd.prog 27 #[.pointer (some ⟨g, 0, none⟩)] w fun e w' => e = .returned v ∧ w' = w := by
  go_enter Tryd.func27, Tryd.ntmps27
  go_wp2
  go_ret
  exact ⟨rfl, rfl⟩
theorem getSymbologyModifier_any (g : Nat) (v : Value) (w : World) (h : w.cell? ⟨g, 10, none⟩ = some v) : Calls Tryd.prog 28 #[.pointer (some ⟨g, 0, none⟩)] w fun e w' => e = .returned v ∧ w' = w := by
  go_enter Tryd.func28, Tryd.ntmps28
  go_wp2
  go_ret
  exact ⟨rfl, rfl⟩
theorem cell_back1 {fn : Func} {t1 u : Tmp} {ty : TypeId} (h : fn.results = #[.cell t1 ty, .tmp u]) (tmps : Array Value) (P : Program) (w : World) (g1 : Nat) (h1 : tmps.getD t1 undef = .pointer (some ⟨g1, 0, none⟩)) (c1 : Array Value) (x : Value) (h2 : tmps.getD u undef = x)
    (l1 : (loadVar ty ⟨g1, 0, none⟩).run P w = .ok (.agg c1) w) : (results fn tmps).run P w = .ok (.tuple #[.agg c1, x]) w := by
  rw [Array.getD_eq_getD_getElem?] at h1 h2
  simp [results, h, h1, h2, asAddr, l1]
/-- A row is written anew. -/
theorem Onl.row (w : World) (g : Nat) (cs : Array Value) : Onl g w (w.setRow g cs) := ⟨fun b _ hb => setRow_other w g b cs hb, by simp, fun B w0 hb hB _ => below_setRow hb hB _⟩
end Go.Proofs.YtjpcajecmfhppaaDoor
