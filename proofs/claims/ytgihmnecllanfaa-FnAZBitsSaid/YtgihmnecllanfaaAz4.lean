/-
  PLAIN: bits set at their places, in any order. WALKS: the small parts of extractBits.
-/
import Derived.Test.YtgihmnecllanfaaAz2
import Derived.Test.YtgihmnecllanfaaRo3
namespace Go.Proofs.Ytgihmnecllanfaa
open Go.RowKit

/-- Bits that agree with T below n, and at the first m places of the four sides behind n. -/
def Ag (T cur : List Bool) (n l m : Nat) : Prop := cur.length = T.length ∧ (∀ p, p < n → cur[p]? = T[p]?) ∧ ∀ s q, s < 4 → q < m → cur[n + s * l + q]? = T[n + s * l + q]?
theorem Ag.zero (T : List Bool) (l : Nat) : Ag T (List.replicate T.length false) 0 l 0 := ⟨List.length_replicate, fun _ hp => absurd hp (Nat.not_lt_zero _), fun _ _ _ hq => absurd hq (Nat.not_lt_zero _)⟩
theorem set_ag {T cur : List Bool} {p : Nat} {b : Bool} (hb : T[p]? = some b) (hl : cur.length = T.length) (q : Nat) (h : q = p ∨ cur[q]? = T[q]?) : (cur.set p b)[q]? = T[q]? := by
  have hp := (List.getElem?_eq_some_iff.1 hb).1
  by_cases he : q = p
  · subst he; rw [List.getElem?_set_self (by omega), hb]
  · rw [List.getElem?_set_ne (by omega)]
    rcases h with h | h
    · exact absurd h he
    · exact h
theorem Ag.step {T cur : List Bool} {n l m p0 p1 p2 p3 : Nat} {b0 b1 b2 b3 : Bool} (h : Ag T cur n l m) (e0 : p0 = n + m) (e1 : p1 = n + l + m) (e2 : p2 = n + 2 * l + m) (e3 : p3 = n + 3 * l + m)
    (h0 : T[p0]? = some b0) (h1 : T[p1]? = some b1) (h2 : T[p2]? = some b2) (h3 : T[p3]? = some b3) :
    Ag T ((((cur.set p0 b0).set p1 b1).set p2 b2).set p3 b3) n l (m + 1) := by
  obtain ⟨hl, ha, hs⟩ := h
  have hl0 : (cur.set p0 b0).length = T.length := by rw [List.length_set]; exact hl
  have hl1 : ((cur.set p0 b0).set p1 b1).length = T.length := by rw [List.length_set]; exact hl0
  have hl2 : (((cur.set p0 b0).set p1 b1).set p2 b2).length = T.length := by rw [List.length_set]; exact hl1
  have key : ∀ q, (q = p0 ∨ q = p1 ∨ q = p2 ∨ q = p3 ∨ cur[q]? = T[q]?) → ((((cur.set p0 b0).set p1 b1).set p2 b2).set p3 b3)[q]? = T[q]? := fun q hq => by
    refine set_ag h3 hl2 q ?_
    by_cases q3 : q = p3
    · exact Or.inl q3
    refine Or.inr (set_ag h2 hl1 q ?_)
    by_cases q2 : q = p2
    · exact Or.inl q2
    refine Or.inr (set_ag h1 hl0 q ?_)
    by_cases q1 : q = p1
    · exact Or.inl q1
    refine Or.inr (set_ag h0 hl q ?_)
    by_cases q0 : q = p0
    · exact Or.inl q0
    rcases hq with h | h | h | h | h
    · exact absurd h q0
    · exact absurd h q1
    · exact absurd h q2
    · exact absurd h q3
    · exact Or.inr h
  refine ⟨by rw [List.length_set]; exact hl2, fun p hp => key p (Or.inr (Or.inr (Or.inr (Or.inr (ha p hp))))), fun s q hs4 hq => ?_⟩
  rcases Nat.lt_or_ge q m with hqm | hqm
  · exact key _ (Or.inr (Or.inr (Or.inr (Or.inr (hs s q hs4 hqm)))))
  · obtain rfl : q = m := by omega
    have hsc : s = 0 ∨ s = 1 ∨ s = 2 ∨ s = 3 := by omega
    rcases hsc with rfl | rfl | rfl | rfl
    · exact key _ (Or.inl (by omega))
    · exact key _ (Or.inr (Or.inl (by omega)))
    · exact key _ (Or.inr (Or.inr (Or.inl (by omega))))
    · exact key _ (Or.inr (Or.inr (Or.inr (Or.inl (by omega)))))
theorem Ag.layer {T cur : List Bool} {n l n2 l2 : Nat} (h : Ag T cur n l l) (e : n2 = n + 4 * l) : Ag T cur n2 l2 0 := by
  obtain ⟨hl, ha, hs⟩ := h
  refine ⟨hl, fun p hp => ?_, fun _ _ _ hq => absurd hq (Nat.not_lt_zero _)⟩
  rcases Nat.lt_or_ge p n with hpn | hpn
  · exact ha p hpn
  · rcases Nat.lt_or_ge p (n + l) with h1 | h1
    · have := hs 0 (p - n) (by omega) (by omega); rwa [show n + 0 * l + (p - n) = p by omega] at this
    rcases Nat.lt_or_ge p (n + 2 * l) with h2 | h2
    · have := hs 1 (p - n - l) (by omega) (by omega); rwa [show n + 1 * l + (p - n - l) = p by omega] at this
    rcases Nat.lt_or_ge p (n + 3 * l) with h3 | h3
    · have := hs 2 (p - n - 2 * l) (by omega) (by omega); rwa [show n + 2 * l + (p - n - 2 * l) = p by omega] at this
    · have := hs 3 (p - n - 3 * l) (by omega) (by omega); rwa [show n + 3 * l + (p - n - 3 * l) = p by omega] at this
theorem Ag.full {T cur : List Bool} {n l m : Nat} (h : Ag T cur n l m) (e : T.length ≤ n) : cur = T := by
  apply List.ext_getElem?
  intro i
  rcases Nat.lt_or_ge i T.length with hi | hi
  · exact h.2.1 i (by omega)
  · rw [List.getElem?_eq_none hi, List.getElem?_eq_none (by rw [h.1]; exact hi)]
theorem Ag.none {T cur : List Bool} {n l l2 : Nat} (h : Ag T cur n l 0) : Ag T cur n l2 0 := ⟨h.1, h.2.1, fun _ _ _ hq => absurd hq (Nat.not_lt_zero _)⟩

theorem MatAt.below {w w' : World} {p g W H B : Nat} {f : Nat → Nat → Bool} (h : MatAt w p g W H f) (hb : Below B w w') (hp : p < B) (hg : g < B) : MatAt w' p g W H f := by
  obtain ⟨ws, h1, h2⟩ := h
  exact ⟨ws, ⟨h1.head.below hb hp, h1.rows.below hb hg, h1.lt, h1.len, h1.apart⟩, h2⟩
theorem MatAt.blt {w : World} {p g W H : Nat} {f : Nat → Nat → Bool} (h : MatAt w p g W H f) : p < w.heap.size ∧ g < w.heap.size := by
  obtain ⟨ws, h1, _⟩ := h; exact ⟨h1.head.lt, h1.rows.lt⟩
theorem f64 (x : Int) (s : Nat) (h : x = (s : Int)) (hb : s ≤ 1000000) : IntKind.i64.wrap x = (s : Int) := by rw [h, IntKind.wrap_i64]; omega

theorem nums3 (n y cj k N : Nat) (x : Int) (hx : x = (y : Int)) (hb : n + y + cj + k < N) (hN : N ≤ 1000000) : ∃ B A P : Nat, Hid (B = n + y ∧ A = B + cj ∧ P = A + k) ∧ P < N ∧ IntKind.i64.wrap x = x ∧ IntKind.i64.wrap (B : Int) = (B : Int) ∧ (n : Int) + x = (B : Int) ∧
    IntKind.i64.wrap (A : Int) = (A : Int) ∧ (B : Int) + (cj : Int) = (A : Int) ∧ IntKind.i64.wrap (P : Int) = (P : Int) ∧ (A : Int) + (k : Int) = (P : Int) := by
  subst hx
  refine ⟨n + y, n + y + cj, n + y + cj + k, Lib.hid ⟨rfl, rfl, rfl⟩, hb, ?_, ?_, ?_, ?_, ?_, ?_, ?_⟩ <;> (try rw [IntKind.wrap_i64]) <;> omega
theorem nums2 (n cj k N : Nat) (hb : n + cj + k < N) (hN : N ≤ 1000000) : ∃ A P : Nat, Hid (A = n + cj ∧ P = A + k) ∧ P < N ∧
    IntKind.i64.wrap (A : Int) = (A : Int) ∧ (n : Int) + (cj : Int) = (A : Int) ∧ IntKind.i64.wrap (P : Int) = (P : Int) ∧ (A : Int) + (k : Int) = (P : Int) := by
  refine ⟨n + cj, n + cj + k, Lib.hid ⟨rfl, rfl⟩, hb, ?_, ?_, ?_, ?_⟩ <;> (try rw [IntKind.wrap_i64]) <;> omega
theorem numAdd (a b S : Nat) (h : a + b < S) (hS : S ≤ 1000000) : ∃ I : Nat, Hid (I = a + b) ∧ I < S ∧ IntKind.i64.wrap (I : Int) = (I : Int) ∧ (a : Int) + (b : Int) = (I : Int) := by
  refine ⟨a + b, Lib.hid rfl, h, ?_, ?_⟩ <;> (try rw [IntKind.wrap_i64]) <;> omega
theorem numSub (a b S : Nat) (hb : b ≤ a) (h : a < S) (hS : S ≤ 1000000) : ∃ I : Nat, Hid (I = a - b) ∧ I < S ∧ IntKind.i64.wrap (I : Int) = (I : Int) ∧ (a : Int) - (b : Int) = (I : Int) := by
  refine ⟨a - b, Lib.hid rfl, by omega, ?_, ?_⟩ <;> (try rw [IntKind.wrap_i64]) <;> omega
theorem round_ag {c : Bool} {L : Nat} {f : Nat → Nat → Bool} {T C : List Bool} {n l i j k S lo hh I0 I1 I2 I3 P0 P1 P2 P3 : Nat} {b0 b1 b2 b3 : Bool}
    (HTT : ∀ k q, k < 4 → q < 2 * l → T[n + k * (2 * l) + q]? = some (bitZ c L f i k q)) (hS : sideN c L = S) (hlo : lo = i * 2) (hhh : hh = S - 1 - lo)
    (e0 : I0 = lo + k) (e1 : I1 = lo + j) (e2 : I2 = hh - k) (e3 : I3 = hh - j) (p0 : P0 = n + j * 2 + k) (p1 : P1 = n + 2 * l + j * 2 + k) (p2 : P2 = n + 4 * l + j * 2 + k) (p3 : P3 = n + 6 * l + j * 2 + k)
    (hj : j < l) (hk : k < 2) (hA : Ag T C n (2 * l) (2 * j + k)) (hb0 : b0 = f (placeN c L I0) (placeN c L I1)) (hb1 : b1 = f (placeN c L I1) (placeN c L I2)) (hb2 : b2 = f (placeN c L I2) (placeN c L I3)) (hb3 : b3 = f (placeN c L I3) (placeN c L I0)) :
    Ag T ((((C.set P0 b0).set P1 b1).set P2 b2).set P3 b3) n (2 * l) (2 * j + (k + 1)) := by
  have i0 : 2 * i + k = I0 := by omega
  have i1 : 2 * i + j = I1 := by omega
  have i2 : S - 1 - 2 * i - k = I2 := by omega
  have i3 : S - 1 - 2 * i - j = I3 := by omega
  have hm2 : (2 * j + k) % 2 = k := by omega
  have hd2 : (2 * j + k) / 2 = j := by omega
  have hm : 2 * j + k < 2 * l := by omega
  refine hA.step (m := 2 * j + k) (by omega) (by omega) (by omega) (by omega) ?_ ?_ ?_ ?_
  · rw [show P0 = n + 0 * (2 * l) + (2 * j + k) by omega, HTT 0 _ (by omega) hm, hb0]; show some (f (placeN c L (2 * i + (2 * j + k) % 2)) (placeN c L (2 * i + (2 * j + k) / 2))) = _; rw [hm2, hd2, i0, i1]
  · rw [show P1 = n + 1 * (2 * l) + (2 * j + k) by omega, HTT 1 _ (by omega) hm, hb1]; show some (f (placeN c L (2 * i + (2 * j + k) / 2)) (placeN c L (sideN c L - 1 - 2 * i - (2 * j + k) % 2))) = _; rw [hm2, hd2, hS, i1, i2]
  · rw [show P2 = n + 2 * (2 * l) + (2 * j + k) by omega, HTT 2 _ (by omega) hm, hb2]; show some (f (placeN c L (sideN c L - 1 - 2 * i - (2 * j + k) % 2)) (placeN c L (sideN c L - 1 - 2 * i - (2 * j + k) / 2))) = _; rw [hm2, hd2, hS, i2, i3]
  · rw [show P3 = n + 3 * (2 * l) + (2 * j + k) by omega, HTT 3 _ (by omega) hm, hb3]; show some (f (placeN c L (sideN c L - 1 - 2 * i - (2 * j + k) / 2)) (placeN c L (2 * i + (2 * j + k) % 2))) = _; rw [hm2, hd2, hS, i3, i0]

theorem totalBits_any (c : Bool) (L : Nat) (w : World) (hL : L ≤ 32) : Calls Try.prog 53 #[.int .i64 L, .bool c] w fun e w' => e = .returned (.int .i64 (offN c L L : Nat)) ∧ w' = w := by
  have hle := offN_le c L L hL
  have ho := offN_all c L
  generalize offN c L L = N at *
  cases c
  · have e : ((112 : Int) + 16 * (L : Int)) * (L : Int) = (N : Int) := by rw [ho]; simp
    clear ho
    go_enter Try.func53, Try.ntmps53
    go_wp2
    go_ret
    exact ⟨rfl, rfl⟩
  · have e : ((88 : Int) + 16 * (L : Int)) * (L : Int) = (N : Int) := by rw [ho]; simp
    clear ho
    go_enter Try.func53, Try.ntmps53
    go_wp2
    go_ret
    exact ⟨rfl, rfl⟩
theorem isCompact_any (c : Bool) (r : Nat) (w : World) (h : w.cell? ⟨r, 1, none⟩ = some (.bool c)) : Calls Try.prog 51 #[.pointer (some ⟨r, 0, none⟩)] w fun e w' => e = .returned (.bool c) ∧ w' = w := by
  go_enter Try.func51, Try.ntmps51
  go_wp2
  go_ret
  exact ⟨rfl, rfl⟩
theorem nbLayers_any (L r : Nat) (w : World) (h : w.cell? ⟨r, 3, none⟩ = some (.int .i64 (L : Nat))) : Calls Try.prog 52 #[.pointer (some ⟨r, 0, none⟩)] w fun e w' => e = .returned (.int .i64 (L : Nat)) ∧ w' = w := by
  go_enter Try.func52, Try.ntmps52
  go_wp2
  go_ret
  exact ⟨rfl, rfl⟩
end Go.Proofs.Ytgihmnecllanfaa
