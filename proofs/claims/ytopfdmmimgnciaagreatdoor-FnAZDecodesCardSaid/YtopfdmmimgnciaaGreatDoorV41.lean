/-
  PLAIN: the decoder's words: as many as were read, and each one of the field. PLAIN: what any bits say: the reader's way with its function FLG(n), and where it refuses them. WALKS: errors of formats; the character set of a number. What correctBits makes of any words: the bits that they say, mended; or nothing.
-/
import Derived.Test.YtopfdmmimgnciaaGreatDoorV17
import Derived.Test.YtopfdmmimgnciaaGreatDoorV01
import Derived.Test.YtopfdmmimgnciaaGreatDoorV15
import Derived.Test.YtopfdmmimgnciaaGreatDoorV24
import Derived.Test.YtopfdmmimgnciaaGreatDoorV23
namespace Go.Proofs.YtopfdmmimgnciaaGreatDoor.Gf
open Go.Proofs.YtopfdmmimgnciaaGreatDoor

theorem fixW_len {F : Fd} (n : Nat) : ∀ (P : List (Nat × Nat)) (ws ws' : List Nat), fixW F n P ws = some ws' → ws'.length = ws.length
  | [], ws, ws', h => by unfold fixW at h; injection h with h; rw [h]
  | (X, Y) :: P, ws, ws', h => by
    unfold fixW at h
    split at h
    · cases h
    · rw [fixW_len n P _ _ h, List.length_set]
theorem fixW_lt {F : Fd} (n : Nat) : ∀ (P : List (Nat × Nat)) (ws ws' : List Nat), (∀ x ∈ P, x.2 < F.s) → (∀ x ∈ ws, x < F.s) → fixW F n P ws = some ws' → ∀ x ∈ ws', x < F.s
  | [], ws, ws', _, hw, h => by unfold fixW at h; injection h with h; rw [← h]; exact hw
  | (X, Y) :: P, ws, ws', hP, hw, h => by
    unfold fixW at h
    split at h
    · cases h
    · refine fixW_lt n P _ _ (fun x hx => hP x (List.mem_cons_of_mem _ hx)) (fun x hx => ?_) h
      rcases List.mem_or_eq_of_mem_set hx with h1 | h1
      · exact hw x h1
      · rw [h1]
        refine xor_lt_s ?_ (hP (X, Y) (List.mem_cons_self ..))
        rw [List.getD]
        cases hg : ws[n - 1 - lg F X]? with
        | none => exact s_pos F
        | some y => exact hw y (List.mem_of_getElem? hg)
section
variable {F : Fd} (h : Ok F)
include h
theorem omG_lt {R : Nat} (hR : 1 ≤ R) {xs : List Nat} (hx : ∀ x ∈ xs, x < F.s) : ∀ x ∈ omO F (eu0 F R xs), x < F.s := scaled_lt h _ (un_rev (eu_end h hR hx).1.I.lr)
theorem magG_lt {om : List Nat} (ho : ∀ x ∈ om, x < F.s) (L : List Nat) (X : Nat) : mag F om L X < F.s := by
  have h1 := ev_lt h (inv_lt h X) ho
  unfold mag
  split
  · exact mul_lt h _ h1
  · exact mul_lt h _ (mul_lt h _ h1)
omit h in
theorem rsDec_len {R : Nat} {xs ws : List Nat} (hd : rsDec F R xs = some ws) : ws.length = xs.length := by
  unfold rsDec at hd
  split at hd
  · injection hd with hd; rw [hd]
  · split at hd
    · cases hd
    · split at hd
      · cases hd
      · exact fixW_len _ _ _ _ hd
theorem rsDec_lt {R : Nat} (hR : 1 ≤ R) {xs ws : List Nat} (hx : ∀ x ∈ xs, x < F.s) (hd : rsDec F R xs = some ws) : ∀ x ∈ ws, x < F.s := by
  unfold rsDec at hd
  split at hd
  · injection hd with hd; rw [← hd]; exact hx
  · split at hd
    · cases hd
    · split at hd
      · cases hd
      · refine fixW_lt _ _ _ _ (fun p hp => ?_) hx hd
        obtain ⟨X, _, rfl⟩ := List.mem_map.1 hp
        exact magG_lt h (omG_lt h hR hx) _ _
end
end Go.Proofs.YtopfdmmimgnciaaGreatDoor.Gf
namespace Go.Proofs.YtopfdmmimgnciaaGreatDoor

/-- A number of n digits of the mode of digits; none: one of them is no digit. -/
def eciD : Nat → List Bool → Nat → Option Nat
  | 0, _, e => some e
  | n + 1, l, e => if valL (l.take 4) < 2 ∨ 11 < valL (l.take 4) then none else eciD n (l.drop 4) (e * 10 + (valL (l.take 4) - 2))
/-- The reader's way from a state on: what is said; none: the bits are refused. -/
def decG : Nat → List Bool → Nat → Nat → Option (List UInt8)
  | 0, _, _, _ => some []
  | f + 1, l, latch, shift =>
    if l.length = 0 then some []
    else if shift = 5 then
      if l.length < 5 then some []
      else if valL (l.take 5) = 0 then
        if (l.drop 5).length < 11 then some []
        else (decG f (takeB (valL ((l.drop 5).take 11) + 31) (l.drop 16)).2 latch latch).map ((takeB (valL ((l.drop 5).take 11) + 31) (l.drop 16)).1 ++ ·)
      else (decG f (takeB (valL (l.take 5)) (l.drop 5)).2 latch latch).map ((takeB (valL (l.take 5)) (l.drop 5)).1 ++ ·)
    else if l.length < sizeT shift then some []
    else
      let s := tabS shift (valL (l.take (sizeT shift)))
      let r := l.drop (sizeT shift)
      if s = flgS then
        if r.length < 3 then some []
        else
          let n := valL (r.take 3)
          let r2 := r.drop 3
          if n = 0 then (decG f r2 latch latch).map (29 :: ·)
          else if n = 7 then none
          else if r2.length < 4 * n then decG f r2 latch latch
          else match eciD n r2 0 with
            | none => none
            | some e => if 900 ≤ e then none else decG f (r2.drop (4 * n)) latch latch
      else if [67, 84, 82, 76, 95] <+: s then decG f r (if s.getD 6 0 = 76 then modeT (s.getD 5 0) else shift) (modeT (s.getD 5 0))
      else (decG f r latch latch).map (s ++ ·)
theorem takeB_len : ∀ (k : Nat) (l : List Bool), (takeB k l).2.length ≤ l.length
  | 0, l => Nat.le_refl _
  | k + 1, l => by
    unfold takeB
    split
    · simp
    · have := takeB_len k (l.drop 8)
      rw [List.length_drop] at this
      exact Nat.le_trans this (Nat.sub_le _ _)
/-- Where the reading goes on: o = none: it is refused. -/
def GoOn (l : List Bool) (lt sh : Nat) (o : Option (List UInt8)) : Prop := ∃ f, l.length ≤ f ∧ decG f l lt sh = o
section
variable {lt sh : Nat} {l : List Bool} {o : Option (List UInt8)}
theorem GoOn.begin_ (l : List Bool) (lt sh : Nat) : GoOn l lt sh (decG l.length l lt sh) := ⟨_, Nat.le_refl _, rfl⟩
theorem GoOn.end_ (h : GoOn l lt sh o) (hl : l.length = 0) : o = some [] := by
  obtain ⟨f, _, h⟩ := h
  rcases f with _ | f
  · exact h.symm
  · rw [decG, if_pos hl] at h; exact h.symm
theorem GoOn.open_ (h : GoOn l lt sh o) (hl : 0 < l.length) : ∃ f, l.length ≤ f + 1 ∧ decG (f + 1) l lt sh = o := by
  obtain ⟨f, hf, h⟩ := h
  rcases f with _ | f
  · omega
  · exact ⟨f, hf, h⟩
theorem GoOn.short5 (h : GoOn l lt 5 o) (hl : l.length < 5) : o = some [] := by
  by_cases h0 : l.length = 0
  · exact h.end_ h0
  · obtain ⟨f, _, h⟩ := h.open_ (by omega)
    rw [decG, if_neg h0, if_pos rfl, if_pos hl] at h; exact h.symm
theorem GoOn.bin (h : GoOn l lt 5 o) (hl : 5 ≤ l.length) (hv : valL (l.take 5) ≠ 0) : ∃ o', o = o'.map ((takeB (valL (l.take 5)) (l.drop 5)).1 ++ ·) ∧ GoOn (takeB (valL (l.take 5)) (l.drop 5)).2 lt lt o' := by
  obtain ⟨f, hf, h⟩ := h.open_ (by omega)
  rw [decG, if_neg (by omega), if_pos rfl, if_neg (by omega), if_neg hv] at h
  refine ⟨_, h.symm, f, ?_, rfl⟩
  have := takeB_len (valL (l.take 5)) (l.drop 5)
  rw [List.length_drop] at this; omega
theorem GoOn.short11 (h : GoOn l lt 5 o) (hl : 5 ≤ l.length) (hv : valL (l.take 5) = 0) (h2 : l.length < 16) : o = some [] := by
  obtain ⟨f, _, h⟩ := h.open_ (by omega)
  rw [decG, if_neg (by omega), if_pos rfl, if_neg (by omega), if_pos hv, if_pos (by rw [List.length_drop]; omega)] at h
  exact h.symm
theorem GoOn.binL (h : GoOn l lt 5 o) (hl : 16 ≤ l.length) (hv : valL (l.take 5) = 0) : ∃ o', o = o'.map ((takeB (valL ((l.drop 5).take 11) + 31) (l.drop 16)).1 ++ ·) ∧ GoOn (takeB (valL ((l.drop 5).take 11) + 31) (l.drop 16)).2 lt lt o' := by
  obtain ⟨f, hf, h⟩ := h.open_ (by omega)
  rw [decG, if_neg (by omega), if_pos rfl, if_neg (by omega), if_pos hv, if_neg (by rw [List.length_drop]; omega)] at h
  refine ⟨_, h.symm, f, ?_, rfl⟩
  have := takeB_len (valL ((l.drop 5).take 11) + 31) (l.drop 16)
  rw [List.length_drop] at this; omega
theorem GoOn.short (h : GoOn l lt sh o) (hs : sh ≠ 5) (hl : l.length < sizeT sh) : o = some [] := by
  by_cases h0 : l.length = 0
  · exact h.end_ h0
  · obtain ⟨f, _, h⟩ := h.open_ (by omega)
    rw [decG, if_neg h0, if_neg hs, if_pos hl] at h; exact h.symm
theorem GoOn.ctrl (h : GoOn l lt sh o) (hs : sh ≠ 5) (hl : sizeT sh ≤ l.length) (a b : UInt8) (he : tabS sh (valL (l.take (sizeT sh))) = ctrlS a b) : GoOn (l.drop (sizeT sh)) (if b = 76 then modeT a else sh) (modeT a) o := by
  have hp := sizeT_pos sh
  obtain ⟨f, hf, h⟩ := h.open_ (by omega)
  rw [decG, if_neg (by omega), if_neg hs, if_neg (by omega)] at h
  simp only [he] at h
  rw [if_neg (by unfold ctrlS flgS; simp), if_pos ⟨[a, b], rfl⟩] at h
  exact ⟨f, by rw [List.length_drop]; omega, h⟩
theorem GoOn.text (h : GoOn l lt sh o) (hs : sh ≠ 5) (hl : sizeT sh ≤ l.length) (h1 : tabS sh (valL (l.take (sizeT sh))) ≠ flgS) (h2 : ¬ [67, 84, 82, 76, 95] <+: tabS sh (valL (l.take (sizeT sh)))) :
    ∃ o', o = o'.map (tabS sh (valL (l.take (sizeT sh))) ++ ·) ∧ GoOn (l.drop (sizeT sh)) lt lt o' := by
  have hp := sizeT_pos sh
  obtain ⟨f, hf, h⟩ := h.open_ (by omega)
  rw [decG, if_neg (by omega), if_neg hs, if_neg (by omega)] at h
  simp only [if_neg h1, if_neg h2] at h
  exact ⟨_, h.symm, f, by rw [List.length_drop]; omega, rfl⟩
/-- FLG(n): what it does. -/
theorem GoOn.flg (h : GoOn l lt sh o) (hs : sh ≠ 5) (hl : sizeT sh ≤ l.length) (h1 : tabS sh (valL (l.take (sizeT sh))) = flgS) :
    ((l.drop (sizeT sh)).length < 3 ∧ o = some []) ∨
    (3 ≤ (l.drop (sizeT sh)).length ∧ valL ((l.drop (sizeT sh)).take 3) = 0 ∧ ∃ o', o = o'.map (29 :: ·) ∧ GoOn ((l.drop (sizeT sh)).drop 3) lt lt o') ∨
    (3 ≤ (l.drop (sizeT sh)).length ∧ valL ((l.drop (sizeT sh)).take 3) = 7 ∧ o = none) ∨
    (3 ≤ (l.drop (sizeT sh)).length ∧ valL ((l.drop (sizeT sh)).take 3) ≠ 0 ∧ valL ((l.drop (sizeT sh)).take 3) ≠ 7 ∧
      ((((l.drop (sizeT sh)).drop 3).length < 4 * valL ((l.drop (sizeT sh)).take 3) ∧ GoOn ((l.drop (sizeT sh)).drop 3) lt lt o) ∨
       (4 * valL ((l.drop (sizeT sh)).take 3) ≤ ((l.drop (sizeT sh)).drop 3).length ∧
        ((eciD (valL ((l.drop (sizeT sh)).take 3)) ((l.drop (sizeT sh)).drop 3) 0 = none ∧ o = none) ∨
         ∃ e, eciD (valL ((l.drop (sizeT sh)).take 3)) ((l.drop (sizeT sh)).drop 3) 0 = some e ∧
           ((900 ≤ e ∧ o = none) ∨ (e < 900 ∧ GoOn (((l.drop (sizeT sh)).drop 3).drop (4 * valL ((l.drop (sizeT sh)).take 3))) lt lt o)))))) := by
  have hp := sizeT_pos sh
  obtain ⟨f, hf, h⟩ := h.open_ (by omega)
  rw [decG, if_neg (by omega), if_neg hs, if_neg (by omega)] at h
  simp only [h1, if_true] at h
  have hr : (l.drop (sizeT sh)).length ≤ f := by rw [List.length_drop]; omega
  generalize l.drop (sizeT sh) = r at *
  by_cases c0 : r.length < 3
  · rw [if_pos c0] at h
    exact .inl ⟨c0, h.symm⟩
  · rw [if_neg c0] at h
    have c3 : 3 ≤ r.length := by omega
    by_cases c1 : valL (r.take 3) = 0
    · rw [if_pos c1] at h
      exact .inr (.inl ⟨c3, c1, _, h.symm, f, by rw [List.length_drop]; omega, rfl⟩)
    · rw [if_neg c1] at h
      by_cases c2 : valL (r.take 3) = 7
      · rw [if_pos c2] at h
        exact .inr (.inr (.inl ⟨c3, c2, h.symm⟩))
      · rw [if_neg c2] at h
        refine .inr (.inr (.inr ⟨c3, c1, c2, ?_⟩))
        by_cases c4 : (r.drop 3).length < 4 * valL (r.take 3)
        · rw [if_pos c4] at h
          exact .inl ⟨c4, f, by rw [List.length_drop]; omega, h⟩
        · rw [if_neg c4] at h
          refine .inr ⟨by omega, ?_⟩
          cases he : eciD (valL (r.take 3)) (r.drop 3) 0 with
          | none => rw [he] at h; exact .inl ⟨rfl, h.symm⟩
          | some e =>
            rw [he] at h
            refine .inr ⟨e, rfl, ?_⟩
            by_cases c5 : 900 ≤ e
            · simp only [if_pos c5] at h
              exact .inl ⟨c5, h.symm⟩
            · simp only [if_neg c5] at h
              exact .inr ⟨by omega, f, by rw [List.length_drop, List.length_drop]; omega, h⟩
end
end Go.Proofs.YtopfdmmimgnciaaGreatDoor
namespace Go.Proofs.YtopfdmmimgnciaaGreatDoor
open Go.RowKit

/-- An error is wrapped, or made: some error, and old blocks stay. -/
theorem wrapF_any (t : TypeId) (x : Value) (w : World) : Calls Tryz.prog 49 #[.iface t x] w fun e w' => (∃ t u, e = .returned (.iface t u)) ∧ Below w.heap.size w w' := by
  have h : ∀ s w', Calls Tryz.prog 76 #[.string s, .iface t x] w' fun e w'' => e = .returned (.agg #[.string s, .iface t x]) ∧ Below w'.heap.size w' w'' := fun s w' => by
    go_enter Tryz.func76, Tryz.ntmps76
    go_wp2
    go_returns
    exact ⟨rfl, by go_grown⟩
  go_enter Tryz.func49, Tryz.ntmps49
  go_wp2_with fail
  refine (h _ _).mono ?_
  rintro e w1 ⟨rfl, hb⟩
  go_wp2
  go_ret
  exact ⟨⟨_, _, rfl⟩, hb⟩
theorem newF_any (v : Value) (w : World) : Calls Tryz.prog 72 #[v] w fun e w' => (∃ t u, e = .returned (.iface t u)) ∧ Below w.heap.size w w' := by
  have h : ∀ s u w', Calls Tryz.prog 95 #[.string s, u] w' fun e w'' => e = .returned (.agg #[.string s, .nilIface]) ∧ Below w'.heap.size w' w'' := fun s u w' => by
    go_enter Tryz.func95, Tryz.ntmps95
    go_wp2
    go_returns
    exact ⟨rfl, by go_grown⟩
  go_enter Tryz.func72, Tryz.ntmps72
  go_wp2_with fail
  refine (h _ _ _).mono ?_
  rintro e w1 ⟨rfl, hb⟩
  go_wp2
  go_ret
  exact ⟨⟨_, _, rfl⟩, hb⟩
set_option maxRecDepth 100000 in
set_option maxHeartbeats 2000000 in
theorem eci_no (v : Nat) (w : World) (hv : 900 ≤ v) (hv2 : v ≤ 1000000000) : Calls Tryz.prog 79 #[.int .i64 v] w fun e w' => (∃ t u, e = .returned (.tuple #[.pointer none, .iface t u])) ∧ Below w.heap.size w w' := by
  go_enter Tryz.func79, Tryz.ntmps79
  go_wp2_with fail
  refine (newF_any _ w).mono ?_
  rintro e w1 ⟨⟨t, u, rfl⟩, hb⟩
  have HB := Lib.hid hb
  clear hb
  go_wp2_with fail
  go_ret2
  exact ⟨⟨t, u, rfl⟩, HB.out⟩
set_option maxRecDepth 100000 in
set_option maxHeartbeats 4000000 in
theorem eci_yes (v : Nat) (w : World) (hv : v < 900) : Calls Tryz.prog 79 #[.int .i64 v] w fun e w' => (∃ u, e = .returned (.tuple #[u, .nilIface])) ∧ Below w.heap.size w w' := by
  have hB := Lib.hid (brf w)
  have hA := Lib.hid (fun o => bal (brf w) o)
  go_enter Tryz.func79, Tryz.ntmps79
  go_wp2_with fail
  all_goals
    go_ret2
    first
      | exact ⟨⟨_, rfl⟩, hB.out⟩
      | exact ⟨⟨_, rfl⟩, hA.out _⟩
end Go.Proofs.YtopfdmmimgnciaaGreatDoor
namespace Go.Proofs.YtopfdmmimgnciaaGreatDoor
open Go.RowKit

/-- The bits that the first Dn words say; none: they cannot be mended, or one of them is all zeros or all ones. -/
def corG (W : Nat) (F : Gf.Fd) (E0 : List Nat) (Dn : Nat) : Option (List Bool) :=
  match Gf.rsDec F (E0.length - Dn) E0 with
  | none => none
  | some E => if (E.take Dn).any (fun x => x == 0 || x == 2 ^ W - 1) then none else some (unL W (E.take Dn))
theorem corG_no {W Dn : Nat} {F : Gf.Fd} {E0 : List Nat} (h : Gf.rsDec F (E0.length - Dn) E0 = none) : corG W F E0 Dn = none := by
  unfold corG; rw [h]
theorem corG_bad {W Dn k : Nat} {F : Gf.Fd} {E0 E : List Nat} (h : Gf.rsDec F (E0.length - Dn) E0 = some E) (hk : k < Dn) (hl : k < E.length) (hb : E.getD k 0 = 0 ∨ E.getD k 0 = 2 ^ W - 1) : corG W F E0 Dn = none := by
  unfold corG
  rw [h]
  have hm : E.getD k 0 ∈ E.take Dn := by
    rw [List.getD, List.getElem?_eq_getElem hl]
    refine List.mem_of_getElem? (i := k) ?_
    rw [List.getElem?_take_of_lt hk, List.getElem?_eq_getElem hl]; rfl
  show (if _ then none else _) = none
  rw [if_pos]
  rw [List.any_eq_true]
  exact ⟨_, hm, by rcases hb with hb | hb <;> rw [hb] <;> simp⟩
theorem corG_good {W Dn : Nat} {F : Gf.Fd} {E0 E : List Nat} (h : Gf.rsDec F (E0.length - Dn) E0 = some E) (hg : ∀ k, k < Dn → 1 ≤ E.getD k 0 ∧ E.getD k 0 < 2 ^ W - 1) : corG W F E0 Dn = some (unL W (E.take Dn)) := by
  unfold corG
  rw [h]
  show (if _ then none else _) = _
  rw [if_neg]
  rw [List.any_eq_true]
  rintro ⟨x, hx, hx2⟩
  obtain ⟨k, hk, he⟩ := List.mem_iff_getElem.1 hx
  rw [List.length_take] at hk
  have h1 := hg k (by omega)
  have h2 : E.getD k 0 = x := by
    rw [List.getD, List.getElem?_eq_getElem (by omega : k < E.length), ← he, List.getElem_take]; rfl
  rw [h2] at h1
  simp at hx2
  omega
/-- What the reader's steps lean on: any words E0 of the field, the first Dn of which are data. -/
structure CorAny (W : Nat) (F : Gf.Fd) (E0 : List Nat) (Dn : Nat) : Prop where
  ok : Gf.Ok F
  m12 : F.m ≤ 12
  b1 : F.b = 1
  s : F.s = 2 ^ W
  lt0 : ∀ x ∈ E0, x < F.s
  d1 : 0 < Dn
  d200 : Dn ≤ 1662
  d2 : Dn + 2 ≤ E0.length
  len : E0.length < F.s
  len2 : E0.length ≤ 1664
/-- How correctBits ends. -/
def CorEnd (W : Nat) (F : Gf.Fd) (E0 : List Nat) (Dn : Nat) (w : World) (e : Ending) (w' : World) : Prop :=
  ((∃ l r u, corG W F E0 Dn = some l ∧ e = .returned (.tuple #[.pointer (some ⟨r, 0, none⟩), .nilIface]) ∧ Blk w' r 105 #[u, .int .i64 ((100 * (E0.length - Dn) / E0.length : Nat) : Int)] ∧ RdT w' 4 u (bv l)) ∨
    (corG W F E0 Dn = none ∧ ∃ t u, e = .returned (.tuple #[.pointer none, .iface t u]))) ∧ Below w.heap.size w w'
end Go.Proofs.YtopfdmmimgnciaaGreatDoor
