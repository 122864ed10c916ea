/-
  WALKS: polynomials in memory: how one is made of its coefficients (zeros ahead are left out).
-/
import Derived.Test.YtibdeekgcbmofaaRs3
namespace Go.Proofs.Ytibdeekgcbmofaa
open Go.RowKit

/-! ### Lists without zeros ahead -/
def tidy : List Nat → List Nat
  | [] => []
  | [x] => [x]
  | x :: y :: r => if x = 0 then tidy (y :: r) else x :: y :: r
theorem tidy_zeros : ∀ (xs : List Nat), xs ≠ [] → (∀ x ∈ xs, x = 0) → tidy xs = [0]
  | [], h, _ => absurd rfl h
  | [x], _, h => by rw [show x = 0 from h x (by simp)]; rfl
  | x :: y :: r, _, h => by
    unfold tidy
    rw [if_pos (h x (by simp))]
    exact tidy_zeros (y :: r) (by simp) (fun z hz => h z (by simp only [List.mem_cons] at hz ⊢; exact Or.inr hz))
theorem tidy_drop : ∀ (k : Nat) (xs : List Nat), (∀ j, j < k → xs.getD j 1 = 0) → k < xs.length → xs.getD k 0 ≠ 0 → tidy xs = xs.drop k
  | 0, [], _, hl, _ => absurd hl (by simp)
  | 0, [x], _, _, _ => rfl
  | 0, x :: y :: r, _, _, hx => by unfold tidy; rw [if_neg (by simpa using hx)]; rfl
  | k + 1, [], _, hl, _ => absurd hl (by simp)
  | k + 1, [x], _, hl, _ => absurd hl (by simp)
  | k + 1, x :: y :: r, h0, hl, hx => by
    unfold tidy
    rw [if_pos (by simpa using h0 0 (by omega))]
    rw [tidy_drop k (y :: r) (fun j hj => by simpa using h0 (j + 1) (by omega)) (by simpa using hl) (by simpa using hx)]
    rfl
/-- All ahead of the last one are zeros: the last one is left. -/
theorem tidy_last : ∀ (k : Nat) (xs : List Nat), (∀ j, j < k → xs.getD j 1 = 0) → k + 1 = xs.length → tidy xs = xs.drop k
  | 0, [], _, hl => absurd hl (by simp)
  | 0, [x], _, _ => rfl
  | 0, x :: y :: r, _, hl => absurd hl (by simp)
  | k + 1, [], _, hl => absurd hl (by simp)
  | k + 1, [x], _, hl => absurd hl (by simp)
  | k + 1, x :: y :: r, h0, hl => by
    unfold tidy
    rw [if_pos (by simpa using h0 0 (by omega))]
    rw [tidy_last k (y :: r) (fun j hj => by simpa using h0 (j + 1) (by omega)) (by simpa using hl)]
    rfl
theorem tidy_ne : ∀ xs : List Nat, xs ≠ [] → tidy xs ≠ []
  | [], h => absurd rfl h
  | [x], _ => by simp [tidy]
  | x :: y :: r, _ => by unfold tidy; split; exact tidy_ne (y :: r) (by simp); simp
theorem tidy_mem : ∀ (xs : List Nat) (x : Nat), x ∈ tidy xs → x ∈ xs
  | [], _, h => h
  | [x], _, h => h
  | x :: y :: r, z, h => by
    unfold tidy at h
    split at h
    · exact List.mem_cons_of_mem _ (tidy_mem (y :: r) z h)
    · exact h
theorem tidy_len : ∀ (xs : List Nat), (tidy xs).length ≤ xs.length
  | [] => Nat.le_refl _
  | [x] => Nat.le_refl _
  | x :: y :: r => by
    unfold tidy
    split
    · have := tidy_len (y :: r); simp only [List.length_cons] at this ⊢; omega
    · exact Nat.le_refl _
/-- A tidy list: alone, or its first is not zero. -/
def Tidy (xs : List Nat) : Prop := xs ≠ [] ∧ (xs.length = 1 ∨ xs.getD 0 0 ≠ 0)
theorem tidy_tidy : ∀ xs : List Nat, xs ≠ [] → Tidy (tidy xs)
  | [], h => absurd rfl h
  | [x], _ => ⟨by simp [tidy], .inl rfl⟩
  | x :: y :: r, _ => by
    unfold tidy
    split
    · exact tidy_tidy (y :: r) (by simp)
    · rename_i h; exact ⟨by simp, .inr (by simpa using h)⟩
theorem tidy_of : ∀ xs : List Nat, Tidy xs → tidy xs = xs
  | [], h => absurd rfl h.1
  | [x], _ => rfl
  | x :: y :: r, h => by
    unfold tidy
    rw [if_neg]
    rcases h.2 with h1 | h1
    · simp at h1
    · simpa using h1

theorem getD_lt (xs : List Nat) (k d : Nat) (h : k < xs.length) : xs.getD k d = xs[k] := by simp [List.getD, h]

/-! ### A polynomial in memory -/
/-- Block q is a polynomial of the field in block g, with the coefficients l, the highest first. -/
def PolyAt (w : World) (q g : Nat) (l : List Nat) : Prop :=
  ∃ sl, Blk w q 93 #[.pointer (some ⟨g, 0, none⟩), sl] ∧ RdT w 3 sl (nv l)
theorem PolyAt.up {w w' : World} {q g : Nat} {l : List Nat} (h : PolyAt w q g l) (hb : Below w.heap.size w w') : PolyAt w' q g l := by
  obtain ⟨sl, h1, h2⟩ := h
  exact ⟨sl, h1.up hb, h2.up hb⟩
theorem PolyAt.far {w : World} {q g : Nat} {l : List Nat} (h : PolyAt w q g l) {p : Addr} {t : TypeId} {cs : Array Value} (hp : Blk w p.block t cs) (ht : t ≠ 3) (ht' : t ≠ 93) (u : Value) : PolyAt (w.setCell p u) q g l := by
  obtain ⟨sl, h1, h2⟩ := h
  refine ⟨sl, h1.far (fun he => ?_) u, h2.far hp ht u⟩
  subst he
  unfold Blk at h1 hp
  rw [h1] at hp
  injection hp with hp
  injection hp with _ h6
  exact ht' h6.symm
theorem PolyAt.lt {w : World} {q g : Nat} {l : List Nat} (h : PolyAt w q g l) : q < w.heap.size := by obtain ⟨_, h1, _⟩ := h; exact h1.lt

/-- What is handed back where a polynomial is made: it, and no error. -/
def MadePoly (w : World) (g : Nat) (l : List Nat) (e : Ending) (w' : World) : Prop :=
  ∃ q, e = .returned (.tuple #[.pointer (some ⟨q, 0, none⟩), .nilIface]) ∧ PolyAt w' q g l ∧ Below w.heap.size w w'

set_option maxRecDepth 100000 in
set_option maxHeartbeats 1000000 in
/-- NewGenericGFPoly. -/
theorem newPoly_any (g : Nat) (l : Value) (xs : List Nat) (w : World) (hl : RdT w 3 l (nv xs)) (hne : xs ≠ []) :
    Calls Try.prog 29 #[.pointer (some ⟨g, 0, none⟩), l] w (MadePoly w g (tidy xs)) := by
  have hpos : 0 < xs.length := by rcases xs with _ | ⟨x, r⟩; exact absurd rfl hne; simp
  have hl0 := hl
  obtain ⟨A, ca, rfl, ha1, ha2, ha3⟩ := hl.rd
  simp only [nv_len] at *
  unfold maxLen at ha2
  obtain ⟨ba, oa, rfl, hba, hca⟩ := ha3 hpos
  have e0 : ((xs.length : Int) == 0) = false := by simp; omega
  have c0 := hca 0 _ (nv_at xs 0 hpos)
  simp only [Nat.add_zero] at c0
  have HL := Lib.hid hl0; clear hl0
  have HC := Lib.hid hca; clear hca
  clear hne
  by_cases h1 : 1 < xs.length
  · by_cases hx : xs[0] = 0
    · have e1 : (((xs[0] : Nat) : Int) == 0) = true := by simp [hx]
      have HX := Lib.hid hx; clear hx
      go_enter Try.func29, Try.ntmps29
      go_wp2
      go_loop [8] (fun i => ∃ k : Nat, 1 ≤ k ∧ k ≤ xs.length ∧ i = .int .i64 k ∧ Hid (∀ j, j < k → xs.getD j 1 = 0)) (fun i => xs.length - (intOf i).toNat)
      case atStart => exact ⟨1, Nat.le_refl _, by omega, rfl, fun j hj => by rw [show j = 0 from by omega, getD_lt _ _ _ hpos]; exact HX.out⟩
      case round =>
        obtain ⟨k, hk1, hk, rfl, HZ⟩ := hrel
        by_cases hlt : k < xs.length
        · have hck := HC.out k _ (nv_at xs k hlt)
          have ck : (w.alloc (.cells #[.pointer (some ⟨g, 0, none⟩), .slice none 0 0] 93)).cell? ⟨ba, oa + k, none⟩ = some (.int .i64 ((xs[k] : Nat) : Int)) := cell_up hck ((Below.refl _ _).alloc (Nat.le_refl _) _)
          clear hck
          by_cases hxk : xs[k] = 0
          · have e2 : (((xs[k] : Nat) : Int) == 0) = true := by simp [hxk]
            have HXK := Lib.hid hxk; clear hxk
            go_wp2
            go_round
            case rel => exact ⟨k + 1, by omega, by omega, by go_num, fun j hj => by
              by_cases hjk : j < k
              · exact HZ.out j hjk
              · rw [show j = k from by omega, getD_lt _ _ _ hlt]; exact HXK.out⟩
            case measure => simp [intOf]; omega
          · have e2 : (((xs[k] : Nat) : Int) == 0) = false := by simp [hxk]
            have HXK := Lib.hid hxk; clear hxk
            have e3 : ((k : Int) == (xs.length : Int)) = false := by simp; omega
            go_wp2
            go_ret2
            have ht : tidy xs = xs.drop k := tidy_drop k xs HZ.out hlt (by rw [getD_lt _ _ _ hlt]; exact HXK.out)
            rw [ht]
            refine ⟨_, rfl, ⟨_, Blk.fresh _ _ _, ?_⟩, by go_grown⟩
            have hn : nv (xs.drop k) = (nv xs).drop k := by simp [nv]
            rw [hn]
            exact (HL.out.up ((Below.refl _ _).alloc (Nat.le_refl _) _)).drop hlt
        · obtain rfl : k = xs.length := by omega
          go_wp2
          go_ret2
          have ht : tidy xs = [0] := tidy_zeros xs (by rintro rfl; simp at hpos) (fun x hx => by
            obtain ⟨j, hj, rfl⟩ := List.getElem_of_mem hx
            rw [← getD_lt _ _ 1 hj]; exact HZ.out j hj)
          rw [ht]
          refine ⟨_, rfl, ⟨_, (Blk.fresh _ _ _).alloc _, ?_⟩, by go_grown⟩
          exact RdT.of_blk (cap := 1) (xs := nv [0]) (by simpa [nv] using Blk.fresh (w.alloc (.cells #[.pointer (some ⟨g, 0, none⟩), .slice (some ⟨w.heap.size + 1, 0, none⟩) 1 1] 93)) 3 #[.int .i64 0]) rfl (by simp [nv]) (by decide)
    · have e1 : (((xs[0] : Nat) : Int) == 0) = false := by simp [hx]
      have HX := Lib.hid hx; clear hx
      go_enter Try.func29, Try.ntmps29
      go_wp2
      go_ret2
      have ht : tidy xs = xs := tidy_of xs ⟨by rintro rfl; simp at hpos, .inr (by rw [getD_lt _ _ _ hpos]; exact HX.out)⟩
      rw [ht]
      exact ⟨_, rfl, ⟨_, Blk.fresh _ _ _, HL.out.up ((Below.refl _ _).alloc (Nat.le_refl _) _)⟩, by go_grown⟩
  · go_enter Try.func29, Try.ntmps29
    go_wp2
    go_ret2
    have ht : tidy xs = xs := tidy_of xs ⟨by rintro rfl; simp at hpos, .inl (by omega)⟩
    rw [ht]
    exact ⟨_, rfl, ⟨_, Blk.fresh _ _ _, HL.out.up ((Below.refl _ _).alloc (Nat.le_refl _) _)⟩, by go_grown⟩
end Go.Proofs.Ytibdeekgcbmofaa
