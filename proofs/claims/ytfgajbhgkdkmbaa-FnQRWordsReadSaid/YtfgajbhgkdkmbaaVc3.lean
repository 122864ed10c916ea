/-
  WALKS: Version_decodeVersionInformation, its table; PLAIN: what it tells.
-/
import Derived.Test.YtfgajbhgkdkmbaaOc2
import Derived.Test.YtfgajbhgkdkmbaaQf3
import Derived.Test.YtfgajbhgkdkmbaaQp4
import Derived.Test.YtfgajbhgkdkmbaaVv
namespace Go.Proofs.Ytfgajbhgkdkmbaa
open Go.RowKit

def verL : List Nat := [31892, 34236, 39577, 42195, 48118, 51042, 55367, 58893, 63784, 68472, 70749, 76311, 79154, 84390, 87683, 92361, 96236, 102084, 102881, 110507, 110734, 117786, 119615, 126325, 127568, 133589, 136944, 141498, 145311, 150283, 152622, 158308, 161089, 167017]
theorem verL_at : ∀ k, k < 34 → verL.getD k 0 = verBits (k + 7) := by decide +kernel
theorem ones18_any (x : Nat) (w : World) (hx : x < 262144) : Calls Try.prog 134 #[.int .u64 x] w fun e w' => e = .returned (.int .i64 (pc x : Nat)) ∧ w' = w := by
  have h := oc18 x hx
  go_enter Try.func134, Try.ntmps134
  go_wp2_with fail
  refine (ones64_any x w (by omega)).mono ?_
  rintro e w ⟨rfl, rfl⟩
  rw [h]
  go_wp2
  go_ret
  exact ⟨rfl, rfl⟩
theorem differing18_any (a b : Nat) (w : World) (ha : a < 262144) (hb : b < 262144) : Calls Try.prog 115 #[.int .u64 a, .int .u64 b] w fun e w' => e = .returned (.int .i64 (pc (a ^^^ b) : Nat)) ∧ w' = w := by
  have hx := u64_xor a b (by omega) (by omega)
  have hl : a ^^^ b < 262144 := Nat.xor_lt_two_pow (n := 18) ha hb
  generalize a ^^^ b = y at *
  go_enter Try.func115, Try.ntmps115
  go_wp2_with fail
  refine (ones18_any y w hl).mono ?_
  rintro e w ⟨rfl, rfl⟩
  go_wp2
  go_ret
  exact ⟨rfl, rfl⟩
theorem verInfo_any (w : World) : Calls Try.prog 114 #[] w fun e w' => ∃ g, e = .returned (.slice (some ⟨g, 0, none⟩) 34 34) ∧ Blk w' g 3 (nvl verL).toArray ∧ Below w.heap.size w w' := by
  have h1 := Blk.fresh w 3 (nvl verL).toArray
  have h2 := bal (brf w) (.cells (nvl verL).toArray 3)
  have H := Lib.hid (And.intro h1 h2); clear h1 h2
  go_enter Try.func114, Try.ntmps114
  go_wp2
  go_ret
  exact ⟨w.heap.size, rfl, H.out.1, H.out.2⟩

/-- In how many bits x differs from version k's bits. -/
def dV (x k : Nat) : Nat := pc (x ^^^ verBits k)
def dvK (x : Nat) : Nat → Nat × Nat
  | 0 => (2147483647, 0)
  | k + 1 => if dV x (k + 7) < (dvK x k).1 then (dV x (k + 7), k + 7) else dvK x k
/-- What 18 bits tell. -/
def DecV (x : Nat) (r : Option Nat) : Prop := (∃ k, k < 34 ∧ verBits (k + 7) = x ∧ r = some (k + 7)) ∨ ((∀ j, j < 34 → verBits (j + 7) ≠ x) ∧ r = if (dvK x 34).1 ≤ 3 then some (dvK x 34).2 else none)
def DecVE (w : World) (r : Option Nat) (e : Ending) (w' : World) : Prop :=
  Below w.heap.size w w' ∧ ((r = none ∧ ∃ b, e = .returned (.tuple #[.pointer none, errV b])) ∨ ∃ k p, r = some k ∧ 7 ≤ k ∧ k ≤ 40 ∧ e = .returned (.tuple #[.pointer (some ⟨p, 0, none⟩), .nilIface]) ∧ VerAt w' p k)
def DecVP (w : World) (x : Nat) (e : Ending) (w' : World) : Prop := ∃ r, DecV x r ∧ DecVE w r e w'
theorem dvK_spec (x : Nat) : ∀ k, k ≤ 34 → (∀ j, j < k → (dvK x k).1 ≤ dV x (j + 7)) ∧ (((dvK x k).1 = 2147483647 ∧ (dvK x k).2 = 0 ∧ k = 0) ∨ (7 ≤ (dvK x k).2 ∧ (dvK x k).2 ≤ 40 ∧ (dvK x k).1 = dV x (dvK x k).2))
  | 0, _ => ⟨fun j hj => absurd hj (Nat.not_lt_zero _), .inl ⟨rfl, rfl, rfl⟩⟩
  | k + 1, hk => by
    obtain ⟨h1, h2⟩ := dvK_spec x k (by omega)
    have h3 : dV x (k + 7) ≤ 18 := pc_le _
    unfold dvK
    split
    · rename_i h
      refine ⟨fun j hj => ?_, .inr ⟨by show 7 ≤ k + 7; omega, by show k + 7 ≤ 40; omega, rfl⟩⟩
      rcases Nat.lt_or_ge j k with h4 | h4
      · have := h1 j h4; show dV x (k + 7) ≤ _; omega
      · obtain rfl : j = k := by omega
        exact Nat.le_refl _
    · rename_i h
      refine ⟨fun j hj => ?_, ?_⟩
      · rcases Nat.lt_or_ge j k with h4 | h4
        · exact h1 j h4
        · obtain rfl : j = k := by omega
          omega
      · rcases h2 with ⟨h4, h5, h6⟩ | h4
        · omega
        · exact .inr h4
theorem dvK_zero (x : Nat) : dvK x 0 = (2147483647, 0) := rfl
theorem dvK_succ (x k : Nat) : dvK x (k + 1) = if dV x (k + 7) < (dvK x k).1 then (dV x (k + 7), k + 7) else dvK x k := rfl
attribute [local irreducible] dvK
def farVB : Bool := (List.range 34).all fun i => (List.range 34).all fun j => Nat.beq i j || Nat.ble 7 (pc (verBits (i + 7) ^^^ verBits (j + 7)))
set_option maxRecDepth 100000 in
theorem farV_all : farVB = true := by decide +kernel
theorem farV {i j : Nat} (hi : 7 ≤ i ∧ i ≤ 40) (hj : 7 ≤ j ∧ j ≤ 40) (h : i ≠ j) : 7 ≤ pc (verBits i ^^^ verBits j) := by
  have h1 := List.all_eq_true.1 farV_all (i - 7) (List.mem_range.2 (by omega))
  have h2 := List.all_eq_true.1 h1 (j - 7) (List.mem_range.2 (by omega))
  rw [show i - 7 + 7 = i by omega, show j - 7 + 7 = j by omega, Bool.or_eq_true] at h2
  rcases h2 with h2 | h2
  · have := Nat.eq_of_beq_eq_true h2; omega
  · exact Nat.le_of_ble_eq_true h2
theorem decV_near {x v : Nat} {r : Option Nat} (hv : 7 ≤ v ∧ v ≤ 40) (h : DecV x r) (hd : dV x v ≤ 3) : r = some v := by
  rcases h with ⟨k, hk, h1, rfl⟩ | ⟨h1, rfl⟩
  · refine congrArg some ?_
    apply Classical.byContradiction
    intro hne
    have h2 := farV (i := k + 7) (j := v) ⟨Nat.le_add_left 7 k, Nat.add_le_add_right (Nat.le_of_lt_succ hk) 7⟩ hv hne
    unfold dV at hd
    rw [h1] at h2
    omega
  · obtain ⟨h2, h3⟩ := dvK_spec x 34 (Nat.le_refl _)
    have h4 := h2 (v - 7) (by omega)
    rw [show v - 7 + 7 = v by omega] at h4
    rw [if_pos (by omega)]
    refine congrArg some ?_
    rcases h3 with ⟨h5, _⟩ | ⟨h5, h6, h7⟩
    · omega
    · apply Classical.byContradiction
      intro hne
      have h8 := farV ⟨h5, h6⟩ hv hne
      have h9 := pc_tri x (verBits (dvK x 34).2) (verBits v)
      unfold dV at h7 hd h4
      omega
theorem decV_far {x k : Nat} (h : DecV x (some k)) : 7 ≤ k ∧ k ≤ 40 ∧ dV x k ≤ 3 := by
  rcases h with ⟨j, hj, h1, h2⟩ | ⟨h1, h2⟩
  · injection h2 with h2
    subst h2
    refine ⟨by omega, by omega, ?_⟩
    unfold dV; rw [h1, Nat.xor_self, pc_zero]; omega
  · split at h2
    · rename_i h3
      injection h2 with h2
      obtain ⟨h4, h5⟩ := dvK_spec x 34 (Nat.le_refl _)
      rcases h5 with ⟨h6, _⟩ | ⟨h5, h6, h7⟩
      · omega
      · rw [← h2] at h5 h6 h7
        exact ⟨h5, h6, by omega⟩
    · cases h2
theorem ver_small (k : Nat) (h : k < 34) : verBits (k + 7) < 262144 := verBits_lt _ (by omega)
set_option maxRecDepth 100000 in
set_option maxHeartbeats 2000000 in
theorem decodeV_any (x : Nat) (w : World) (hx : x < 262144) :
    Calls Try.prog 70 #[.int .i64 x] w (DecVP w x) := by
  go_enter Try.func70, Try.ntmps70
  go_wp2_with fail
  refine (verInfo_any w).mono ?_
  rintro e w1 ⟨g, rfl, hl, hb⟩
  have HL := Lib.hid hl; have HB1 := Lib.hid hb; clear hl hb
  go_wp2_with fail
  go_loopw [4, 5, 11] (fun bv iv kv wr => ∃ (k b i : Nat), k ≤ 34 ∧ b ≤ 2147483647 ∧ i ≤ 40 ∧ kv = .int .i64 k ∧ bv = .int .i64 b ∧ iv = .int .i64 i ∧ Hid (∀ j, j < k → verBits (j + 7) ≠ x) ∧ Hid ((b, i) = dvK x k) ∧ Hid (Below w1.heap.size w1 wr)) (fun _ _ kv _ => 34 - (intOf kv).toNat)
  case atStart => exact ⟨0, 2147483647, 0, by omega, by omega, by omega, rfl, rfl, rfl, Lib.hid (fun j hj => absurd hj (Nat.not_lt_zero _)), Lib.hid (dvK_zero x).symm, Lib.hid (brf w1)⟩
  case round =>
    obtain ⟨k, b, i, hk, hb, hi, rfl, rfl, rfl, HN, HD, HB⟩ := hrel
    by_cases hlt : k < 34
    · have c0 : wr.cell? ⟨g, k, none⟩ = some (.int .i64 ((verBits (k + 7) : Nat) : Int)) := by
        rw [(HL.out.up HB.out).cell, List.getElem?_toArray, nvl_at verL k (by show k < 34; omega), ← verL_at k hlt, List.getD, List.getElem?_eq_getElem (by show k < 34; omega)]; rfl
      have hft := ver_small k hlt
      by_cases hex : verBits (k + 7) = x
      · have HEx := Lib.hid hex
        have hb1 : (((verBits (k + 7) : Nat) : Int) == (x : Int)) = true := by rw [beq_iff_eq]; omega
        clear hex
        have HX0 : Hid (∀ r, r = some (k + 7) → DecV x r) := Lib.hid (fun r hr => .inl ⟨k, hlt, HEx.out, hr⟩)
        generalize verBits (k + 7) = t at *
        have hv7 : (k : Int) + 7 = ((k + 7 : Nat) : Int) := by omega
        have hgv := getVersion_yes (k + 7) wr (by omega) (by omega)
        obtain ⟨K, hK⟩ : ∃ K, K = k + 7 := ⟨_, rfl⟩
        rw [← hK] at hv7 hgv
        have HK := Lib.hid hK; have hK40 : 7 ≤ K ∧ K ≤ 40 := by omega
        clear hK
        go_wp2_with fail
        refine hgv.mono ?_
        rintro e w2 ⟨p, rfl, hp, hb2⟩
        have HP := Lib.hid (And.intro hp (bup HB1.out (bup HB.out hb2))); clear hp hb2
        go_wp2
        go_ret2
        exact ⟨some K, HX0.out _ (by rw [HK.out]), HP.out.2, .inr ⟨K, p, rfl, hK40.1, hK40.2, rfl, HP.out.1⟩⟩
      · have hb1 : (((verBits (k + 7) : Nat) : Int) == (x : Int)) = false := by rw [beq_eq_false_iff_ne]; omega
        have HN2 : Hid (∀ j, j < k + 1 → verBits (j + 7) ≠ x) := Lib.hid (fun j hj => by
          rcases Nat.lt_or_ge j k with h1 | h1
          · exact HN.out j h1
          · rw [show j = k by omega]; exact hex)
        have h1 : ∀ w', Calls Try.prog 115 #[.int .u64 x, .int .u64 ((verBits (k + 7) : Nat) : Int)] w' fun e w'' => e = .returned (.int .i64 (dV x (k + 7) : Nat)) ∧ w'' = w' := fun w' => differing18_any x (verBits (k + 7)) w' hx hft
        have H1 := Lib.hid h1
        clear hex HN h1
        have hds : dvK x (k + 1) = if dV x (k + 7) < b then (dV x (k + 7), k + 7) else (b, i) := by
          have := HD.out
          rw [dvK_succ, ← this]
        have hd1l : dV x (k + 7) ≤ 18 := pc_le _
        generalize verBits (k + 7) = t at *
        generalize dV x (k + 7) = d1 at *
        obtain ⟨K, hK⟩ : ∃ K, K = k + 7 := ⟨_, rfl⟩
        have hv7 : (k : Int) + 7 = (K : Int) := by omega
        have hK40 : K ≤ 40 := by omega
        rw [← hK] at hds
        clear hK
        by_cases hd1 : d1 < b
        · rw [if_pos hd1] at hds
          have HD2 : Hid ((d1, K) = dvK x (k + 1)) := Lib.hid hds.symm
          clear hds HD
          go_wp2_with fail
          refine (H1.out _).mono ?_
          rintro e wr ⟨rfl, rfl⟩
          go_wp2
          go_roundw
          case rel => exact ⟨k + 1, d1, K, by omega, by omega, by omega, by go_num, by go_num, by go_num, HN2, HD2, HB⟩
          case measure => simp [intOf]; omega
        · rw [if_neg hd1] at hds
          have HD2 : Hid ((b, i) = dvK x (k + 1)) := Lib.hid hds.symm
          clear hds HD
          go_wp2_with fail
          refine (H1.out _).mono ?_
          rintro e wr ⟨rfl, rfl⟩
          go_wp2
          go_roundw
          case rel => exact ⟨k + 1, b, i, by omega, by omega, by omega, by go_num, by go_num, by go_num, HN2, HD2, HB⟩
          case measure => simp [intOf]; omega
    · obtain rfl : k = 34 := by omega
      have hsp := dvK_spec x 34 (Nat.le_refl _)
      rw [← HD.out] at hsp
      by_cases hb3 : b ≤ 3
      · have hi7 : 7 ≤ i := by
          rcases hsp.2 with ⟨_, _, h9⟩ | ⟨h9, _⟩
          · omega
          · exact h9
        clear hsp
        have hgv := getVersion_yes i wr (by omega) (by omega)
        go_wp2_with fail
        refine hgv.mono ?_
        rintro e w2 ⟨p, rfl, hp, hb2⟩
        have HP := Lib.hid (And.intro hp (bup HB1.out (bup HB.out hb2))); clear hp hb2
        go_wp2
        go_ret2
        exact ⟨some i, .inr ⟨HN.out, by rw [← HD.out, if_pos hb3]⟩, HP.out.2, .inr ⟨i, p, rfl, hi7, hi, rfl, HP.out.1⟩⟩
      · clear hsp
        go_wp2_with fail
        refine (errNew_any _ _).mono ?_
        rintro e w2 ⟨b', rfl, hb2⟩
        have HP := Lib.hid (bup HB1.out (bup HB.out hb2)); clear hb2
        go_wp2
        go_ret2
        exact ⟨none, .inr ⟨HN.out, by rw [← HD.out, if_neg hb3]⟩, HP.out, .inl ⟨rfl, _, rfl⟩⟩
end Go.Proofs.Ytfgajbhgkdkmbaa
