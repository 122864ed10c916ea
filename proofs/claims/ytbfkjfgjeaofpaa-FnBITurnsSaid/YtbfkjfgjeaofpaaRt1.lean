/-
  WALKS: BitMatrix.Rotate90.
-/
import Derived.Test.YtbfkjfgjeaofpaaRo4
namespace Go.Proofs.Ytbfkjfgjeaofpaa
open Go.RowKit

theorem grown_set {w w' : World} {g : Nat} (h : w.grownBy w' (some g)) (i : Nat) (u : Value) : w.grownBy (w'.setCell ⟨g, i, none⟩ u) (some g) :=
  ⟨h.os, h.tape, h.output, by have := h.size; simpa [World.setCell] using this, fun k hk hne => (Below.heap_setCell w' ⟨g, i, none⟩ u k (fun he => hne (by rw [he]))).trans (h.block k hk hne)⟩
theorem grown_of {w w' : World} (h : Below w.heap.size w w') (row : Option Nat) : w.grownBy w' row := ⟨h.os, h.tape, h.output, h.size, fun k hk _ => h.block k hk⟩
theorem grown_drew {w w' : World} {row : Option Nat} (h : w.grownBy w' row) : w.grownBy w'.drew row := ⟨h.os, h.tape, h.output, h.size, h.block⟩
theorem below_of_grown {w w' : World} {g B : Nat} (h : w.grownBy w' (some g)) (hB : B ≤ g) (hs : B ≤ w.heap.size) : Below B w w' :=
  ⟨h.os, h.tape, h.output, h.size, fun k hk => h.block k (by omega) (by simp; omega)⟩
theorem own_apart {w : World} {base n : Nat} {e t : TypeId} {v : Value} {xs : List Value} {g : Nat} {cs : Array Value} (h : w.ownsRow base e 1 v n xs) (hg : Blk w g t cs) (ht : t ≠ e) : some g ≠ v.ownBlock := by
  rcases h.2 with ⟨rfl, _⟩ | ⟨b, cap, cur, rfl, _, hb, _⟩
  · simp [Value.ownBlock]
  · intro he
    simp only [Value.ownBlock, Option.some.injEq] at he
    subst he
    unfold Blk at hg
    rw [hb] at hg
    injection hg with hg
    injection hg with _ h2 _
    exact ht h2.symm
theorem own_kept {w w' : World} {base n : Nat} {e : TypeId} {v : Value} {xs : List Value} {g : Nat} (h : w.ownsRow base e 1 v n xs) (hg : w.grownBy w' (some g)) (ha : some g ≠ v.ownBlock) : w'.ownsRow base e 1 v n xs := by
  refine ⟨h.1, ?_⟩
  rcases h.2 with h2 | ⟨b, cap, cur, hv, h3, hb, h4⟩
  · exact .inl h2
  · refine .inr ⟨b, cap, cur, hv, h3, ?_, h4⟩
    rw [← hb]
    refine hg.block b (heap_lt hb) (fun he => ha ?_)
    rw [hv]; simpa [Value.ownBlock] using he.symm
/-- Words in block g: n of them, with bits f in rows of rs words. -/
def WordsF (w : World) (g n rs W H : Nat) (f : Nat → Nat → Bool) : Prop := ∃ ws : List Nat, Blk w g 28 (wv ws).toArray ∧ (∀ x ∈ ws, x < 4294967296) ∧ ws.length = n ∧ ∀ x y, x < W → y < H → bitM ws rs x y = f x y
theorem WordsF.congr {w : World} {g n rs W H : Nat} {f f' : Nat → Nat → Bool} (h : WordsF w g n rs W H f) (hf : ∀ x y, x < W → y < H → f x y = f' x y) : WordsF w g n rs W H f' := by
  obtain ⟨ws, h1, h2, h3, h4⟩ := h
  exact ⟨ws, h1, h2, h3, fun x y hx hy => by rw [h4 x y hx hy, hf x y hx hy]⟩
theorem WordsF.at_ {w : World} {g n rs W H x y : Nat} {f : Nat → Nat → Bool} (h : WordsF w g n rs W H f) (hn : n = rs * H) (hr : W ≤ 32 * rs) (hx : x < W) (hy : y < H) :
    ∃ v : Nat, v < 4294967296 ∧ w.cell? ⟨g, y * rs + x / 32, none⟩ = some (.int .u32 (v : Int)) ∧ w.frozen? ⟨g, y * rs + x / 32, none⟩ = false ∧ v.testBit (x % 32) = f x y ∧
      WordsF (w.setCell ⟨g, y * rs + x / 32, none⟩ (.int .u32 ((v ||| 2 ^ (x % 32) : Nat) : Int))) g n rs W H (fun a b => f a b || (decide (a = x) && decide (b = y))) := by
  obtain ⟨ws, h1, h2, h3, h4⟩ := h
  have hxr : x / 32 < rs := by omega
  have hpl := place_lt hxr hy
  have hpl' : y * rs + x / 32 < ws.length := by rw [h3, hn]; exact hpl
  have hg0 : ws.getD (y * rs + x / 32) 0 = ws[y * rs + x / 32] := by rw [List.getD, List.getElem?_eq_getElem hpl']; rfl
  refine ⟨ws[y * rs + x / 32], h2 _ (List.getElem_mem hpl'), by rw [h1.cell, wv_at _ _ hpl'], h1.frozen _, ?_, setM ws rs x y, ?_, setM_lt h2, by rw [setM_len]; exact h3, fun a b ha hb => ?_⟩
  · rw [← h4 x y hx hy, bitM, hg0]
  · unfold setM; rw [← wv_set, hg0]; exact h1.put _ _
  · rw [setM_bit ws rs x y a b H (by rw [h3, hn]) hxr hy (by omega), h4 a b ha hb]
theorem WordsF.below {w w' : World} {g n rs W H B : Nat} {f : Nat → Nat → Bool} (h : WordsF w g n rs W H f) (hb : Below B w w') (hg : g < B) : WordsF w' g n rs W H f := by
  obtain ⟨ws, h1, h2⟩ := h; exact ⟨ws, h1.below hb hg, h2⟩
theorem WordsF.drew {w : World} {g n rs W H : Nat} {f : Nat → Nat → Bool} (h : WordsF w g n rs W H f) : WordsF w.drew g n rs W H f := by
  obtain ⟨ws, h1, h2⟩ := h; exact ⟨ws, h1.drew, h2⟩
theorem WordsF.far {w : World} {g n rs W H : Nat} {f : Nat → Nat → Bool} (h : WordsF w g n rs W H f) {q : Addr} (hq : g ≠ q.block) (u : Value) : WordsF (w.setCell q u) g n rs W H f := by
  obtain ⟨ws, h1, h2⟩ := h; exact ⟨ws, h1.far hq u, h2⟩
theorem WordsF.blk {w : World} {g n rs W H : Nat} {f : Nat → Nat → Bool} (h : WordsF w g n rs W H f) : g < w.heap.size := by obtain ⟨ws, h1, _⟩ := h; exact h1.lt
theorem MatAt.words {w : World} {p g W H : Nat} {f : Nat → Nat → Bool} (h : MatAt w p g W H f) : WordsF w g ((W + 31) / 32 * H) ((W + 31) / 32) W H f := by
  obtain ⟨ws, h1, h2⟩ := h; exact ⟨ws, h1.rows, h1.lt, h1.len, h2⟩
theorem MatAt.heads {w : World} {p g W H : Nat} {f : Nat → Nat → Bool} (h : MatAt w p g W H f) :
    Blk w p 89 #[.int .i64 W, .int .i64 H, .int .i64 ((W + 31) / 32 : Nat), .slice (some ⟨g, 0, none⟩) ((W + 31) / 32 * H) ((W + 31) / 32 * H)] ∧ p ≠ g := by
  obtain ⟨ws, h1, h2⟩ := h; rw [← h1.len]; exact ⟨h1.head, h1.apart⟩
theorem MatAt.of_words {w : World} {p g W H : Nat} {f : Nat → Nat → Bool} (h : WordsF w g ((W + 31) / 32 * H) ((W + 31) / 32) W H f)
    (hp : Blk w p 89 #[.int .i64 W, .int .i64 H, .int .i64 ((W + 31) / 32 : Nat), .slice (some ⟨g, 0, none⟩) ((W + 31) / 32 * H) ((W + 31) / 32 * H)]) (hpg : p ≠ g) : MatAt w p g W H f := by
  obtain ⟨ws, h1, h2, h3, h4⟩ := h
  exact ⟨ws, ⟨by rw [h3]; exact hp, h1, h2, h3, hpg⟩, h4⟩
theorem WordsF.fresh (w : World) (rs W H : Nat) : WordsF (w.alloc (.cells (wv (List.replicate (rs * H) 0)).toArray 28)) w.heap.size (rs * H) rs W H (fun _ _ => false) :=
  ⟨_, Blk.fresh w _ _, fun x hx => by rw [List.eq_of_mem_replicate hx]; decide, List.length_replicate, fun x y _ _ => bitM_rep _ _ _ _⟩

set_option maxRecDepth 100000 in
set_option maxHeartbeats 2000000 in
theorem rot90_any (p g W H : Nat) (f : Nat → Nat → Bool) (w : World) (hm : MatAt w p g W H f) (hW1 : 1 ≤ W) (hH1 : 1 ≤ H) (hW : W ≤ 4096) (hH : H ≤ 4096) :
    Calls Try.prog 51 #[.pointer (some ⟨p, 0, none⟩)] w fun e w' => ∃ g', e = .returned (.tuple #[]) ∧ MatAt w' p g' H W (fun a c => f (W - 1 - c) a) ∧ w.grownBy w' (some p) ∧ w.heap.size ≤ g' := by
  have hpl := hm.blt.1
  obtain ⟨hd, hpg⟩ := hm.heads
  have hwd := hm.words
  have hrs : (H + 31) / 32 ≤ 129 := by omega
  have hdiv : ((H : Int) + 31) / 32 = (((H + 31) / 32 : Nat) : Int) := by omega
  have hmul : (((H + 31) / 32 : Nat) : Int) * (W : Int) = (((H + 31) / 32 * W : Nat) : Int) := by simp
  have hn : (H + 31) / 32 * W ≤ 129 * 4096 := Nat.mul_le_mul hrs hW
  have hn2 : (W + 31) / 32 * H ≤ 129 * 4096 := Nat.mul_le_mul (by omega) hH
  have hmk := run_mk (P := Try.prog) 26 28 (.int .u32 0) 4 Try.underlying26 (by kernel_rfl) rfl ((H + 31) / 32 * W) (by omega) (by omega) w
  rw [← wv_rep] at hmk
  have HF0 := Lib.hid (WordsF.fresh w ((H + 31) / 32) H W)
  have HB0 := Lib.hid (bal (brf w) (.cells (wv (List.replicate ((H + 31) / 32 * W) 0)).toArray 28))
  have c : ∀ wr, Below w.heap.size w wr → wr.cell? ⟨p, 0, none⟩ = some (.int .i64 W) ∧ wr.cell? ⟨p, 1, none⟩ = some (.int .i64 H) ∧ wr.cell? ⟨p, 2, none⟩ = some (.int .i64 ((W + 31) / 32 : Nat)) ∧ wr.cell? ⟨p, 3, none⟩ = some (.slice (some ⟨g, 0, none⟩) ((W + 31) / 32 * H) ((W + 31) / 32 * H)) := fun wr hb => by
    have h := hd.up hb
    exact ⟨by rw [h.cell]; rfl, by rw [h.cell]; rfl, by rw [h.cell]; rfl, by rw [h.cell]; rfl⟩
  obtain ⟨c0, c1, _, _⟩ := c w (brf w)
  have HC := Lib.hid c; have HD := Lib.hid hd; have HWd := Lib.hid hwd; have HPG := Lib.hid hpg
  clear c hd hwd hm hpg
  obtain ⟨wz, hwz⟩ : ∃ x, x = w.alloc (.cells (wv (List.replicate ((H + 31) / 32 * W) 0)).toArray 28) := ⟨_, rfl⟩
  rw [← hwz] at HF0 HB0 hmk
  clear hwz
  generalize hrsN : (H + 31) / 32 = rsN at *
  generalize hmN : rsN * W = m at *
  generalize hrs' : (W + 31) / 32 = rs at *
  generalize hm2 : rs * H = m2 at *
  have HRS := Lib.hid (And.intro hrsN.symm hmN.symm)
  have hrsH : H ≤ 32 * rsN := by omega
  have HR2 := Lib.hid (And.intro hrs'.symm hm2.symm)
  have hrsW : W ≤ 32 * rs := by omega
  clear hrsN hmN hrs' hm2
  go_enter Try.func51, Try.ntmps51
  go_wp2_with fail
  have HDiv := Lib.hid hdiv
  clear hmk hdiv hmul c0 c1
  go_loopw [6] (fun yv wr => ∃ (y : Nat), y ≤ H ∧ yv = .int .i64 y ∧ Hid (WordsF wr w.heap.size m rsN H W (fun a c => decide (a < y) && f (W - 1 - c) a)) ∧ Hid (Below w.heap.size w wr)) (fun yv _ => H - (intOf yv).toNat)
  case atStart => exact ⟨0, Nat.zero_le _, rfl, Lib.hid (HF0.out.congr (fun a c _ _ => by simp)), HB0⟩
  case round =>
    clear HF0 HB0
    obtain ⟨y, hy, rfl, HF, HB⟩ := hrel
    obtain ⟨_, c1, _, _⟩ := HC.out wr HB.out
    by_cases hlt : y < H
    · go_wp2_with fail
      clear c1
      go_loopw [7] (fun xv wi => ∃ (x : Nat), x ≤ W ∧ xv = .int .i64 x ∧ Hid (WordsF wi w.heap.size m rsN H W (fun a c => (decide (a < y) || (decide (a = y) && decide (W - 1 - c < x))) && f (W - 1 - c) a)) ∧ Hid (Below w.heap.size w wi)) (fun xv _ => W - (intOf xv).toNat)
      case atStart => exact ⟨0, Nat.zero_le _, rfl, Lib.hid (HF.out.congr (fun a c _ _ => by simp)), HB⟩
      case round =>
        rename World => wi
        clear HF HB
        obtain ⟨x, hx, rfl, HF, HB⟩ := hrel
        obtain ⟨c0, _, c2, c3⟩ := HC.out wi HB.out
        by_cases hxl : x < W
        · obtain ⟨v, hv, cv, _, hvb, _⟩ := (HWd.out.below HB.out HWd.out.blk).at_ HR2.out.2 hrsW hxl hlt
          obtain ⟨u, hu, cu, fu, hub, hus⟩ := HF.out.drew.at_ HRS.out.2 hrsH hlt (y := W - 1 - x) (by omega)
          have hxy : W - 1 - (W - 1 - x) = x := by omega
          rw [hxy] at hub
          have e1 : (y : Int) * (rs : Int) = ((y * rs : Nat) : Int) := by simp
          have e2 : ((W : Int) - 1 - (x : Int)) * (((H : Int) + 31) / 32) = (((W - 1 - x) * rsN : Nat) : Int) := by
            have : (W : Int) - 1 - (x : Int) = ((W - 1 - x : Nat) : Int) := by omega
            rw [this, HDiv.out]; simp
          have hp1 := place_lt (rs := rs) (x := x) (y := y) (H := H) (by omega) hlt
          rw [← HR2.out.2] at hp1
          have hp2 := place_lt (rs := rsN) (x := y) (y := W - 1 - x) (H := W) (by omega) (by omega)
          rw [← HRS.out.2] at hp2
          have hxa : bits .and .i64 (x : Int) 31 = ((x % 32 : Nat) : Int) := by
            have h := i64_and x 31 (by omega) (by decide)
            rw [show x &&& 31 = x % 32 from Nat.and_two_pow_sub_one_eq_mod x 5] at h
            exact h
          have hya : bits .and .i64 (y : Int) 31 = ((y % 32 : Nat) : Int) := by
            have h := i64_and y 31 (by omega) (by decide)
            rw [show y &&& 31 = y % 32 from Nat.and_two_pow_sub_one_eq_mod y 5] at h
            exact h
          have e4 := shr_bit v (x % 32)
          rw [show ((v / 2 ^ (x % 32) % 2 : Nat) : Int) = (v : Int) / 2 ^ (x % 32) % 2 by simp] at e4
          have e3 : bits .and .u32 ((v : Int) / (2 : Int) ^ (x % 32)) 1 = ((v / 2 ^ (x % 32) % 2 : Nat) : Int) := by
            have h1 : v / 2 ^ (x % 32) ≤ v := Nat.div_le_self _ _
            have h2 := u32_and (v / 2 ^ (x % 32)) 1 (by omega) (by decide)
            rw [Nat.and_one_is_mod] at h2
            rw [← h2]; congr 1
          rw [hvb] at e4
          have hnext : ∀ a c, a < H → c < W → ((decide (a < y) || (decide (a = y) && decide (W - 1 - c < x + 1))) && f (W - 1 - c) a) = ((decide (a < y) || (decide (a = y) && decide (W - 1 - c < x))) && f (W - 1 - c) a || (decide (a = y) && decide (c = W - 1 - x)) && f x y) := fun a c ha hc => by
            by_cases hac : a = y ∧ c = W - 1 - x
            · obtain ⟨rfl, rfl⟩ := hac; rw [hxy]; simp
            · have e5 : (decide (a = y) && decide (W - 1 - c < x + 1)) = (decide (a = y) && decide (W - 1 - c < x)) := by
                rw [Bool.eq_iff_iff]; simp; omega
              have e6 : (decide (a = y) && decide (c = W - 1 - x)) = false := by rw [Bool.eq_false_iff]; simpa using hac
              rw [e5, e6]; simp
          have HN := Lib.hid hnext; clear hnext hvb hxy
          have HU := Lib.hid hus; clear hus hub
          generalize y * rs = k1 at *
          generalize (W - 1 - x) * rsN = k2 at *
          rcases hfx : f x y with _ | _
          · have HF2 : Hid (WordsF wi w.heap.size m rsN H W (fun a c => (decide (a < y) || (decide (a = y) && decide (W - 1 - c < x + 1))) && f (W - 1 - c) a)) := Lib.hid (HF.out.congr (fun a c ha hc => by rw [HN.out a c ha hc, hfx]; simp))
            rw [hfx] at e4
            clear hfx HN HU HF cu fu e2 hya
            go_wp2
            go_roundw
            case rel => exact ⟨x + 1, by omega, by go_num, HF2, HB⟩
            case measure => simp [intOf]; omega
          · rw [hfx] at e4
            have HFX := Lib.hid hfx; clear hfx
            have e5 : bits .or .u32 (u : Int) ((2 : Int) ^ (y % 32) % 4294967296) = ((u ||| 2 ^ (y % 32) : Nat) : Int) := by
              rw [pow32 _ (Nat.mod_lt _ (by decide))]
              exact u32_or _ _ hu (Nat.pow_lt_pow_right (n := 32) (by decide) (Nat.mod_lt _ (by decide)))
            have HF2 : Hid (WordsF (World.setCell (World.drew wi) ⟨w.heap.size, k2 + y / 32, none⟩ (.int .u32 (bits .or .u32 (u : Int) ((2 : Int) ^ (y % 32) % 4294967296)))) w.heap.size m rsN H W (fun a c => (decide (a < y) || (decide (a = y) && decide (W - 1 - c < x + 1))) && f (W - 1 - c) a)) :=
              Lib.hid (by rw [e5]; exact HU.out.congr (fun a c ha hc => by rw [HN.out a c ha hc, HFX.out, Bool.and_true]))
            have HB2 := Lib.hid ((bdr HB.out).setCell (p := ⟨w.heap.size, k2 + y / 32, none⟩) (Nat.le_refl _) (.int .u32 (bits .or .u32 (u : Int) ((2 : Int) ^ (y % 32) % 4294967296))))
            clear HU HN HFX HF e5
            go_wp2_with fail
            have i1 : (0 : Int) ≤ (k2 : Int) + (y : Int) / 32 := by omega
            have i2 : (k2 : Int) + (y : Int) / 32 < (m : Int) := by omega
            have i3 : ((k2 : Int) + (y : Int) / 32).toNat = k2 + y / 32 := by omega
            refine Can.wp_region_can (fun w' => w'.cell? ⟨w.heap.size, k2 + y / 32, none⟩ = some (.int .u32 u) ∧ w'.frozen? ⟨w.heap.size, k2 + y / 32, none⟩ = false) 9 [0, 1, 2, 3, 4, 5, 6, 7, 8, 9] (by kernel_rfl) (by kernel_rfl) (fun _ _ d _ _ h => by cases d <;> exact h) ⟨cu, fu⟩ (fun hHeld => ?_)
            repeat (refine Can.can_pure (v := ?_) rfl rfl (Or.inl ⟨by rfl, ?_⟩) ?_; rotate_left; (focus ((intro w hSw); (try dsimp only at hSw); go_simp; (try with_reducible rfl))); (try simp only [Act.put, List.getElem_toArray, List.getElem_cons_succ, List.getElem_cons_zero, List.setIfInBounds_toArray, List.set_cons_zero, List.set_cons_succ]))
            have f1 := hHeld.2
            have c9 := hHeld.1
            refine Can.can_tail rfl rfl (by rfl) (fun K hK => ?_)
            go_simp
            refine hK.out _ _ ?_
            clear hK K
            clear hHeld f1 c9 cu fu i1 i2 i3 e1 e2 e3 e4 hxa hya c0 c2 c3 cv
            go_wp2
            go_roundw
            case rel => exact ⟨x + 1, by omega, by go_num, HF2, HB2⟩
            case measure => simp [intOf]; omega
        · obtain rfl : x = W := by omega
          have HF2 : Hid (WordsF wi w.heap.size m rsN H x (fun a c => decide (a < y + 1) && f (x - 1 - c) a)) := Lib.hid (HF.out.congr (fun a c ha hc => by
            have e : (decide (a < y) || (decide (a = y) && decide (x - 1 - c < x))) = decide (a < y + 1) := by
              rw [Bool.eq_iff_iff]; simp; omega
            rw [e]))
          go_wp2
          go_roundw
          case rel => exact ⟨y + 1, by omega, by go_num, HF2, HB⟩
          case measure => simp [intOf]; omega
    · obtain rfl : y = H := by omega
      have HF2 : Hid (WordsF wr w.heap.size m rsN y W (fun a c => f (W - 1 - c) a)) := Lib.hid (HF.out.congr (fun a c ha _ => by simp [ha]))
      have hD := HD.out.up HB.out
      have f0 := hD.frozen 0
      have f1 := hD.frozen 1
      have f2 := hD.frozen 2
      have f3 := hD.frozen 3
      have HDW := Lib.hid hD; clear hD
      have s0 : ∀ u, ∃ v, wr.cell? ⟨p, u, none⟩ = v := fun u => ⟨_, rfl⟩
      clear s0
      obtain ⟨c0, c1, c2, c3⟩ := HC.out wr HB.out
      have hDN : Blk ((((wr.setCell ⟨p, 0, none⟩ (.int .i64 y)).setCell ⟨p, 1, none⟩ (.int .i64 W)).setCell ⟨p, 2, none⟩ (.int .i64 (((y : Int) + 31) / 32))).setCell ⟨p, 3, none⟩ (.slice (some ⟨w.heap.size, 0, none⟩) m m)) p 89 #[.int .i64 y, .int .i64 W, .int .i64 (((y : Int) + 31) / 32), .slice (some ⟨w.heap.size, 0, none⟩) m m] :=
        (((HDW.out.put 0 _).put 1 _).put 2 _).put 3 _
      have HDN := Lib.hid hDN; clear hDN
      go_wp2
      refine bodyPost_end (results_none rfl _ _ _) rfl ?_
      have hpw : w.heap.size ≠ p := by omega
      have hF3 := ((((HF2.out.far (q := ⟨p, 0, none⟩) hpw (.int .i64 y)).far (q := ⟨p, 1, none⟩) hpw (.int .i64 W)).far (q := ⟨p, 2, none⟩) hpw (.int .i64 (((y : Int) + 31) / 32))).far (q := ⟨p, 3, none⟩) hpw (.slice (some ⟨w.heap.size, 0, none⟩) m m))
      refine ⟨w.heap.size, rfl, MatAt.of_words (by rw [← HRS.out.1, ← HRS.out.2]; exact hF3) ?_ (by omega), ?_, Nat.le_refl _⟩
      · rw [← HRS.out.1, ← HRS.out.2, show (rsN : Int) = ((y : Int) + 31) / 32 by rw [HRS.out.1]; simp]
        exact HDN.out
      · exact grown_set (grown_set (grown_set (grown_set (grown_of HB.out _) 0 _) 1 _) 2 _) 3 _
end Go.Proofs.Ytbfkjfgjeaofpaa
