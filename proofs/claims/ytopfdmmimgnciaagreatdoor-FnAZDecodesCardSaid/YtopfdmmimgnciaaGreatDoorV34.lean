/-
  PLAIN: bits that are laid into the layers of a symbol, one behind the other, are taken from it as they were laid. GROUND: rows of bools that the call itself makes: each row a block of its own; they can be written. WALKS: spec.BIRows of no bits: light rows, each in a block of its own.
-/
import Derived.Test.YtopfdmmimgnciaaGreatDoorV28
import Derived.Test.YtopfdmmimgnciaaGreatDoorV02
import Derived.Test.YtopfdmmimgnciaaGreatDoorV01
namespace Go.Proofs.YtopfdmmimgnciaaGreatDoor
open Go.RowKit

/-- The column and the row (without the grid) of bit q of side k of layer i. -/
def pX (S i k q : Nat) : Nat := if k = 0 then 2 * i + q % 2 else if k = 1 then 2 * i + q / 2 else if k = 2 then S - 1 - 2 * i - q % 2 else S - 1 - 2 * i - q / 2
def pY (S i k q : Nat) : Nat := if k = 0 then 2 * i + q / 2 else if k = 1 then S - 1 - 2 * i - q % 2 else if k = 2 then S - 1 - 2 * i - q / 2 else 2 * i + q % 2
theorem bit_pos (c : Bool) (L : Nat) (f : Nat → Nat → Bool) (i k q : Nat) (hk : k < 4) : bitZ c L f i k q = f (placeN c L (pX (sideN c L) i k q)) (placeN c L (pY (sideN c L) i k q)) := by
  have h : k = 0 ∨ k = 1 ∨ k = 2 ∨ k = 3 := by omega
  rcases h with rfl | rfl | rfl | rfl <;> rfl
theorem pos_lt {S i k q l L : Nat} (hl : l + 2 * i + 2 * i + 2 = S) (hi : i < L) (hq : q < 2 * l) : pX S i k q < S ∧ pY S i k q < S := by
  unfold pX pY
  have := hi
  constructor <;> (repeat' split) <;> omega
theorem pos_cases (S i k q : Nat) (hk : k < 4) : (k = 0 ∧ pX S i k q = 2 * i + q % 2 ∧ pY S i k q = 2 * i + q / 2) ∨ (k = 1 ∧ pX S i k q = 2 * i + q / 2 ∧ pY S i k q = S - 1 - 2 * i - q % 2) ∨
    (k = 2 ∧ pX S i k q = S - 1 - 2 * i - q % 2 ∧ pY S i k q = S - 1 - 2 * i - q / 2) ∨ (k = 3 ∧ pX S i k q = S - 1 - 2 * i - q / 2 ∧ pY S i k q = 2 * i + q % 2) := by
  have h : k = 0 ∨ k = 1 ∨ k = 2 ∨ k = 3 := by omega
  rcases h with rfl | rfl | rfl | rfl
  · exact .inl ⟨rfl, rfl, rfl⟩
  · exact .inr (.inl ⟨rfl, rfl, rfl⟩)
  · exact .inr (.inr (.inl ⟨rfl, rfl, rfl⟩))
  · exact .inr (.inr (.inr ⟨rfl, rfl, rfl⟩))
theorem pos_inj {S i k q l i' k' q' l' : Nat} (hl : l + 2 * i + 2 * i + 2 = S) (hl' : l' + 2 * i' + 2 * i' + 2 = S) (hk : k < 4) (hk' : k' < 4) (hq : q < 2 * l) (hq' : q' < 2 * l')
    (h1 : pX S i k q = pX S i' k' q') (h2 : pY S i k q = pY S i' k' q') : i = i' ∧ k = k' ∧ q = q' := by
  have h3 := pos_cases S i k q hk
  have h4 := pos_cases S i' k' q' hk'
  rw [h1, h2] at h3
  generalize pX S i' k' q' = X at *
  generalize pY S i' k' q' = Y at *
  clear h1 h2
  rcases h3 with h3 | h3 | h3 | h3 <;> rcases h4 with h4 | h4 | h4 | h4 <;> omega
theorem placeN_inj (c : Bool) (L a b : Nat) (ha : a < sideN c L) (hb : b < sideN c L) (h : placeN c L a = placeN c L b) : a = b := by
  cases c
  · unfold placeN wholeN at h
    have hs : sideN false L = 14 + 4 * L := rfl
    rw [hs] at ha hb
    simp only [Bool.false_eq_true, if_false, hs] at h
    split at h <;> split at h <;> omega
  · unfold placeN at h
    simpa using h
theorem idx_inj (c : Bool) (L i k q i' k' q' : Nat) (hk : k < 4) (hk' : k' < 4) (hq : q < 2 * longN c L i) (hq' : q' < 2 * longN c L i')
    (h : offN c L i + k * (2 * longN c L i) + q = offN c L i' + k' * (2 * longN c L i') + q') : i = i' ∧ k = k' ∧ q = q' := by
  have key : ∀ i k q i' k' q', k < 4 → q < 2 * longN c L i → i < i' → offN c L i + k * (2 * longN c L i) + q < offN c L i' + k' * (2 * longN c L i') + q' := fun i k q i' k' q' h1 h2 h3 => by
    have h4 := offN_mono c L (i + 1) i' h3
    rw [offN_succ] at h4
    have h5 : k = 0 ∨ k = 1 ∨ k = 2 ∨ k = 3 := by omega
    rcases h5 with rfl | rfl | rfl | rfl <;> omega
  rcases Nat.lt_trichotomy i i' with h1 | rfl | h1
  · have := key i k q i' k' q' hk hq h1; omega
  · refine ⟨rfl, ?_⟩
    generalize longN c L i = l at *
    have c1 : k = 0 ∨ k = 1 ∨ k = 2 ∨ k = 3 := by omega
    have c2 : k' = 0 ∨ k' = 1 ∨ k' = 2 ∨ k' = 3 := by omega
    rcases c1 with rfl | rfl | rfl | rfl <;> rcases c2 with rfl | rfl | rfl | rfl <;> omega
  · have := key i' k' q' i k q hk' hq' h1; omega
/-- The bits below t are laid. -/
def Laid (c : Bool) (L : Nat) (T : List Bool) (G : Nat → Nat → Bool) (t : Nat) : Prop :=
  ∀ i k q, i < L → k < 4 → q < 2 * longN c L i → offN c L i + k * (2 * longN c L i) + q < t → T[offN c L i + k * (2 * longN c L i) + q]? = some (bitZ c L G i k q)
theorem Laid.zero (c : Bool) (L : Nat) (T : List Bool) (G : Nat → Nat → Bool) : Laid c L T G 0 := fun _ _ _ _ _ _ h => absurd h (Nat.not_lt_zero _)
theorem Laid.step {c : Bool} {L : Nat} {T : List Bool} {G : Nat → Nat → Bool} {t i k q : Nat} {b : Bool} {X Y : Nat} (h : Laid c L T G t) (hi : i < L) (hk : k < 4) (hq : q < 2 * longN c L i) (ht : t = offN c L i + k * (2 * longN c L i) + q)
    (hb : T[t]? = some b) (hX : X = placeN c L (pX (sideN c L) i k q)) (hY : Y = placeN c L (pY (sideN c L) i k q)) :
    Laid c L T (fun x y => if x = X ∧ y = Y then b else G x y) (t + 1) := fun i' k' q' hi' hk' hq' hlt => by
  have hl := long_side c L i hi
  have hl' := long_side c L i' hi'
  obtain ⟨p1, p2⟩ := pos_lt (k := k) hl hi hq
  obtain ⟨p3, p4⟩ := pos_lt (k := k') hl' hi' hq'
  rw [bit_pos _ _ _ _ _ _ hk']
  by_cases he : placeN c L (pX (sideN c L) i' k' q') = X ∧ placeN c L (pY (sideN c L) i' k' q') = Y
  · rw [if_pos he]
    obtain ⟨e1, e2⟩ := he
    rw [hX] at e1
    rw [hY] at e2
    obtain ⟨rfl, rfl, rfl⟩ := pos_inj hl' hl hk' hk hq' hq (placeN_inj c L _ _ p3 p1 e1) (placeN_inj c L _ _ p4 p2 e2)
    rw [← ht]; exact hb
  · rw [if_neg he]
    have h9 := h i' k' q' hi' hk' hq'
    rw [bit_pos c L G i' k' q' hk'] at h9
    refine h9 ?_
    rcases Nat.lt_or_ge (offN c L i' + k' * (2 * longN c L i') + q') t with h1 | h1
    · exact h1
    · obtain ⟨rfl, rfl, rfl⟩ := idx_inj c L i k q i' k' q' hk hk' hq hq' (by omega)
      exact absurd ⟨hX.symm, hY.symm⟩ he
theorem Laid.done {c : Bool} {L : Nat} {T : List Bool} {G : Nat → Nat → Bool} (h : Laid c L T G (offN c L L)) (hT : T.length = offN c L L) : takU c L G L = T := by
  apply List.ext_getElem?
  intro p
  rcases Nat.lt_or_ge p (offN c L L) with hp | hp
  · obtain ⟨i, k, j, h1, h2, h3, h4⟩ := place_of c L L p hp
    rw [h4, takU_at c L G i k j L h1 h2 h3]
    exact (h i k j h1 h2 h3 (by omega)).symm
  · rw [List.getElem?_eq_none (by rw [takU_len]; exact hp), List.getElem?_eq_none (by omega)]
theorem takU_congr (c : Bool) (L : Nat) (f g : Nat → Nat → Bool) (h : ∀ x y, x < wholeN c L → y < wholeN c L → f x y = g x y) : takU c L f L = takU c L g L := by
  apply List.ext_getElem?
  intro p
  rcases Nat.lt_or_ge p (offN c L L) with hp | hp
  · obtain ⟨i, k, j, h1, h2, h3, h4⟩ := place_of c L L p hp
    obtain ⟨p1, p2⟩ := pos_lt (k := k) (long_side c L i h1) h1 h3
    rw [h4, takU_at c L f i k j L h1 h2 h3, takU_at c L g i k j L h1 h2 h3, bit_pos _ _ _ _ _ _ h2, bit_pos _ _ _ _ _ _ h2, h _ _ (placeN_lt c L _ p1) (placeN_lt c L _ p2)]
  · rw [List.getElem?_eq_none (by rw [takU_len]; exact hp), List.getElem?_eq_none (by rw [takU_len]; exact hp)]
end Go.Proofs.YtopfdmmimgnciaaGreatDoor
namespace Go.Proofs.YtopfdmmimgnciaaGreatDoor
open Go.RowKit

/-- A row in block b, n long. -/
def rowV (n b : Nat) : Value := .slice (some ⟨b, 0, none⟩) n n
/-- In block g lie m rows of n bits, of which the first ones are made: row i in block bs[i]. -/
structure MkR (w : World) (g n m : Nat) (bs : List Nat) (F : Nat → Nat → Bool) : Prop where
  out : Blk w g 42 (padV (bs.map (rowV n)) m).toArray
  rows : ∀ i, i < bs.length → Blk w (bs.getD i 0) 4 (bv (rowF n F i)).toArray
  above : ∀ i, i < bs.length → g < bs.getD i 0
  inc : ∀ i j, i < j → j < bs.length → bs.getD i 0 < bs.getD j 0
section
variable {w w' : World} {g n m : Nat} {bs : List Nat} {F : Nat → Nat → Bool}
theorem MkR.lt (h : MkR w g n m bs F) (i : Nat) (hi : i < bs.length) : bs.getD i 0 < w.heap.size := (h.rows i hi).lt
theorem MkR.up (h : MkR w g n m bs F) (hb : Below w.heap.size w w') : MkR w' g n m bs F :=
  ⟨h.out.up hb, fun i hi => (h.rows i hi).up hb, h.above, h.inc⟩
theorem MkR.drew (h : MkR w g n m bs F) : MkR w.drew g n m bs F := ⟨h.out, h.rows, h.above, h.inc⟩
theorem MkR.begin_ (w : World) (n m : Nat) (F : Nat → Nat → Bool) : MkR (w.alloc (.cells (List.replicate m (Value.slice none 0 0)).toArray 42)) w.heap.size n m [] F :=
  ⟨by unfold padV; exact Blk.fresh w _ _, fun i hi => absurd hi (Nat.not_lt_zero _), fun i hi => absurd hi (Nat.not_lt_zero _), fun i j _ hj => absurd hj (Nat.not_lt_zero _)⟩
theorem getD_snocN_lo (bs : List Nat) (u : Nat) (i : Nat) (h : i < bs.length) : (bs ++ [u]).getD i 0 = bs.getD i 0 := by
  rw [List.getD, List.getElem?_append_left h, List.getD]
theorem getD_snocN (bs : List Nat) (u : Nat) : (bs ++ [u]).getD bs.length 0 = u := by
  rw [List.getD, List.getElem?_concat_length]; rfl
/-- The next row is made, and filled. -/
theorem MkR.next (h : MkR w g n m bs F) (hlt : bs.length < m) (cs : Array Value) {wm : World} (hwm : wm = (w.setCell ⟨g, bs.length, none⟩ (rowV n w.heap.size)).alloc (.cells cs 4)) :
    Blk wm g 42 (padV ((bs ++ [w.heap.size]).map (rowV n)) m).toArray ∧ Blk wm w.heap.size 4 cs ∧
    ∀ wi, Blk wi w.heap.size 4 (bv (rowF n F bs.length)).toArray → Below w.heap.size wm wi → MkR wi g n m (bs ++ [w.heap.size]) F := by
  have hgl := h.out.lt
  have h1 : Blk wm g 42 (padV ((bs ++ [w.heap.size]).map (rowV n)) m).toArray := by
    have h2 := (h.out.put bs.length (rowV n w.heap.size)).alloc (.cells cs 4)
    have h3 := padV_set (bs.map (rowV n)) m (rowV n w.heap.size) (by simpa using hlt)
    rw [List.length_map] at h3
    rw [h3] at h2
    rw [hwm, List.map_append]
    exact h2
  have h4 : ∀ i, i < bs.length → Blk wm (bs.getD i 0) 4 (bv (rowF n F i)).toArray := fun i hi => by
    rw [hwm]
    exact ((h.rows i hi).far (p := ⟨g, bs.length, none⟩) (by have := h.above i hi; show bs.getD i 0 ≠ g; omega) _).alloc _
  have h5 : Blk wm w.heap.size 4 cs := by rw [hwm]; exact Blk.fresh' (by simp)
  refine ⟨h1, h5, fun wi hr hb => ⟨h1.below hb hgl, fun i hi => ?_, fun i hi => ?_, fun i j hij hj => ?_⟩⟩
  · rw [List.length_append, List.length_singleton] at hi
    rcases Nat.lt_or_ge i bs.length with hl | hl
    · rw [getD_snocN_lo _ _ _ hl]; exact (h4 i hl).below hb (h.lt i hl)
    · obtain rfl : i = bs.length := by omega
      rw [getD_snocN]; exact hr
  · rw [List.length_append, List.length_singleton] at hi
    rcases Nat.lt_or_ge i bs.length with hl | hl
    · rw [getD_snocN_lo _ _ _ hl]; exact h.above i hl
    · obtain rfl : i = bs.length := by omega
      rw [getD_snocN]; exact hgl
  · rw [List.length_append, List.length_singleton] at hj
    rw [getD_snocN_lo _ _ i (by omega)]
    rcases Nat.lt_or_ge j bs.length with hl | hl
    · rw [getD_snocN_lo _ _ _ hl]; exact h.inc i j hij hl
    · obtain rfl : j = bs.length := by omega
      rw [getD_snocN]; exact h.lt i (by omega)
/-- The cell of row i in the outer block. -/
theorem MkR.at_ (h : MkR w g n m bs F) (i : Nat) (hi : i < bs.length) : w.cell? ⟨g, i, none⟩ = some (rowV n (bs.getD i 0)) := by
  rw [h.out.cell, List.getElem?_toArray]
  unfold padV
  rw [List.getElem?_append_left (by simpa using hi), List.getElem?_map, List.getD, List.getElem?_eq_getElem hi]
  rfl
theorem MkR.last {u : Nat} (h : Blk w g 42 (padV ((bs ++ [u]).map (rowV n)) m).toArray) : w.cell? ⟨g, bs.length, none⟩ = some (rowV n u) := by
  rw [h.cell, List.getElem?_toArray]
  unfold padV
  rw [List.getElem?_append_left (by simp), List.getElem?_map, List.getElem?_concat_length]
  rfl
/-- The cell that is made next. -/
theorem MkR.ahead (h : MkR w g n m bs F) (hlt : bs.length < m) : w.cell? ⟨g, bs.length, none⟩ = some (.slice none 0 0) := by
  rw [h.out.cell]
  have := padV_at (bs.map (rowV n)) m (by simpa using hlt)
  rwa [List.length_map] at this
/-- A bit. -/
theorem MkR.bit (h : MkR w g n m bs F) (i c : Nat) (hi : i < bs.length) (hc : c < n) : w.cell? ⟨bs.getD i 0, c, none⟩ = some (.bool (F c i)) := by
  rw [(h.rows i hi).cell, List.getElem?_toArray]
  have := bv_at (rowF n F i) c (by rw [rowF_len]; exact hc)
  rw [this, rowF_at]
theorem MkR.free (h : MkR w g n m bs F) (i c : Nat) (hi : i < bs.length) : w.frozen? ⟨bs.getD i 0, c, none⟩ = false := (h.rows i hi).frozen c
theorem MkR.ne (h : MkR w g n m bs F) (i j : Nat) (hi : i < bs.length) (hj : j < bs.length) (hij : i ≠ j) : bs.getD i 0 ≠ bs.getD j 0 := by
  rcases Nat.lt_or_ge i j with h1 | h1
  · have := h.inc i j h1 hj; omega
  · have := h.inc j i (by omega) hi; omega
theorem rowF_set (n : Nat) (F : Nat → Nat → Bool) (c i : Nat) (b : Bool) (hc : c < n) : (rowF n F i).set c b = rowF n (fun x y => if x = c ∧ y = i then b else F x y) i := by
  have _ := hc
  apply List.ext_getElem
  · simp [rowF_len]
  · intro k h1 h2
    rw [List.getElem_set, rowF_at]
    split
    · rename_i he; subst he; rw [rowF_at]; exact (if_pos ⟨rfl, rfl⟩).symm
    · rename_i he
      rw [rowF_at, if_neg (by omega)]
theorem rowF_congr {n i : Nat} {F G : Nat → Nat → Bool} (h : ∀ x, x < n → F x i = G x i) : rowF n F i = rowF n G i := by
  unfold rowF
  exact List.map_congr_left (fun x hx => h x (List.mem_range.1 hx))
theorem MkR.congr {G : Nat → Nat → Bool} (h : MkR w g n m bs F) (he : ∀ x y, x < n → y < bs.length → F x y = G x y) : MkR w g n m bs G :=
  ⟨h.out, fun i hi => by rw [← rowF_congr (fun x hx => he x i hx hi)]; exact h.rows i hi, h.above, h.inc⟩
/-- A bit is written. -/
theorem MkR.put (h : MkR w g n m bs F) (i c : Nat) (b : Bool) (hi : i < bs.length) (hc : c < n) :
    MkR (w.setCell ⟨bs.getD i 0, c, none⟩ (.bool b)) g n m bs (fun x y => if x = c ∧ y = i then b else F x y) := by
  refine ⟨h.out.far (by have := h.above i hi; show g ≠ bs.getD i 0; omega) _, fun j hj => ?_, h.above, h.inc⟩
  by_cases hji : j = i
  · subst hji
    have h2 := (h.rows j hj).put c (.bool b)
    rw [bv_set, rowF_set _ _ _ _ _ hc] at h2
    exact h2
  · have h2 := (h.rows j hj).far (p := ⟨bs.getD i 0, c, none⟩) (h.ne j i hj hi hji) (.bool b)
    rw [rowF_congr (G := F) (fun x _ => if_neg (by omega))]
    exact h2
/-- What rows that are whole read as. -/
theorem MkR.rowsT (h : MkR w g n m bs F) (hm : bs.length = m) (h16 : n ≤ 65536 ∧ m ≤ 65536) : RowsT w (.slice (some ⟨g, 0, none⟩) m m) (rowsF n m F) := by
  refine ⟨bs.map (rowV n), ?_, by rw [List.length_map, rowsF_len]; exact hm, fun i hi => ?_⟩
  · have := h.out
    rw [← hm, show bs.length = (bs.map (rowV n)).length by simp, padV_full] at this
    exact RdT.of_blk this (by simp [hm]) (by simp [hm]) (by unfold maxLen; omega)
  · rw [rowsF_len] at hi
    rw [rowsF_at _ _ _ _ hi]
    have e : (bs.map (rowV n)).getD i undef = rowV n (bs.getD i 0) := by
      rw [List.getD, List.getElem?_map, List.getElem?_eq_getElem (by omega), List.getD, List.getElem?_eq_getElem (by omega)]; rfl
    rw [e]
    exact RdT.of_blk (h.rows i (by omega)) (by rw [bv_len, rowF_len]) (by rw [bv_len, rowF_len]; exact Nat.le_refl _) (by unfold maxLen; omega)
end
end Go.Proofs.YtopfdmmimgnciaaGreatDoor
namespace Go.Proofs.YtopfdmmimgnciaaGreatDoor
open Go.RowKit

theorem rowF_blank (n i : Nat) : rowF n (fun _ _ => false) i = List.replicate n false := by
  apply List.ext_getElem
  · simp [rowF_len]
  · intro k h1 h2
    rw [rowF_at, List.getElem_replicate]
set_option maxRecDepth 100000 in
set_option maxHeartbeats 2000000 in
theorem blankRows_any (n : Nat) (w : World) (hn : n ≤ 4096) :
    Calls Tryz.prog 26 #[.int .i64 n, .int .i64 n, .slice none 0 0] w fun e w' => ∃ bs, e = .returned (.slice (some ⟨w.heap.size, 0, none⟩) n n) ∧ bs.length = n ∧ MkR w' w.heap.size n n bs (fun _ _ => false) ∧ Below w.heap.size w w' := by
  have hmk := fun a => mk_rows n a (by omega)
  have hmkb := fun a => mk_bools n a (by omega)
  go_enter Tryz.func26, Tryz.ntmps26
  go_wp2
  clear hmk
  go_loopw [8] (fun yv wr => ∃ (y : Nat) (bs : List Nat), y ≤ n ∧ bs.length ≤ y ∧ y ≤ bs.length ∧ yv = .int .i64 y ∧ Hid (MkR wr w.heap.size n n bs (fun _ _ => false)) ∧ Hid (Below w.heap.size w wr)) (fun yv _ => n - (intOf yv).toNat)
  case atStart => exact ⟨0, [], Nat.zero_le _, Nat.le_refl _, Nat.zero_le _, rfl, Lib.hid (MkR.begin_ w n n _), Lib.hid (bal (brf w) _)⟩
  case round =>
    obtain ⟨y, bs, hy, hy1, hy2, rfl, HG, HW⟩ := hrel
    by_cases hlt : y < n
    · obtain rfl : y = bs.length := by omega
      have HGa := HG.out.out.alloc (.cells (bv (List.replicate n false)).toArray 4)
      have cG : (wr.alloc (.cells (bv (List.replicate n false)).toArray 4)).cell? ⟨w.heap.size, bs.length, none⟩ = some (.slice none 0 0) := cell_up (HG.out.ahead hlt) (bal (brf _) _)
      have fG : (wr.alloc (.cells (bv (List.replicate n false)).toArray 4)).frozen? ⟨w.heap.size, bs.length, none⟩ = false := HGa.frozen _
      obtain ⟨wm, hwm⟩ : ∃ wm, wm = (wr.setCell ⟨w.heap.size, bs.length, none⟩ (.slice (some ⟨wr.heap.size, 0, none⟩) n n)).alloc (.cells (bv (List.replicate n false)).toArray 4) := ⟨_, rfl⟩
      obtain ⟨HG1, hB1, hnx⟩ := HG.out.next hlt _ hwm
      have HN := Lib.hid (hnx wm (by rw [rowF_blank]; exact hB1) (Below.refl _ _))
      have HW2 : Hid (Below w.heap.size w wm) := Lib.hid (by
        rw [hwm]; exact bal (HW.out.setCell (p := ⟨w.heap.size, bs.length, none⟩) (Nat.le_refl _) _) _)
      have HWM := Lib.hid hwm.symm
      have HG0 := Lib.hid HG.out.out.lt
      clear hwm HGa HG hnx hB1 HG1
      have hglt := HG0.out
      go_wp2_with fail
      rw [HWM.out]
      go_loopw [9] (fun xv wi => ∃ z : Int, xv = .int .i64 z ∧ z = 0 ∧ wi = wm) (fun _ _ => 0)
      case atStart => exact ⟨0, rfl, rfl, rfl⟩
      case round =>
        rename World => wi
        obtain ⟨z, rfl, rfl, rfl⟩ := hrel
        clear HWM cG fG
        go_wp2_with fail
        go_roundw
        case rel => exact ⟨bs.length + 1, bs ++ [wr.heap.size], by omega, by simp, by simp, by go_num, HN, HW2⟩
        case measure => simp [intOf]; omega
    · obtain rfl : y = n := by omega
      have hbl : bs.length = y := by omega
      have HBL := Lib.hid hbl
      clear hbl hy1 hy2
      go_wp2
      go_ret
      exact ⟨bs, rfl, HBL.out, HG.out, HW.out⟩
end Go.Proofs.YtopfdmmimgnciaaGreatDoor
