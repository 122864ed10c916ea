/-
  GROUND AND WALKS: rows as a text: spec.BIText, ToStringWithLineSeparator, impl.GridText.
-/
import Derived.Test.YtbfkjfgjeaofpaaRo4
import Derived.Test.YtbfkjfgjeaofpaaStr
import Derived.Test.YtbfkjfgjeaofpaaBi3
namespace Go.Proofs.Ytbfkjfgjeaofpaa
open Go.RowKit

/-! ### plain -/
def tok (s u : ByteArray) (b : Bool) : List UInt8 := if b then s.data.toList else u.data.toList
def toks (s u : ByteArray) (r : List Bool) : List UInt8 := r.flatMap (tok s u)
def textL (s u n : ByteArray) (rows : List (List Bool)) : List UInt8 := rows.flatMap fun r => toks s u r ++ n.data.toList
def ofL (l : List UInt8) : ByteArray := ⟨l.toArray⟩
theorem ofL_data (l : List UInt8) : (ofL l).data.toList = l := by simp [ofL]
theorem ofL_size (l : List UInt8) : (ofL l).size = l.length := by simp [ofL, ByteArray.size]
theorem ofL_append (a b : List UInt8) : ofL a ++ ofL b = ofL (a ++ b) := by
  apply ByteArray.ext
  simp [ofL]
theorem ofL_of (s : ByteArray) : ofL s.data.toList = s := by
  apply ByteArray.ext
  simp [ofL]
theorem ofL_app (a : List UInt8) (s : ByteArray) : ofL a ++ s = ofL (a ++ s.data.toList) := by
  rw [← ofL_append, ofL_of]
theorem toks_snoc (s u : ByteArray) (r : List Bool) (b : Bool) : toks s u (r ++ [b]) = toks s u r ++ tok s u b := by simp [toks]
theorem textL_snoc (s u n : ByteArray) (rows : List (List Bool)) (r : List Bool) : textL s u n (rows ++ [r]) = textL s u n rows ++ (toks s u r ++ n.data.toList) := by simp [textL]
theorem toks_le (s u : ByteArray) (r : List Bool) (k : Nat) (hs : s.size ≤ k) (hu : u.size ≤ k) : (toks s u r).length ≤ k * r.length := by
  induction r with
  | nil => simp [toks]
  | cons b r ih =>
    have e : toks s u (b :: r) = tok s u b ++ toks s u r := by simp [toks]
    have hb : (tok s u b).length ≤ k := by unfold tok; split <;> simpa using (by assumption)
    rw [e, List.length_append, List.length_cons, Nat.mul_add]
    omega
theorem textL_le (s u n : ByteArray) (rows : List (List Bool)) (k W : Nat) (hs : s.size ≤ k) (hu : u.size ≤ k) (hn : n.size ≤ k) (hr : ∀ r ∈ rows, r.length = W) : (textL s u n rows).length ≤ (k * W + k) * rows.length := by
  induction rows with
  | nil => simp [textL]
  | cons r rows ih =>
    have e : textL s u n (r :: rows) = (toks s u r ++ n.data.toList) ++ textL s u n rows := by simp [textL]
    have h1 := toks_le s u r k hs hu
    rw [hr r (List.mem_cons_self ..)] at h1
    have h2 := ih (fun x hx => hr x (List.mem_cons_of_mem _ hx))
    have h3 : n.data.toList.length ≤ k := by simpa using hn
    rw [e, List.length_append, List.length_append, List.length_cons, Nat.mul_add]
    omega
theorem take_snoc' {α : Type} (l : List α) (i : Nat) (h : i < l.length) : l.take (i + 1) = l.take i ++ [l[i]] := List.take_succ_eq_append_getElem h

set_option maxRecDepth 100000 in
/-- spec.BIText. -/
theorem biText_any (v : Value) (rows : List (List Bool)) (s u n : ByteArray) (W : Nat) (w : World) (hv : RowsT w v rows) (hr : ∀ r ∈ rows, r.length = W) (h0 : 0 < rows.length) (hW0 : 0 < W) (hs : s.size ≤ 100) (hu : u.size ≤ 100) (hn : n.size ≤ 100) (hW : W ≤ 4096) (hH : rows.length ≤ 4096) :
    Calls Try.prog 15 #[v, .string s, .string u, .string n] w fun e w' => e = .returned (.string (ofL (textL s u n rows))) ∧ Below w.heap.size w w' := by
  obtain ⟨b, o, cap, rfl, h1, h2, HR⟩ := hv.at_ h0
  have HRW := Lib.hid hr; clear hr hv
  have hrl : ∀ i (h : i < rows.length), (rows[i]).length = W := fun i h => HRW.out _ (List.getElem_mem h)
  have HRL := Lib.hid hrl; clear hrl
  have hnil : ofL [] = ⟨#[]⟩ := rfl
  go_enter Try.func15, Try.ntmps15
  go_wp2
  go_loop [9, 10] (fun tv yv => ∃ y : Nat, y ≤ rows.length ∧ yv = .int .i64 y ∧ tv = .string (ofL (textL s u n (rows.take y)))) (fun _ yv => rows.length - (intOf yv).toNat)
  case atStart => exact ⟨0, Nat.zero_le _, rfl, rfl⟩
  case round =>
    obtain ⟨y, hy, rfl, rfl⟩ := hrel
    by_cases hlt : y < rows.length
    · obtain ⟨u1, hc, hu1⟩ := HR.out y hlt
      have hg : rows.getD y [] = rows[y] := by rw [List.getD, List.getElem?_eq_getElem hlt]; rfl
      have hl := HRL.out y hlt
      rw [hg] at hu1
      obtain ⟨by_, oy, cy, rfl, hcy1, hcy2, HC⟩ := row_at hu1 (by omega)
      have hts := take_snoc' rows y hlt
      rw [hl] at hc hcy1 HC
      generalize rows[y] = row at *
      have htx := textL_snoc s u n (rows.take y) row
      rw [← hts] at htx
      have hpl := textL_le s u n (rows.take y) 100 W hs hu hn (fun r hr => HRW.out r (List.mem_of_mem_take hr))
      have hpl2 : (100 * W + 100) * (rows.take y).length ≤ (100 * 4096 + 100) * 4096 := Nat.mul_le_mul (by omega) (by rw [List.length_take]; omega)
      generalize (100 * W + 100) * (rows.take y).length = big at *
      generalize textL s u n (rows.take y) = pre at *
      have HTX := Lib.hid htx; clear htx hts hg hu1
      have HL := Lib.hid hl; clear hl
      go_wp2
      go_loop [9, 11] (fun tv xv => ∃ x : Nat, x ≤ W ∧ xv = .int .i64 x ∧ tv = .string (ofL (pre ++ toks s u (row.take x)))) (fun _ xv => W - (intOf xv).toNat)
      case atStart => exact ⟨0, Nat.zero_le _, rfl, by simp [toks]⟩
      case round =>
        obtain ⟨x, hx, rfl, rfl⟩ := hrel
        by_cases hxl : x < W
        · have cX := HC.out x hxl
          have hxr : x < row.length := by rw [HL.out]; exact hxl
          have hbx : row.getD x false = row[x] := by rw [List.getD, List.getElem?_eq_getElem hxr]; rfl
          rw [hbx] at cX
          have htk := take_snoc' row x hxr
          have htt := toks_snoc s u (row.take x) row[x]
          rw [← htk] at htt
          have hml := toks_le s u (row.take x) 100 hs hu
          have hml2 : (row.take x).length ≤ x := by rw [List.length_take]; omega
          have hsz : ¬ 9223372036854775807 < (ofL (pre ++ toks s u (row.take x))).size + s.size := by rw [ofL_size, List.length_append]; omega
          have hsz2 : ¬ 9223372036854775807 < (ofL (pre ++ toks s u (row.take x))).size + u.size := by rw [ofL_size, List.length_append]; omega
          clear hml hml2
          generalize row[x] = bb at *
          generalize toks s u (row.take x) = mid at *
          have happ : ∀ t : ByteArray, ofL (pre ++ mid) ++ t = ofL (pre ++ (mid ++ t.data.toList)) := fun t => by rw [ofL_app, List.append_assoc]
          have HAP := Lib.hid (And.intro htt happ); clear htt happ htk hbx
          cases bb
          · go_wp2
            go_round
            case rel => exact ⟨x + 1, by omega, by go_num, by rw [HAP.out.1]; first | exact congrArg Value.string (HAP.out.2 u) | rw [HAP.out.2 u]; rfl⟩
            case measure => simp [intOf]; omega
          · go_wp2
            go_round
            case rel => exact ⟨x + 1, by omega, by go_num, by rw [HAP.out.1]; first | exact congrArg Value.string (HAP.out.2 s) | rw [HAP.out.2 s]; rfl⟩
            case measure => simp [intOf]; omega
        · obtain rfl : x = W := by omega
          have hfull : row.take x = row := List.take_of_length_le (by rw [HL.out]; exact Nat.le_refl _)
          rw [hfull]
          have hml := toks_le s u row 100 hs hu
          have hsz : ¬ 9223372036854775807 < (ofL (pre ++ toks s u row)).size + n.size := by rw [HL.out] at hml; rw [ofL_size, List.length_append]; omega
          clear hml
          have happ : ofL (pre ++ toks s u row) ++ n = ofL (pre ++ (toks s u row ++ n.data.toList)) := by rw [ofL_app, List.append_assoc]
          have HAP := Lib.hid happ; clear happ hfull
          go_wp2
          go_round
          case rel => exact ⟨y + 1, by omega, by go_num, by rw [HTX.out]; exact congrArg Value.string HAP.out⟩
          case measure => simp [intOf]; omega
    · obtain rfl : y = rows.length := by omega
      go_wp2
      go_ret
      exact ⟨by first | rfl | (rw [List.take_length]; done), brf w⟩
end Go.Proofs.Ytbfkjfgjeaofpaa
