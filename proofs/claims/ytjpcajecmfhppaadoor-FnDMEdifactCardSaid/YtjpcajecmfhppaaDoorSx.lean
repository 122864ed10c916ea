/-
  GROUND: strings by lists of bytes; slices with room made; bytes that are turned into a string.
-/
import Derived.Test.YtjpcajecmfhppaaDoorStr
import Derived.Lib.SlBytesRow
import Derived.Lib.BufferRead
namespace Go.Proofs.YtjpcajecmfhppaaDoor
open Go.RowKit

def ofL (l : List UInt8) : ByteArray := ⟨l.toArray⟩
theorem ofL_data (l : List UInt8) : (ofL l).data.toList = l := by simp [ofL]
theorem ofL_size (l : List UInt8) : (ofL l).size = l.length := by simp [ofL, ByteArray.size]
theorem ofL_append (a b : List UInt8) : ofL a ++ ofL b = ofL (a ++ b) := by
  apply ByteArray.ext
  simp [ofL]
theorem ofL_of (s : ByteArray) : ofL s.data.toList = s := by
  apply ByteArray.ext
  simp [ofL]
theorem ofL_app (a : List UInt8) (s : ByteArray) : ofL a ++ s = ofL (a ++ s.data.toList) := by
  rw [← ofL_append, ofL_of]
theorem conv_str {P : Program} (w : World) (B : Nat) (src e dst : TypeId) (hs : P.underlying src = some (.slice e)) (he : P.underlying e = some (.int .u8)) (hd : P.underlying dst = some .string) (v : Value) (s : ByteArray) (h : Rd w B v (bytesOf s)) :
    (convert src dst v).run P w = .ok (.string s) w := by
  obtain ⟨A, cap, rfl, h1, h2, h3⟩ := h
  rw [bytesOf_len] at *
  rcases A with _ | ad
  · have h0 : s.size = 0 := by
      rcases Nat.eq_zero_or_pos s.size with h | h
      · exact h
      · obtain ⟨b, o, he, _⟩ := h3 h; cases he
    rw [h0, Lib.run_convert_nil_bytes w src dst e cap hs he hd]
    congr 2
    apply ByteArray.ext
    have : s.data.size = 0 := h0
    exact (Array.eq_empty_of_size_eq_zero this).symm
  · rcases Nat.eq_zero_or_pos s.size with h | h
    · have hs0 : s = ⟨#[]⟩ := by
        apply ByteArray.ext
        have : s.data.size = 0 := h
        exact Array.eq_empty_of_size_eq_zero this
      rw [h, run_convert_bytes_string w src dst e (some ad) 0 cap hs he hd, hs0]
      simp [Conv.bytesToString, loadCells]
      rfl
    · obtain ⟨b, o, he2, hb, hc⟩ := h3 h
      injection he2 with he2
      subst he2
      exact Lib.run_convert_whole w src e dst hs he hd b o s (fun i hi => hc i _ (bytesOf_at s i hi)) cap
theorem run_mk0 {P : Program} (t e : TypeId) (i : TypeInfo) (z : Value) (bytes : Nat) (ht : P.underlying t = some (.slice e)) (hi : P.info? e = some i) (hz : i.zero = some z) (hs : i.size = 1) (hb : i.bytes = bytes) (hz1 : z.cells = #[z])
    (n : Nat) (hbytes : bytes * n ≤ 281474976710656) (h63 : n ≤ 9223372036854775807) (w : World) :
    (Instr.makeSlice t (.int .i64 0) (.int .i64 (n : Int))).run P w = .ok (.slice (some ⟨w.heap.size, 0, none⟩) 0 n) (w.alloc (.cells (rep n z) e)) := by
  have hb' : (i.bytes : Int) * (n : Int) ≤ 281474976710656 := by
    have h : ((i.bytes * n : Nat) : Int) ≤ 281474976710656 := by rw [hb]; omega
    rwa [Int.natCast_mul] at h
  have h := run_make (P := P) w t e i z ht hi hz .i64 .i64 0 (n : Int) (Int.le_refl _) (by omega) hb' (by omega)
  have h2 : madeCells z.cells (n * 1) = rep n z := by
    rw [hz1]
    unfold rep
    apply Array.ext_getElem?
    intro j
    simp only [madeCells]
    by_cases hj : j < n
    · simp [hj, Nat.mod_one]
    · simp [hj]
  simp only [Int.toNat_natCast, hs, h2] at h
  exact h
theorem own_made {w : World} {g base n : Nat} {e : TypeId} {z : Value} (h : Blk w g e (rep n z)) (hb : base ≤ g) (hn : n ≤ maxLen) : w.ownsRow base e 1 (.slice (some ⟨g, 0, none⟩) 0 n) 0 [] :=
  ⟨rfl, .inr ⟨g, n, _, rfl, hb, h, Nat.zero_le _, hn, by simp [rep], rfl⟩⟩
/-- Bytes as values. -/
def bl (l : List UInt8) : List Value := l.map fun b => Value.int .u8 b.toNat
theorem bl_of (s : ByteArray) : bytesOf s = bl s.data.toList := rfl
theorem bytesOf_ofL (l : List UInt8) : bytesOf (ofL l) = bl l := by rw [bl_of, ofL_data]
theorem bl_ofL (l : List UInt8) : bytesOf (ofL l) = bl l := by rw [bl_of, ofL_data]
theorem bl_len (l : List UInt8) : (bl l).length = l.length := by simp [bl]
theorem bl_app (a b : List UInt8) : bl (a ++ b) = bl a ++ bl b := by simp [bl]
theorem bl_one (l : List UInt8) : ∀ u ∈ bl l, u.oneCell' = true := fun u hu => by
  simp only [bl, List.mem_map] at hu
  obtain ⟨x, _, rfl⟩ := hu
  rfl
theorem bytesRd {w : World} {B : Nat} {v : Value} {s : ByteArray} (h : Rd w B v (bytesOf s)) : Rd w B v (bl s.data.toList) := h
end Go.Proofs.YtjpcajecmfhppaaDoor
