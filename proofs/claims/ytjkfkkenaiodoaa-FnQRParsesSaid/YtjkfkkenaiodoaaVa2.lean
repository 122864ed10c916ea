/-
  WALKS: versions 11 to 20 are made.
-/
import Derived.Test.YtjkfkkenaiodoaaVf
namespace Go.Proofs.Ytjkfkkenaiodoaa
open Go.RowKit

set_option maxRecDepth 100000 in
set_option maxHeartbeats 2000000 in
theorem ver_11 (w : World) : Calls Try.prog 22 #[.int .i64 11] w fun e w' => ∃ p, e = .returned (.pointer (some ⟨p, 0, none⟩)) ∧ VerAt w' p 11 ∧ Below w.heap.size w w' := by
  have hm := ver_made w 11 [6, 30, 54] 20 30 28 24 [(4, 81)] [(1, 50), (4, 51)] [(4, 22), (4, 23)] [(3, 12), (8, 13)] rfl (by decide) (by decide) (by decide) (by decide)
  go_enter Try.func22, Try.ntmps22
  go_wp2_with fail
  refine hm.mono ?_
  rintro e w1 ⟨p, rfl, h1, h2⟩
  have HV := Lib.hid (And.intro h1 h2); clear h1 h2 hm
  go_wp2
  go_ret
  exact ⟨p, rfl, HV.out.1, HV.out.2⟩

set_option maxRecDepth 100000 in
set_option maxHeartbeats 2000000 in
theorem ver_12 (w : World) : Calls Try.prog 22 #[.int .i64 12] w fun e w' => ∃ p, e = .returned (.pointer (some ⟨p, 0, none⟩)) ∧ VerAt w' p 12 ∧ Below w.heap.size w w' := by
  have hm := ver_made w 12 [6, 32, 58] 24 22 26 28 [(2, 92), (2, 93)] [(6, 36), (2, 37)] [(4, 20), (6, 21)] [(7, 14), (4, 15)] rfl (by decide) (by decide) (by decide) (by decide)
  go_enter Try.func22, Try.ntmps22
  go_wp2_with fail
  refine hm.mono ?_
  rintro e w1 ⟨p, rfl, h1, h2⟩
  have HV := Lib.hid (And.intro h1 h2); clear h1 h2 hm
  go_wp2
  go_ret
  exact ⟨p, rfl, HV.out.1, HV.out.2⟩

set_option maxRecDepth 100000 in
set_option maxHeartbeats 2000000 in
theorem ver_13 (w : World) : Calls Try.prog 22 #[.int .i64 13] w fun e w' => ∃ p, e = .returned (.pointer (some ⟨p, 0, none⟩)) ∧ VerAt w' p 13 ∧ Below w.heap.size w w' := by
  have hm := ver_made w 13 [6, 34, 62] 26 22 24 22 [(4, 107)] [(8, 37), (1, 38)] [(8, 20), (4, 21)] [(12, 11), (4, 12)] rfl (by decide) (by decide) (by decide) (by decide)
  go_enter Try.func22, Try.ntmps22
  go_wp2_with fail
  refine hm.mono ?_
  rintro e w1 ⟨p, rfl, h1, h2⟩
  have HV := Lib.hid (And.intro h1 h2); clear h1 h2 hm
  go_wp2
  go_ret
  exact ⟨p, rfl, HV.out.1, HV.out.2⟩

set_option maxRecDepth 100000 in
set_option maxHeartbeats 2000000 in
theorem ver_14 (w : World) : Calls Try.prog 22 #[.int .i64 14] w fun e w' => ∃ p, e = .returned (.pointer (some ⟨p, 0, none⟩)) ∧ VerAt w' p 14 ∧ Below w.heap.size w w' := by
  have hm := ver_made w 14 [6, 26, 46, 66] 30 24 20 24 [(3, 115), (1, 116)] [(4, 40), (5, 41)] [(11, 16), (5, 17)] [(11, 12), (5, 13)] rfl (by decide) (by decide) (by decide) (by decide)
  go_enter Try.func22, Try.ntmps22
  go_wp2_with fail
  refine hm.mono ?_
  rintro e w1 ⟨p, rfl, h1, h2⟩
  have HV := Lib.hid (And.intro h1 h2); clear h1 h2 hm
  go_wp2
  go_ret
  exact ⟨p, rfl, HV.out.1, HV.out.2⟩

set_option maxRecDepth 100000 in
set_option maxHeartbeats 2000000 in
theorem ver_15 (w : World) : Calls Try.prog 22 #[.int .i64 15] w fun e w' => ∃ p, e = .returned (.pointer (some ⟨p, 0, none⟩)) ∧ VerAt w' p 15 ∧ Below w.heap.size w w' := by
  have hm := ver_made w 15 [6, 26, 48, 70] 22 24 30 24 [(5, 87), (1, 88)] [(5, 41), (5, 42)] [(5, 24), (7, 25)] [(11, 12), (7, 13)] rfl (by decide) (by decide) (by decide) (by decide)
  go_enter Try.func22, Try.ntmps22
  go_wp2_with fail
  refine hm.mono ?_
  rintro e w1 ⟨p, rfl, h1, h2⟩
  have HV := Lib.hid (And.intro h1 h2); clear h1 h2 hm
  go_wp2
  go_ret
  exact ⟨p, rfl, HV.out.1, HV.out.2⟩

set_option maxRecDepth 100000 in
set_option maxHeartbeats 2000000 in
theorem ver_16 (w : World) : Calls Try.prog 22 #[.int .i64 16] w fun e w' => ∃ p, e = .returned (.pointer (some ⟨p, 0, none⟩)) ∧ VerAt w' p 16 ∧ Below w.heap.size w w' := by
  have hm := ver_made w 16 [6, 26, 50, 74] 24 28 24 30 [(5, 98), (1, 99)] [(7, 45), (3, 46)] [(15, 19), (2, 20)] [(3, 15), (13, 16)] rfl (by decide) (by decide) (by decide) (by decide)
  go_enter Try.func22, Try.ntmps22
  go_wp2_with fail
  refine hm.mono ?_
  rintro e w1 ⟨p, rfl, h1, h2⟩
  have HV := Lib.hid (And.intro h1 h2); clear h1 h2 hm
  go_wp2
  go_ret
  exact ⟨p, rfl, HV.out.1, HV.out.2⟩

set_option maxRecDepth 100000 in
set_option maxHeartbeats 2000000 in
theorem ver_17 (w : World) : Calls Try.prog 22 #[.int .i64 17] w fun e w' => ∃ p, e = .returned (.pointer (some ⟨p, 0, none⟩)) ∧ VerAt w' p 17 ∧ Below w.heap.size w w' := by
  have hm := ver_made w 17 [6, 30, 54, 78] 28 28 28 28 [(1, 107), (5, 108)] [(10, 46), (1, 47)] [(1, 22), (15, 23)] [(2, 14), (17, 15)] rfl (by decide) (by decide) (by decide) (by decide)
  go_enter Try.func22, Try.ntmps22
  go_wp2_with fail
  refine hm.mono ?_
  rintro e w1 ⟨p, rfl, h1, h2⟩
  have HV := Lib.hid (And.intro h1 h2); clear h1 h2 hm
  go_wp2
  go_ret
  exact ⟨p, rfl, HV.out.1, HV.out.2⟩

set_option maxRecDepth 100000 in
set_option maxHeartbeats 2000000 in
theorem ver_18 (w : World) : Calls Try.prog 22 #[.int .i64 18] w fun e w' => ∃ p, e = .returned (.pointer (some ⟨p, 0, none⟩)) ∧ VerAt w' p 18 ∧ Below w.heap.size w w' := by
  have hm := ver_made w 18 [6, 30, 56, 82] 30 26 28 28 [(5, 120), (1, 121)] [(9, 43), (4, 44)] [(17, 22), (1, 23)] [(2, 14), (19, 15)] rfl (by decide) (by decide) (by decide) (by decide)
  go_enter Try.func22, Try.ntmps22
  go_wp2_with fail
  refine hm.mono ?_
  rintro e w1 ⟨p, rfl, h1, h2⟩
  have HV := Lib.hid (And.intro h1 h2); clear h1 h2 hm
  go_wp2
  go_ret
  exact ⟨p, rfl, HV.out.1, HV.out.2⟩

set_option maxRecDepth 100000 in
set_option maxHeartbeats 2000000 in
theorem ver_19 (w : World) : Calls Try.prog 22 #[.int .i64 19] w fun e w' => ∃ p, e = .returned (.pointer (some ⟨p, 0, none⟩)) ∧ VerAt w' p 19 ∧ Below w.heap.size w w' := by
  have hm := ver_made w 19 [6, 30, 58, 86] 28 26 26 26 [(3, 113), (4, 114)] [(3, 44), (11, 45)] [(17, 21), (4, 22)] [(9, 13), (16, 14)] rfl (by decide) (by decide) (by decide) (by decide)
  go_enter Try.func22, Try.ntmps22
  go_wp2_with fail
  refine hm.mono ?_
  rintro e w1 ⟨p, rfl, h1, h2⟩
  have HV := Lib.hid (And.intro h1 h2); clear h1 h2 hm
  go_wp2
  go_ret
  exact ⟨p, rfl, HV.out.1, HV.out.2⟩

set_option maxRecDepth 100000 in
set_option maxHeartbeats 2000000 in
theorem ver_20 (w : World) : Calls Try.prog 22 #[.int .i64 20] w fun e w' => ∃ p, e = .returned (.pointer (some ⟨p, 0, none⟩)) ∧ VerAt w' p 20 ∧ Below w.heap.size w w' := by
  have hm := ver_made w 20 [6, 34, 62, 90] 28 26 30 28 [(3, 107), (5, 108)] [(3, 41), (13, 42)] [(15, 24), (5, 25)] [(15, 15), (10, 16)] rfl (by decide) (by decide) (by decide) (by decide)
  go_enter Try.func22, Try.ntmps22
  go_wp2_with fail
  refine hm.mono ?_
  rintro e w1 ⟨p, rfl, h1, h2⟩
  have HV := Lib.hid (And.intro h1 h2); clear h1 h2 hm
  go_wp2
  go_ret
  exact ⟨p, rfl, HV.out.1, HV.out.2⟩
end Go.Proofs.Ytjkfkkenaiodoaa
