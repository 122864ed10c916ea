/-
  WALKS: versions 21 to 30 are made.
-/
import Derived.Test.YtjkfkkenaiodoaaVf
namespace Go.Proofs.Ytjkfkkenaiodoaa
open Go.RowKit

set_option maxRecDepth 100000 in
set_option maxHeartbeats 2000000 in
theorem ver_21 (w : World) : Calls Try.prog 22 #[.int .i64 21] w fun e w' => ∃ p, e = .returned (.pointer (some ⟨p, 0, none⟩)) ∧ VerAt w' p 21 ∧ Below w.heap.size w w' := by
  have hm := ver_made w 21 [6, 28, 50, 72, 94] 28 26 28 30 [(4, 116), (4, 117)] [(17, 42)] [(17, 22), (6, 23)] [(19, 16), (6, 17)] rfl (by decide) (by decide) (by decide) (by decide)
  go_enter Try.func22, Try.ntmps22
  go_wp2_with fail
  refine hm.mono ?_
  rintro e w1 ⟨p, rfl, h1, h2⟩
  have HV := Lib.hid (And.intro h1 h2); clear h1 h2 hm
  go_wp2
  go_ret
  exact ⟨p, rfl, HV.out.1, HV.out.2⟩

set_option maxRecDepth 100000 in
set_option maxHeartbeats 2000000 in
theorem ver_22 (w : World) : Calls Try.prog 22 #[.int .i64 22] w fun e w' => ∃ p, e = .returned (.pointer (some ⟨p, 0, none⟩)) ∧ VerAt w' p 22 ∧ Below w.heap.size w w' := by
  have hm := ver_made w 22 [6, 26, 50, 74, 98] 28 28 30 24 [(2, 111), (7, 112)] [(17, 46)] [(7, 24), (16, 25)] [(34, 13)] rfl (by decide) (by decide) (by decide) (by decide)
  go_enter Try.func22, Try.ntmps22
  go_wp2_with fail
  refine hm.mono ?_
  rintro e w1 ⟨p, rfl, h1, h2⟩
  have HV := Lib.hid (And.intro h1 h2); clear h1 h2 hm
  go_wp2
  go_ret
  exact ⟨p, rfl, HV.out.1, HV.out.2⟩

set_option maxRecDepth 100000 in
set_option maxHeartbeats 2000000 in
theorem ver_23 (w : World) : Calls Try.prog 22 #[.int .i64 23] w fun e w' => ∃ p, e = .returned (.pointer (some ⟨p, 0, none⟩)) ∧ VerAt w' p 23 ∧ Below w.heap.size w w' := by
  have hm := ver_made w 23 [6, 30, 54, 78, 102] 30 28 30 30 [(4, 121), (5, 122)] [(4, 47), (14, 48)] [(11, 24), (14, 25)] [(16, 15), (14, 16)] rfl (by decide) (by decide) (by decide) (by decide)
  go_enter Try.func22, Try.ntmps22
  go_wp2_with fail
  refine hm.mono ?_
  rintro e w1 ⟨p, rfl, h1, h2⟩
  have HV := Lib.hid (And.intro h1 h2); clear h1 h2 hm
  go_wp2
  go_ret
  exact ⟨p, rfl, HV.out.1, HV.out.2⟩

set_option maxRecDepth 100000 in
set_option maxHeartbeats 2000000 in
theorem ver_24 (w : World) : Calls Try.prog 22 #[.int .i64 24] w fun e w' => ∃ p, e = .returned (.pointer (some ⟨p, 0, none⟩)) ∧ VerAt w' p 24 ∧ Below w.heap.size w w' := by
  have hm := ver_made w 24 [6, 28, 54, 80, 106] 30 28 30 30 [(6, 117), (4, 118)] [(6, 45), (14, 46)] [(11, 24), (16, 25)] [(30, 16), (2, 17)] rfl (by decide) (by decide) (by decide) (by decide)
  go_enter Try.func22, Try.ntmps22
  go_wp2_with fail
  refine hm.mono ?_
  rintro e w1 ⟨p, rfl, h1, h2⟩
  have HV := Lib.hid (And.intro h1 h2); clear h1 h2 hm
  go_wp2
  go_ret
  exact ⟨p, rfl, HV.out.1, HV.out.2⟩

set_option maxRecDepth 100000 in
set_option maxHeartbeats 2000000 in
theorem ver_25 (w : World) : Calls Try.prog 22 #[.int .i64 25] w fun e w' => ∃ p, e = .returned (.pointer (some ⟨p, 0, none⟩)) ∧ VerAt w' p 25 ∧ Below w.heap.size w w' := by
  have hm := ver_made w 25 [6, 32, 58, 84, 110] 26 28 30 30 [(8, 106), (4, 107)] [(8, 47), (13, 48)] [(7, 24), (22, 25)] [(22, 15), (13, 16)] rfl (by decide) (by decide) (by decide) (by decide)
  go_enter Try.func22, Try.ntmps22
  go_wp2_with fail
  refine hm.mono ?_
  rintro e w1 ⟨p, rfl, h1, h2⟩
  have HV := Lib.hid (And.intro h1 h2); clear h1 h2 hm
  go_wp2
  go_ret
  exact ⟨p, rfl, HV.out.1, HV.out.2⟩

set_option maxRecDepth 100000 in
set_option maxHeartbeats 2000000 in
theorem ver_26 (w : World) : Calls Try.prog 22 #[.int .i64 26] w fun e w' => ∃ p, e = .returned (.pointer (some ⟨p, 0, none⟩)) ∧ VerAt w' p 26 ∧ Below w.heap.size w w' := by
  have hm := ver_made w 26 [6, 30, 58, 86, 114] 28 28 28 30 [(10, 114), (2, 115)] [(19, 46), (4, 47)] [(28, 22), (6, 23)] [(33, 16), (4, 17)] rfl (by decide) (by decide) (by decide) (by decide)
  go_enter Try.func22, Try.ntmps22
  go_wp2_with fail
  refine hm.mono ?_
  rintro e w1 ⟨p, rfl, h1, h2⟩
  have HV := Lib.hid (And.intro h1 h2); clear h1 h2 hm
  go_wp2
  go_ret
  exact ⟨p, rfl, HV.out.1, HV.out.2⟩

set_option maxRecDepth 100000 in
set_option maxHeartbeats 2000000 in
theorem ver_27 (w : World) : Calls Try.prog 22 #[.int .i64 27] w fun e w' => ∃ p, e = .returned (.pointer (some ⟨p, 0, none⟩)) ∧ VerAt w' p 27 ∧ Below w.heap.size w w' := by
  have hm := ver_made w 27 [6, 34, 62, 90, 118] 30 28 30 30 [(8, 122), (4, 123)] [(22, 45), (3, 46)] [(8, 23), (26, 24)] [(12, 15), (28, 16)] rfl (by decide) (by decide) (by decide) (by decide)
  go_enter Try.func22, Try.ntmps22
  go_wp2_with fail
  refine hm.mono ?_
  rintro e w1 ⟨p, rfl, h1, h2⟩
  have HV := Lib.hid (And.intro h1 h2); clear h1 h2 hm
  go_wp2
  go_ret
  exact ⟨p, rfl, HV.out.1, HV.out.2⟩

set_option maxRecDepth 100000 in
set_option maxHeartbeats 2000000 in
theorem ver_28 (w : World) : Calls Try.prog 22 #[.int .i64 28] w fun e w' => ∃ p, e = .returned (.pointer (some ⟨p, 0, none⟩)) ∧ VerAt w' p 28 ∧ Below w.heap.size w w' := by
  have hm := ver_made w 28 [6, 26, 50, 74, 98, 122] 30 28 30 30 [(3, 117), (10, 118)] [(3, 45), (23, 46)] [(4, 24), (31, 25)] [(11, 15), (31, 16)] rfl (by decide) (by decide) (by decide) (by decide)
  go_enter Try.func22, Try.ntmps22
  go_wp2_with fail
  refine hm.mono ?_
  rintro e w1 ⟨p, rfl, h1, h2⟩
  have HV := Lib.hid (And.intro h1 h2); clear h1 h2 hm
  go_wp2
  go_ret
  exact ⟨p, rfl, HV.out.1, HV.out.2⟩

set_option maxRecDepth 100000 in
set_option maxHeartbeats 2000000 in
theorem ver_29 (w : World) : Calls Try.prog 22 #[.int .i64 29] w fun e w' => ∃ p, e = .returned (.pointer (some ⟨p, 0, none⟩)) ∧ VerAt w' p 29 ∧ Below w.heap.size w w' := by
  have hm := ver_made w 29 [6, 30, 54, 78, 102, 126] 30 28 30 30 [(7, 116), (7, 117)] [(21, 45), (7, 46)] [(1, 23), (37, 24)] [(19, 15), (26, 16)] rfl (by decide) (by decide) (by decide) (by decide)
  go_enter Try.func22, Try.ntmps22
  go_wp2_with fail
  refine hm.mono ?_
  rintro e w1 ⟨p, rfl, h1, h2⟩
  have HV := Lib.hid (And.intro h1 h2); clear h1 h2 hm
  go_wp2
  go_ret
  exact ⟨p, rfl, HV.out.1, HV.out.2⟩

set_option maxRecDepth 100000 in
set_option maxHeartbeats 2000000 in
theorem ver_30 (w : World) : Calls Try.prog 22 #[.int .i64 30] w fun e w' => ∃ p, e = .returned (.pointer (some ⟨p, 0, none⟩)) ∧ VerAt w' p 30 ∧ Below w.heap.size w w' := by
  have hm := ver_made w 30 [6, 26, 52, 78, 104, 130] 30 28 30 30 [(5, 115), (10, 116)] [(19, 47), (10, 48)] [(15, 24), (25, 25)] [(23, 15), (25, 16)] rfl (by decide) (by decide) (by decide) (by decide)
  go_enter Try.func22, Try.ntmps22
  go_wp2_with fail
  refine hm.mono ?_
  rintro e w1 ⟨p, rfl, h1, h2⟩
  have HV := Lib.hid (And.intro h1 h2); clear h1 h2 hm
  go_wp2
  go_ret
  exact ⟨p, rfl, HV.out.1, HV.out.2⟩
end Go.Proofs.Ytjkfkkenaiodoaa
