/-
  WALKS: versions 1 to 10 are made.
-/
import Derived.Test.YtjkfkkenaiodoaaVf
namespace Go.Proofs.Ytjkfkkenaiodoaa
open Go.RowKit

set_option maxRecDepth 100000 in
set_option maxHeartbeats 2000000 in
theorem ver_1 (w : World) : Calls Try.prog 22 #[.int .i64 1] w fun e w' => ∃ p, e = .returned (.pointer (some ⟨p, 0, none⟩)) ∧ VerAt w' p 1 ∧ Below w.heap.size w w' := by
  have hm := ver_made w 1 [] 7 10 13 17 [(1, 19)] [(1, 16)] [(1, 13)] [(1, 9)] rfl (by decide) (by decide) (by decide) (by decide)
  go_enter Try.func22, Try.ntmps22
  go_wp2_with fail
  refine hm.mono ?_
  rintro e w1 ⟨p, rfl, h1, h2⟩
  have HV := Lib.hid (And.intro h1 h2); clear h1 h2 hm
  go_wp2
  go_ret
  exact ⟨p, rfl, HV.out.1, HV.out.2⟩

set_option maxRecDepth 100000 in
set_option maxHeartbeats 2000000 in
theorem ver_2 (w : World) : Calls Try.prog 22 #[.int .i64 2] w fun e w' => ∃ p, e = .returned (.pointer (some ⟨p, 0, none⟩)) ∧ VerAt w' p 2 ∧ Below w.heap.size w w' := by
  have hm := ver_made w 2 [6, 18] 10 16 22 28 [(1, 34)] [(1, 28)] [(1, 22)] [(1, 16)] rfl (by decide) (by decide) (by decide) (by decide)
  go_enter Try.func22, Try.ntmps22
  go_wp2_with fail
  refine hm.mono ?_
  rintro e w1 ⟨p, rfl, h1, h2⟩
  have HV := Lib.hid (And.intro h1 h2); clear h1 h2 hm
  go_wp2
  go_ret
  exact ⟨p, rfl, HV.out.1, HV.out.2⟩

set_option maxRecDepth 100000 in
set_option maxHeartbeats 2000000 in
theorem ver_3 (w : World) : Calls Try.prog 22 #[.int .i64 3] w fun e w' => ∃ p, e = .returned (.pointer (some ⟨p, 0, none⟩)) ∧ VerAt w' p 3 ∧ Below w.heap.size w w' := by
  have hm := ver_made w 3 [6, 22] 15 26 18 22 [(1, 55)] [(1, 44)] [(2, 17)] [(2, 13)] rfl (by decide) (by decide) (by decide) (by decide)
  go_enter Try.func22, Try.ntmps22
  go_wp2_with fail
  refine hm.mono ?_
  rintro e w1 ⟨p, rfl, h1, h2⟩
  have HV := Lib.hid (And.intro h1 h2); clear h1 h2 hm
  go_wp2
  go_ret
  exact ⟨p, rfl, HV.out.1, HV.out.2⟩

set_option maxRecDepth 100000 in
set_option maxHeartbeats 2000000 in
theorem ver_4 (w : World) : Calls Try.prog 22 #[.int .i64 4] w fun e w' => ∃ p, e = .returned (.pointer (some ⟨p, 0, none⟩)) ∧ VerAt w' p 4 ∧ Below w.heap.size w w' := by
  have hm := ver_made w 4 [6, 26] 20 18 26 16 [(1, 80)] [(2, 32)] [(2, 24)] [(4, 9)] rfl (by decide) (by decide) (by decide) (by decide)
  go_enter Try.func22, Try.ntmps22
  go_wp2_with fail
  refine hm.mono ?_
  rintro e w1 ⟨p, rfl, h1, h2⟩
  have HV := Lib.hid (And.intro h1 h2); clear h1 h2 hm
  go_wp2
  go_ret
  exact ⟨p, rfl, HV.out.1, HV.out.2⟩

set_option maxRecDepth 100000 in
set_option maxHeartbeats 2000000 in
theorem ver_5 (w : World) : Calls Try.prog 22 #[.int .i64 5] w fun e w' => ∃ p, e = .returned (.pointer (some ⟨p, 0, none⟩)) ∧ VerAt w' p 5 ∧ Below w.heap.size w w' := by
  have hm := ver_made w 5 [6, 30] 26 24 18 22 [(1, 108)] [(2, 43)] [(2, 15), (2, 16)] [(2, 11), (2, 12)] rfl (by decide) (by decide) (by decide) (by decide)
  go_enter Try.func22, Try.ntmps22
  go_wp2_with fail
  refine hm.mono ?_
  rintro e w1 ⟨p, rfl, h1, h2⟩
  have HV := Lib.hid (And.intro h1 h2); clear h1 h2 hm
  go_wp2
  go_ret
  exact ⟨p, rfl, HV.out.1, HV.out.2⟩

set_option maxRecDepth 100000 in
set_option maxHeartbeats 2000000 in
theorem ver_6 (w : World) : Calls Try.prog 22 #[.int .i64 6] w fun e w' => ∃ p, e = .returned (.pointer (some ⟨p, 0, none⟩)) ∧ VerAt w' p 6 ∧ Below w.heap.size w w' := by
  have hm := ver_made w 6 [6, 34] 18 16 24 28 [(2, 68)] [(4, 27)] [(4, 19)] [(4, 15)] rfl (by decide) (by decide) (by decide) (by decide)
  go_enter Try.func22, Try.ntmps22
  go_wp2_with fail
  refine hm.mono ?_
  rintro e w1 ⟨p, rfl, h1, h2⟩
  have HV := Lib.hid (And.intro h1 h2); clear h1 h2 hm
  go_wp2
  go_ret
  exact ⟨p, rfl, HV.out.1, HV.out.2⟩

set_option maxRecDepth 100000 in
set_option maxHeartbeats 2000000 in
theorem ver_7 (w : World) : Calls Try.prog 22 #[.int .i64 7] w fun e w' => ∃ p, e = .returned (.pointer (some ⟨p, 0, none⟩)) ∧ VerAt w' p 7 ∧ Below w.heap.size w w' := by
  have hm := ver_made w 7 [6, 22, 38] 20 18 18 26 [(2, 78)] [(4, 31)] [(2, 14), (4, 15)] [(4, 13), (1, 14)] rfl (by decide) (by decide) (by decide) (by decide)
  go_enter Try.func22, Try.ntmps22
  go_wp2_with fail
  refine hm.mono ?_
  rintro e w1 ⟨p, rfl, h1, h2⟩
  have HV := Lib.hid (And.intro h1 h2); clear h1 h2 hm
  go_wp2
  go_ret
  exact ⟨p, rfl, HV.out.1, HV.out.2⟩

set_option maxRecDepth 100000 in
set_option maxHeartbeats 2000000 in
theorem ver_8 (w : World) : Calls Try.prog 22 #[.int .i64 8] w fun e w' => ∃ p, e = .returned (.pointer (some ⟨p, 0, none⟩)) ∧ VerAt w' p 8 ∧ Below w.heap.size w w' := by
  have hm := ver_made w 8 [6, 24, 42] 24 22 22 26 [(2, 97)] [(2, 38), (2, 39)] [(4, 18), (2, 19)] [(4, 14), (2, 15)] rfl (by decide) (by decide) (by decide) (by decide)
  go_enter Try.func22, Try.ntmps22
  go_wp2_with fail
  refine hm.mono ?_
  rintro e w1 ⟨p, rfl, h1, h2⟩
  have HV := Lib.hid (And.intro h1 h2); clear h1 h2 hm
  go_wp2
  go_ret
  exact ⟨p, rfl, HV.out.1, HV.out.2⟩

set_option maxRecDepth 100000 in
set_option maxHeartbeats 2000000 in
theorem ver_9 (w : World) : Calls Try.prog 22 #[.int .i64 9] w fun e w' => ∃ p, e = .returned (.pointer (some ⟨p, 0, none⟩)) ∧ VerAt w' p 9 ∧ Below w.heap.size w w' := by
  have hm := ver_made w 9 [6, 26, 46] 30 22 20 24 [(2, 116)] [(3, 36), (2, 37)] [(4, 16), (4, 17)] [(4, 12), (4, 13)] rfl (by decide) (by decide) (by decide) (by decide)
  go_enter Try.func22, Try.ntmps22
  go_wp2_with fail
  refine hm.mono ?_
  rintro e w1 ⟨p, rfl, h1, h2⟩
  have HV := Lib.hid (And.intro h1 h2); clear h1 h2 hm
  go_wp2
  go_ret
  exact ⟨p, rfl, HV.out.1, HV.out.2⟩

set_option maxRecDepth 100000 in
set_option maxHeartbeats 2000000 in
theorem ver_10 (w : World) : Calls Try.prog 22 #[.int .i64 10] w fun e w' => ∃ p, e = .returned (.pointer (some ⟨p, 0, none⟩)) ∧ VerAt w' p 10 ∧ Below w.heap.size w w' := by
  have hm := ver_made w 10 [6, 28, 50] 18 26 24 28 [(2, 68), (2, 69)] [(4, 43), (1, 44)] [(6, 19), (2, 20)] [(6, 15), (2, 16)] rfl (by decide) (by decide) (by decide) (by decide)
  go_enter Try.func22, Try.ntmps22
  go_wp2_with fail
  refine hm.mono ?_
  rintro e w1 ⟨p, rfl, h1, h2⟩
  have HV := Lib.hid (And.intro h1 h2); clear h1 h2 hm
  go_wp2
  go_ret
  exact ⟨p, rfl, HV.out.1, HV.out.2⟩
end Go.Proofs.Ytjkfkkenaiodoaa
