/-
  WALKS: versions 31 to 40 are made.
-/
import Derived.Test.YtjkfkkenaiodoaaVf
namespace Go.Proofs.Ytjkfkkenaiodoaa
open Go.RowKit

set_option maxRecDepth 100000 in
set_option maxHeartbeats 2000000 in
theorem ver_31 (w : World) : Calls Try.prog 22 #[.int .i64 31] w fun e w' => ∃ p, e = .returned (.pointer (some ⟨p, 0, none⟩)) ∧ VerAt w' p 31 ∧ Below w.heap.size w w' := by
  have hm := ver_made w 31 [6, 30, 56, 82, 108, 134] 30 28 30 30 [(13, 115), (3, 116)] [(2, 46), (29, 47)] [(42, 24), (1, 25)] [(23, 15), (28, 16)] rfl (by decide) (by decide) (by decide) (by decide)
  go_enter Try.func22, Try.ntmps22
  go_wp2_with fail
  refine hm.mono ?_
  rintro e w1 ⟨p, rfl, h1, h2⟩
  have HV := Lib.hid (And.intro h1 h2); clear h1 h2 hm
  go_wp2
  go_ret
  exact ⟨p, rfl, HV.out.1, HV.out.2⟩

set_option maxRecDepth 100000 in
set_option maxHeartbeats 2000000 in
theorem ver_32 (w : World) : Calls Try.prog 22 #[.int .i64 32] w fun e w' => ∃ p, e = .returned (.pointer (some ⟨p, 0, none⟩)) ∧ VerAt w' p 32 ∧ Below w.heap.size w w' := by
  have hm := ver_made w 32 [6, 34, 60, 86, 112, 138] 30 28 30 30 [(17, 115)] [(10, 46), (23, 47)] [(10, 24), (35, 25)] [(19, 15), (35, 16)] rfl (by decide) (by decide) (by decide) (by decide)
  go_enter Try.func22, Try.ntmps22
  go_wp2_with fail
  refine hm.mono ?_
  rintro e w1 ⟨p, rfl, h1, h2⟩
  have HV := Lib.hid (And.intro h1 h2); clear h1 h2 hm
  go_wp2
  go_ret
  exact ⟨p, rfl, HV.out.1, HV.out.2⟩

set_option maxRecDepth 100000 in
set_option maxHeartbeats 2000000 in
theorem ver_33 (w : World) : Calls Try.prog 22 #[.int .i64 33] w fun e w' => ∃ p, e = .returned (.pointer (some ⟨p, 0, none⟩)) ∧ VerAt w' p 33 ∧ Below w.heap.size w w' := by
  have hm := ver_made w 33 [6, 30, 58, 86, 114, 142] 30 28 30 30 [(17, 115), (1, 116)] [(14, 46), (21, 47)] [(29, 24), (19, 25)] [(11, 15), (46, 16)] rfl (by decide) (by decide) (by decide) (by decide)
  go_enter Try.func22, Try.ntmps22
  go_wp2_with fail
  refine hm.mono ?_
  rintro e w1 ⟨p, rfl, h1, h2⟩
  have HV := Lib.hid (And.intro h1 h2); clear h1 h2 hm
  go_wp2
  go_ret
  exact ⟨p, rfl, HV.out.1, HV.out.2⟩

set_option maxRecDepth 100000 in
set_option maxHeartbeats 2000000 in
theorem ver_34 (w : World) : Calls Try.prog 22 #[.int .i64 34] w fun e w' => ∃ p, e = .returned (.pointer (some ⟨p, 0, none⟩)) ∧ VerAt w' p 34 ∧ Below w.heap.size w w' := by
  have hm := ver_made w 34 [6, 34, 62, 90, 118, 146] 30 28 30 30 [(13, 115), (6, 116)] [(14, 46), (23, 47)] [(44, 24), (7, 25)] [(59, 16), (1, 17)] rfl (by decide) (by decide) (by decide) (by decide)
  go_enter Try.func22, Try.ntmps22
  go_wp2_with fail
  refine hm.mono ?_
  rintro e w1 ⟨p, rfl, h1, h2⟩
  have HV := Lib.hid (And.intro h1 h2); clear h1 h2 hm
  go_wp2
  go_ret
  exact ⟨p, rfl, HV.out.1, HV.out.2⟩

set_option maxRecDepth 100000 in
set_option maxHeartbeats 2000000 in
theorem ver_35 (w : World) : Calls Try.prog 22 #[.int .i64 35] w fun e w' => ∃ p, e = .returned (.pointer (some ⟨p, 0, none⟩)) ∧ VerAt w' p 35 ∧ Below w.heap.size w w' := by
  have hm := ver_made w 35 [6, 30, 54, 78, 102, 126, 150] 30 28 30 30 [(12, 121), (7, 122)] [(12, 47), (26, 48)] [(39, 24), (14, 25)] [(22, 15), (41, 16)] rfl (by decide) (by decide) (by decide) (by decide)
  go_enter Try.func22, Try.ntmps22
  go_wp2_with fail
  refine hm.mono ?_
  rintro e w1 ⟨p, rfl, h1, h2⟩
  have HV := Lib.hid (And.intro h1 h2); clear h1 h2 hm
  go_wp2
  go_ret
  exact ⟨p, rfl, HV.out.1, HV.out.2⟩

set_option maxRecDepth 100000 in
set_option maxHeartbeats 2000000 in
theorem ver_36 (w : World) : Calls Try.prog 22 #[.int .i64 36] w fun e w' => ∃ p, e = .returned (.pointer (some ⟨p, 0, none⟩)) ∧ VerAt w' p 36 ∧ Below w.heap.size w w' := by
  have hm := ver_made w 36 [6, 24, 50, 76, 102, 128, 154] 30 28 30 30 [(6, 121), (14, 122)] [(6, 47), (34, 48)] [(46, 24), (10, 25)] [(2, 15), (64, 16)] rfl (by decide) (by decide) (by decide) (by decide)
  go_enter Try.func22, Try.ntmps22
  go_wp2_with fail
  refine hm.mono ?_
  rintro e w1 ⟨p, rfl, h1, h2⟩
  have HV := Lib.hid (And.intro h1 h2); clear h1 h2 hm
  go_wp2
  go_ret
  exact ⟨p, rfl, HV.out.1, HV.out.2⟩

set_option maxRecDepth 100000 in
set_option maxHeartbeats 2000000 in
theorem ver_37 (w : World) : Calls Try.prog 22 #[.int .i64 37] w fun e w' => ∃ p, e = .returned (.pointer (some ⟨p, 0, none⟩)) ∧ VerAt w' p 37 ∧ Below w.heap.size w w' := by
  have hm := ver_made w 37 [6, 28, 54, 80, 106, 132, 158] 30 28 30 30 [(17, 122), (4, 123)] [(29, 46), (14, 47)] [(49, 24), (10, 25)] [(24, 15), (46, 16)] rfl (by decide) (by decide) (by decide) (by decide)
  go_enter Try.func22, Try.ntmps22
  go_wp2_with fail
  refine hm.mono ?_
  rintro e w1 ⟨p, rfl, h1, h2⟩
  have HV := Lib.hid (And.intro h1 h2); clear h1 h2 hm
  go_wp2
  go_ret
  exact ⟨p, rfl, HV.out.1, HV.out.2⟩

set_option maxRecDepth 100000 in
set_option maxHeartbeats 2000000 in
theorem ver_38 (w : World) : Calls Try.prog 22 #[.int .i64 38] w fun e w' => ∃ p, e = .returned (.pointer (some ⟨p, 0, none⟩)) ∧ VerAt w' p 38 ∧ Below w.heap.size w w' := by
  have hm := ver_made w 38 [6, 32, 58, 84, 110, 136, 162] 30 28 30 30 [(4, 122), (18, 123)] [(13, 46), (32, 47)] [(48, 24), (14, 25)] [(42, 15), (32, 16)] rfl (by decide) (by decide) (by decide) (by decide)
  go_enter Try.func22, Try.ntmps22
  go_wp2_with fail
  refine hm.mono ?_
  rintro e w1 ⟨p, rfl, h1, h2⟩
  have HV := Lib.hid (And.intro h1 h2); clear h1 h2 hm
  go_wp2
  go_ret
  exact ⟨p, rfl, HV.out.1, HV.out.2⟩

set_option maxRecDepth 100000 in
set_option maxHeartbeats 2000000 in
theorem ver_39 (w : World) : Calls Try.prog 22 #[.int .i64 39] w fun e w' => ∃ p, e = .returned (.pointer (some ⟨p, 0, none⟩)) ∧ VerAt w' p 39 ∧ Below w.heap.size w w' := by
  have hm := ver_made w 39 [6, 26, 54, 82, 110, 138, 166] 30 28 30 30 [(20, 117), (4, 118)] [(40, 47), (7, 48)] [(43, 24), (22, 25)] [(10, 15), (67, 16)] rfl (by decide) (by decide) (by decide) (by decide)
  go_enter Try.func22, Try.ntmps22
  go_wp2_with fail
  refine hm.mono ?_
  rintro e w1 ⟨p, rfl, h1, h2⟩
  have HV := Lib.hid (And.intro h1 h2); clear h1 h2 hm
  go_wp2
  go_ret
  exact ⟨p, rfl, HV.out.1, HV.out.2⟩

set_option maxRecDepth 100000 in
set_option maxHeartbeats 2000000 in
theorem ver_40 (w : World) : Calls Try.prog 22 #[.int .i64 40] w fun e w' => ∃ p, e = .returned (.pointer (some ⟨p, 0, none⟩)) ∧ VerAt w' p 40 ∧ Below w.heap.size w w' := by
  have hm := ver_made w 40 [6, 30, 58, 86, 114, 142, 170] 30 28 30 30 [(19, 118), (6, 119)] [(18, 47), (31, 48)] [(34, 24), (34, 25)] [(20, 15), (61, 16)] rfl (by decide) (by decide) (by decide) (by decide)
  go_enter Try.func22, Try.ntmps22
  go_wp2_with fail
  refine hm.mono ?_
  rintro e w1 ⟨p, rfl, h1, h2⟩
  have HV := Lib.hid (And.intro h1 h2); clear h1 h2 hm
  go_wp2
  go_ret
  exact ⟨p, rfl, HV.out.1, HV.out.2⟩
end Go.Proofs.Ytjkfkkenaiodoaa
