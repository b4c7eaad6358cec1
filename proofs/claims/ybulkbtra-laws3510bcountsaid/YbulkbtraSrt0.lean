/-
  THE SORT AT uint32 (slices.Sort[[]uint32,uint32] and what it calls), over this seat's program: cmp.isNaN, cmp.Less.
  Turned from the guide's own walks over []int (Derived.Sort.Walk0; toys/so): this program's numbers, the element's kind u32. The plain lemmas are imported.
-/
import Derived.Test.YbulkbtraProg
import Derived.Sort.Walk0
namespace Go.Proofs.Ybulkbtra
open Go.Sort

abbrev encU : Int → Value := fun x => Value.int .u32 x

set_option maxHeartbeats 1000000 in
theorem u32_cmp_isNaN (x : Int) (w : World) : Calls Yba.prog 28 #[.int .u32 x] w fun e w' => e = .returned (.bool false) ∧ w' = w := by
  go_enter Yba.func28, Yba.ntmps28
  go_wp2
  go_ret
  exact ⟨by simp, rfl⟩

set_option maxHeartbeats 1000000 in
theorem u32_cmp_Less (x y : Int) (w : World) : Calls Yba.prog 17 #[.int .u32 x, .int .u32 y] w fun e w' => e = .returned (.bool (Sort.ltInt x y)) ∧ w' = w := by
  go_enter Yba.func17, Yba.ntmps17
  go_wp2_with (go_at_call 28; refine (u32_cmp_isNaN _ _).mono ?_; rintro e w' ⟨rfl, rfl⟩)
  go_ret
  exact ⟨rfl, rfl⟩

end Go.Proofs.Ybulkbtra
