import Derived.Test.YbulkuyiProg
import Derived.Test.YbulkuyiBits
import Derived.WalkKit
import Derived.WalkSpells
import Derived.WalkLawsBesides
import Derived.KernelRfl
namespace Go.Proofs.Ybulkuyi.Fast
open Go.RowKit

set_option maxRecDepth 100000 in
set_option maxHeartbeats 1000000 in
/-- The numerator is zero. -/
theorem walk_zero (den : Int) (m : Bool) (w : World) :
    Calls Yba.prog 3 #[.int .u64 0, .int .u64 0, .int .u64 den, .bool m] w fun e w' => e = .returned (.bool true) ∧ Grown w w' := by
  have hor : (bits .or .u64 0 0 == 0) = true := SignBit.or_zero 0 0 (by omega) (by omega) (by omega) (by omega)
  cases m
  · go_enter Yba.func3, Yba.ntmps3
    go_wp2
    go_ret
    exact ⟨rfl, by repeat (first | exact Grown.refl _ | apply Grown.drew | apply Grown.alloc)⟩
  · go_enter Yba.func3, Yba.ntmps3
    go_wp2
    go_ret
    exact ⟨rfl, by repeat (first | exact Grown.refl _ | apply Grown.drew | apply Grown.alloc)⟩

theorem sbit : BitVec.ofInt 64 9223372036854775808 ≠ 0#64 := by decide

set_option maxRecDepth 100000 in
set_option maxHeartbeats 1000000 in
/-- The numerator is not zero. -/
theorem walk_pos (hi lo den : Int) (m : Bool) (w : World) (hor : (bits .or .u64 hi lo == 0) = false) (hz : (hi == 0) = false ∨ (hi == 0) = true ∧ (lo == 0) = false) :
    Calls Yba.prog 3 #[.int .u64 hi, .int .u64 lo, .int .u64 den, .bool m] w fun e w' => e = .returned (.bool true) ∧ Grown w w' := by
  cases m
  · rcases hz with hz | ⟨hz, lz⟩
    · go_enter Yba.func3, Yba.ntmps3
      go_wp2
      · rename_i hs
        rw [SignBit.unseen] at hs
        cases hs
      · go_ret
        exact ⟨rfl, by repeat (first | exact Grown.refl _ | apply Grown.drew | apply Grown.alloc)⟩
    · go_enter Yba.func3, Yba.ntmps3
      go_wp2
      · rename_i hs
        rw [SignBit.unseen] at hs
        cases hs
      · go_ret
        exact ⟨rfl, by repeat (first | exact Grown.refl _ | apply Grown.drew | apply Grown.alloc)⟩
  · rcases hz with hz | ⟨hz, lz⟩
    · go_enter Yba.func3, Yba.ntmps3
      go_wp2
      · go_ret
        exact ⟨rfl, by repeat (first | exact Grown.refl _ | apply Grown.drew | apply Grown.alloc)⟩
      · rename_i hs
        rw [SignBit.seen _ _ sbit] at hs
        cases hs
    · go_enter Yba.func3, Yba.ntmps3
      go_wp2
      · go_ret
        exact ⟨rfl, by repeat (first | exact Grown.refl _ | apply Grown.drew | apply Grown.alloc)⟩
      · rename_i hs
        rw [SignBit.seen _ _ sbit] at hs
        cases hs

end Go.Proofs.Ybulkuyi.Fast
