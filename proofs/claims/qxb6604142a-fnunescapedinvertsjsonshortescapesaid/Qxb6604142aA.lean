import Derived.Test.Qxb6604142aRows
import Derived.WalkKit
import Derived.WalkSpells
import Derived.WalkLawsBesides
namespace Go.Proofs.Qxb6604142a
open Go.RowKit
set_option linter.unusedVariables false

set_option maxHeartbeats 1000000 in
theorem law34 (w : World) : Calls Try.prog 4 #[.int .u8 34] w fun e w' => e = .returned (.bool true) ∧ w' = w := by
  have b0 : ((({ data := #[34, 92, 47, 98, 102, 110, 114, 116] } : ByteArray)[0]'(by decide)).toNat : Int) = 34 := rfl
  have b1 : ((({ data := #[34, 92, 47, 98, 102, 110, 114, 116] } : ByteArray)[1]'(by decide)).toNat : Int) = 92 := rfl
  have b2 : ((({ data := #[34, 92, 47, 98, 102, 110, 114, 116] } : ByteArray)[2]'(by decide)).toNat : Int) = 47 := rfl
  have b3 : ((({ data := #[34, 92, 47, 98, 102, 110, 114, 116] } : ByteArray)[3]'(by decide)).toNat : Int) = 98 := rfl
  have b4 : ((({ data := #[34, 92, 47, 98, 102, 110, 114, 116] } : ByteArray)[4]'(by decide)).toNat : Int) = 102 := rfl
  have b5 : ((({ data := #[34, 92, 47, 98, 102, 110, 114, 116] } : ByteArray)[5]'(by decide)).toNat : Int) = 110 := rfl
  have b6 : ((({ data := #[34, 92, 47, 98, 102, 110, 114, 116] } : ByteArray)[6]'(by decide)).toNat : Int) = 114 := rfl
  have b7 : ((({ data := #[34, 92, 47, 98, 102, 110, 114, 116] } : ByteArray)[7]'(by decide)).toNat : Int) = 116 := rfl
  go_enter Try.func4, Try.ntmps4
  go_wp2
  refine wp_loop_rounds 9 ?_
  rw [rounds_succ]
  go_wp2
  rw [rounds_succ]
  go_wp2
  rw [rounds_succ]
  go_wp2
  rw [rounds_succ]
  go_wp2
  rw [rounds_succ]
  go_wp2
  rw [rounds_succ]
  go_wp2
  rw [rounds_succ]
  go_wp2
  rw [rounds_succ]
  go_wp2
  rw [rounds_succ]
  go_wp2
  go_ret
  exact ⟨rfl, rfl⟩

set_option maxHeartbeats 1000000 in
theorem law92 (w : World) : Calls Try.prog 4 #[.int .u8 92] w fun e w' => e = .returned (.bool true) ∧ w' = w := by
  have b0 : ((({ data := #[34, 92, 47, 98, 102, 110, 114, 116] } : ByteArray)[0]'(by decide)).toNat : Int) = 34 := rfl
  have b1 : ((({ data := #[34, 92, 47, 98, 102, 110, 114, 116] } : ByteArray)[1]'(by decide)).toNat : Int) = 92 := rfl
  have b2 : ((({ data := #[34, 92, 47, 98, 102, 110, 114, 116] } : ByteArray)[2]'(by decide)).toNat : Int) = 47 := rfl
  have b3 : ((({ data := #[34, 92, 47, 98, 102, 110, 114, 116] } : ByteArray)[3]'(by decide)).toNat : Int) = 98 := rfl
  have b4 : ((({ data := #[34, 92, 47, 98, 102, 110, 114, 116] } : ByteArray)[4]'(by decide)).toNat : Int) = 102 := rfl
  have b5 : ((({ data := #[34, 92, 47, 98, 102, 110, 114, 116] } : ByteArray)[5]'(by decide)).toNat : Int) = 110 := rfl
  have b6 : ((({ data := #[34, 92, 47, 98, 102, 110, 114, 116] } : ByteArray)[6]'(by decide)).toNat : Int) = 114 := rfl
  have b7 : ((({ data := #[34, 92, 47, 98, 102, 110, 114, 116] } : ByteArray)[7]'(by decide)).toNat : Int) = 116 := rfl
  go_enter Try.func4, Try.ntmps4
  go_wp2
  refine wp_loop_rounds 9 ?_
  rw [rounds_succ]
  go_wp2
  rw [rounds_succ]
  go_wp2
  rw [rounds_succ]
  go_wp2
  rw [rounds_succ]
  go_wp2
  rw [rounds_succ]
  go_wp2
  rw [rounds_succ]
  go_wp2
  rw [rounds_succ]
  go_wp2
  rw [rounds_succ]
  go_wp2
  rw [rounds_succ]
  go_wp2
  go_ret
  exact ⟨rfl, rfl⟩

set_option maxHeartbeats 1000000 in
theorem law47 (w : World) : Calls Try.prog 4 #[.int .u8 47] w fun e w' => e = .returned (.bool true) ∧ w' = w := by
  have b0 : ((({ data := #[34, 92, 47, 98, 102, 110, 114, 116] } : ByteArray)[0]'(by decide)).toNat : Int) = 34 := rfl
  have b1 : ((({ data := #[34, 92, 47, 98, 102, 110, 114, 116] } : ByteArray)[1]'(by decide)).toNat : Int) = 92 := rfl
  have b2 : ((({ data := #[34, 92, 47, 98, 102, 110, 114, 116] } : ByteArray)[2]'(by decide)).toNat : Int) = 47 := rfl
  have b3 : ((({ data := #[34, 92, 47, 98, 102, 110, 114, 116] } : ByteArray)[3]'(by decide)).toNat : Int) = 98 := rfl
  have b4 : ((({ data := #[34, 92, 47, 98, 102, 110, 114, 116] } : ByteArray)[4]'(by decide)).toNat : Int) = 102 := rfl
  have b5 : ((({ data := #[34, 92, 47, 98, 102, 110, 114, 116] } : ByteArray)[5]'(by decide)).toNat : Int) = 110 := rfl
  have b6 : ((({ data := #[34, 92, 47, 98, 102, 110, 114, 116] } : ByteArray)[6]'(by decide)).toNat : Int) = 114 := rfl
  have b7 : ((({ data := #[34, 92, 47, 98, 102, 110, 114, 116] } : ByteArray)[7]'(by decide)).toNat : Int) = 116 := rfl
  go_enter Try.func4, Try.ntmps4
  go_wp2
  refine wp_loop_rounds 9 ?_
  rw [rounds_succ]
  go_wp2
  rw [rounds_succ]
  go_wp2
  rw [rounds_succ]
  go_wp2
  rw [rounds_succ]
  go_wp2
  rw [rounds_succ]
  go_wp2
  rw [rounds_succ]
  go_wp2
  rw [rounds_succ]
  go_wp2
  rw [rounds_succ]
  go_wp2
  rw [rounds_succ]
  go_wp2
  go_ret
  exact ⟨rfl, rfl⟩

set_option maxHeartbeats 1000000 in
theorem law8 (w : World) : Calls Try.prog 4 #[.int .u8 8] w fun e w' => e = .returned (.bool true) ∧ w' = w := by
  have b0 : ((({ data := #[34, 92, 47, 98, 102, 110, 114, 116] } : ByteArray)[0]'(by decide)).toNat : Int) = 34 := rfl
  have b1 : ((({ data := #[34, 92, 47, 98, 102, 110, 114, 116] } : ByteArray)[1]'(by decide)).toNat : Int) = 92 := rfl
  have b2 : ((({ data := #[34, 92, 47, 98, 102, 110, 114, 116] } : ByteArray)[2]'(by decide)).toNat : Int) = 47 := rfl
  have b3 : ((({ data := #[34, 92, 47, 98, 102, 110, 114, 116] } : ByteArray)[3]'(by decide)).toNat : Int) = 98 := rfl
  have b4 : ((({ data := #[34, 92, 47, 98, 102, 110, 114, 116] } : ByteArray)[4]'(by decide)).toNat : Int) = 102 := rfl
  have b5 : ((({ data := #[34, 92, 47, 98, 102, 110, 114, 116] } : ByteArray)[5]'(by decide)).toNat : Int) = 110 := rfl
  have b6 : ((({ data := #[34, 92, 47, 98, 102, 110, 114, 116] } : ByteArray)[6]'(by decide)).toNat : Int) = 114 := rfl
  have b7 : ((({ data := #[34, 92, 47, 98, 102, 110, 114, 116] } : ByteArray)[7]'(by decide)).toNat : Int) = 116 := rfl
  go_enter Try.func4, Try.ntmps4
  go_wp2
  refine wp_loop_rounds 9 ?_
  rw [rounds_succ]
  go_wp2
  rw [rounds_succ]
  go_wp2
  rw [rounds_succ]
  go_wp2
  rw [rounds_succ]
  go_wp2
  rw [rounds_succ]
  go_wp2
  rw [rounds_succ]
  go_wp2
  rw [rounds_succ]
  go_wp2
  rw [rounds_succ]
  go_wp2
  rw [rounds_succ]
  go_wp2
  go_ret
  exact ⟨rfl, rfl⟩

set_option maxHeartbeats 1000000 in
theorem law12 (w : World) : Calls Try.prog 4 #[.int .u8 12] w fun e w' => e = .returned (.bool true) ∧ w' = w := by
  have b0 : ((({ data := #[34, 92, 47, 98, 102, 110, 114, 116] } : ByteArray)[0]'(by decide)).toNat : Int) = 34 := rfl
  have b1 : ((({ data := #[34, 92, 47, 98, 102, 110, 114, 116] } : ByteArray)[1]'(by decide)).toNat : Int) = 92 := rfl
  have b2 : ((({ data := #[34, 92, 47, 98, 102, 110, 114, 116] } : ByteArray)[2]'(by decide)).toNat : Int) = 47 := rfl
  have b3 : ((({ data := #[34, 92, 47, 98, 102, 110, 114, 116] } : ByteArray)[3]'(by decide)).toNat : Int) = 98 := rfl
  have b4 : ((({ data := #[34, 92, 47, 98, 102, 110, 114, 116] } : ByteArray)[4]'(by decide)).toNat : Int) = 102 := rfl
  have b5 : ((({ data := #[34, 92, 47, 98, 102, 110, 114, 116] } : ByteArray)[5]'(by decide)).toNat : Int) = 110 := rfl
  have b6 : ((({ data := #[34, 92, 47, 98, 102, 110, 114, 116] } : ByteArray)[6]'(by decide)).toNat : Int) = 114 := rfl
  have b7 : ((({ data := #[34, 92, 47, 98, 102, 110, 114, 116] } : ByteArray)[7]'(by decide)).toNat : Int) = 116 := rfl
  go_enter Try.func4, Try.ntmps4
  go_wp2
  refine wp_loop_rounds 9 ?_
  rw [rounds_succ]
  go_wp2
  rw [rounds_succ]
  go_wp2
  rw [rounds_succ]
  go_wp2
  rw [rounds_succ]
  go_wp2
  rw [rounds_succ]
  go_wp2
  rw [rounds_succ]
  go_wp2
  rw [rounds_succ]
  go_wp2
  rw [rounds_succ]
  go_wp2
  rw [rounds_succ]
  go_wp2
  go_ret
  exact ⟨rfl, rfl⟩

set_option maxHeartbeats 1000000 in
theorem law10 (w : World) : Calls Try.prog 4 #[.int .u8 10] w fun e w' => e = .returned (.bool true) ∧ w' = w := by
  have b0 : ((({ data := #[34, 92, 47, 98, 102, 110, 114, 116] } : ByteArray)[0]'(by decide)).toNat : Int) = 34 := rfl
  have b1 : ((({ data := #[34, 92, 47, 98, 102, 110, 114, 116] } : ByteArray)[1]'(by decide)).toNat : Int) = 92 := rfl
  have b2 : ((({ data := #[34, 92, 47, 98, 102, 110, 114, 116] } : ByteArray)[2]'(by decide)).toNat : Int) = 47 := rfl
  have b3 : ((({ data := #[34, 92, 47, 98, 102, 110, 114, 116] } : ByteArray)[3]'(by decide)).toNat : Int) = 98 := rfl
  have b4 : ((({ data := #[34, 92, 47, 98, 102, 110, 114, 116] } : ByteArray)[4]'(by decide)).toNat : Int) = 102 := rfl
  have b5 : ((({ data := #[34, 92, 47, 98, 102, 110, 114, 116] } : ByteArray)[5]'(by decide)).toNat : Int) = 110 := rfl
  have b6 : ((({ data := #[34, 92, 47, 98, 102, 110, 114, 116] } : ByteArray)[6]'(by decide)).toNat : Int) = 114 := rfl
  have b7 : ((({ data := #[34, 92, 47, 98, 102, 110, 114, 116] } : ByteArray)[7]'(by decide)).toNat : Int) = 116 := rfl
  go_enter Try.func4, Try.ntmps4
  go_wp2
  refine wp_loop_rounds 9 ?_
  rw [rounds_succ]
  go_wp2
  rw [rounds_succ]
  go_wp2
  rw [rounds_succ]
  go_wp2
  rw [rounds_succ]
  go_wp2
  rw [rounds_succ]
  go_wp2
  rw [rounds_succ]
  go_wp2
  rw [rounds_succ]
  go_wp2
  rw [rounds_succ]
  go_wp2
  rw [rounds_succ]
  go_wp2
  go_ret
  exact ⟨rfl, rfl⟩

set_option maxHeartbeats 1000000 in
theorem law13 (w : World) : Calls Try.prog 4 #[.int .u8 13] w fun e w' => e = .returned (.bool true) ∧ w' = w := by
  have b0 : ((({ data := #[34, 92, 47, 98, 102, 110, 114, 116] } : ByteArray)[0]'(by decide)).toNat : Int) = 34 := rfl
  have b1 : ((({ data := #[34, 92, 47, 98, 102, 110, 114, 116] } : ByteArray)[1]'(by decide)).toNat : Int) = 92 := rfl
  have b2 : ((({ data := #[34, 92, 47, 98, 102, 110, 114, 116] } : ByteArray)[2]'(by decide)).toNat : Int) = 47 := rfl
  have b3 : ((({ data := #[34, 92, 47, 98, 102, 110, 114, 116] } : ByteArray)[3]'(by decide)).toNat : Int) = 98 := rfl
  have b4 : ((({ data := #[34, 92, 47, 98, 102, 110, 114, 116] } : ByteArray)[4]'(by decide)).toNat : Int) = 102 := rfl
  have b5 : ((({ data := #[34, 92, 47, 98, 102, 110, 114, 116] } : ByteArray)[5]'(by decide)).toNat : Int) = 110 := rfl
  have b6 : ((({ data := #[34, 92, 47, 98, 102, 110, 114, 116] } : ByteArray)[6]'(by decide)).toNat : Int) = 114 := rfl
  have b7 : ((({ data := #[34, 92, 47, 98, 102, 110, 114, 116] } : ByteArray)[7]'(by decide)).toNat : Int) = 116 := rfl
  go_enter Try.func4, Try.ntmps4
  go_wp2
  refine wp_loop_rounds 9 ?_
  rw [rounds_succ]
  go_wp2
  rw [rounds_succ]
  go_wp2
  rw [rounds_succ]
  go_wp2
  rw [rounds_succ]
  go_wp2
  rw [rounds_succ]
  go_wp2
  rw [rounds_succ]
  go_wp2
  rw [rounds_succ]
  go_wp2
  rw [rounds_succ]
  go_wp2
  rw [rounds_succ]
  go_wp2
  go_ret
  exact ⟨rfl, rfl⟩

set_option maxHeartbeats 1000000 in
theorem law9 (w : World) : Calls Try.prog 4 #[.int .u8 9] w fun e w' => e = .returned (.bool true) ∧ w' = w := by
  have b0 : ((({ data := #[34, 92, 47, 98, 102, 110, 114, 116] } : ByteArray)[0]'(by decide)).toNat : Int) = 34 := rfl
  have b1 : ((({ data := #[34, 92, 47, 98, 102, 110, 114, 116] } : ByteArray)[1]'(by decide)).toNat : Int) = 92 := rfl
  have b2 : ((({ data := #[34, 92, 47, 98, 102, 110, 114, 116] } : ByteArray)[2]'(by decide)).toNat : Int) = 47 := rfl
  have b3 : ((({ data := #[34, 92, 47, 98, 102, 110, 114, 116] } : ByteArray)[3]'(by decide)).toNat : Int) = 98 := rfl
  have b4 : ((({ data := #[34, 92, 47, 98, 102, 110, 114, 116] } : ByteArray)[4]'(by decide)).toNat : Int) = 102 := rfl
  have b5 : ((({ data := #[34, 92, 47, 98, 102, 110, 114, 116] } : ByteArray)[5]'(by decide)).toNat : Int) = 110 := rfl
  have b6 : ((({ data := #[34, 92, 47, 98, 102, 110, 114, 116] } : ByteArray)[6]'(by decide)).toNat : Int) = 114 := rfl
  have b7 : ((({ data := #[34, 92, 47, 98, 102, 110, 114, 116] } : ByteArray)[7]'(by decide)).toNat : Int) = 116 := rfl
  go_enter Try.func4, Try.ntmps4
  go_wp2
  refine wp_loop_rounds 9 ?_
  rw [rounds_succ]
  go_wp2
  rw [rounds_succ]
  go_wp2
  rw [rounds_succ]
  go_wp2
  rw [rounds_succ]
  go_wp2
  rw [rounds_succ]
  go_wp2
  rw [rounds_succ]
  go_wp2
  rw [rounds_succ]
  go_wp2
  rw [rounds_succ]
  go_wp2
  rw [rounds_succ]
  go_wp2
  go_ret
  exact ⟨rfl, rfl⟩

set_option maxHeartbeats 1000000 in
theorem law_else (c : Int) (w : World) (h0 : 0 ≤ c) (h1 : c ≤ 255) (n1 : c ≠ 34) (n2 : c ≠ 92) (n3 : c ≠ 47) (n4 : c ≠ 8) (n5 : c ≠ 12) (n6 : c ≠ 10) (n7 : c ≠ 13) (n8 : c ≠ 9) :
    Calls Try.prog 4 #[.int .u8 c] w fun e w' => e = .returned (.bool true) ∧ w' = w := by
  have b0 : ((({ data := #[34, 92, 47, 98, 102, 110, 114, 116] } : ByteArray)[0]'(by decide)).toNat : Int) = 34 := rfl
  have b1 : ((({ data := #[34, 92, 47, 98, 102, 110, 114, 116] } : ByteArray)[1]'(by decide)).toNat : Int) = 92 := rfl
  have b2 : ((({ data := #[34, 92, 47, 98, 102, 110, 114, 116] } : ByteArray)[2]'(by decide)).toNat : Int) = 47 := rfl
  have b3 : ((({ data := #[34, 92, 47, 98, 102, 110, 114, 116] } : ByteArray)[3]'(by decide)).toNat : Int) = 98 := rfl
  have b4 : ((({ data := #[34, 92, 47, 98, 102, 110, 114, 116] } : ByteArray)[4]'(by decide)).toNat : Int) = 102 := rfl
  have b5 : ((({ data := #[34, 92, 47, 98, 102, 110, 114, 116] } : ByteArray)[5]'(by decide)).toNat : Int) = 110 := rfl
  have b6 : ((({ data := #[34, 92, 47, 98, 102, 110, 114, 116] } : ByteArray)[6]'(by decide)).toNat : Int) = 114 := rfl
  have b7 : ((({ data := #[34, 92, 47, 98, 102, 110, 114, 116] } : ByteArray)[7]'(by decide)).toNat : Int) = 116 := rfl
  go_enter Try.func4, Try.ntmps4
  go_wp2
  refine wp_loop_rounds 9 ?_
  rw [rounds_succ]
  go_wp2
  rw [rounds_succ]
  go_wp2
  rw [rounds_succ]
  go_wp2
  rw [rounds_succ]
  go_wp2
  rw [rounds_succ]
  go_wp2
  rw [rounds_succ]
  go_wp2
  rw [rounds_succ]
  go_wp2
  rw [rounds_succ]
  go_wp2
  rw [rounds_succ]
  go_wp2
  go_ret
  exact ⟨rfl, rfl⟩

theorem law_any (c : Int) (w : World) (h0 : 0 ≤ c) (h1 : c ≤ 255) : Calls Try.prog 4 #[.int .u8 c] w fun e w' => e = .returned (.bool true) ∧ w' = w := by
  by_cases n34 : c = 34
  · rw [n34]; exact law34 w
  by_cases n92 : c = 92
  · rw [n92]; exact law92 w
  by_cases n47 : c = 47
  · rw [n47]; exact law47 w
  by_cases n8 : c = 8
  · rw [n8]; exact law8 w
  by_cases n12 : c = 12
  · rw [n12]; exact law12 w
  by_cases n10 : c = 10
  · rw [n10]; exact law10 w
  by_cases n13 : c = 13
  · rw [n13]; exact law13 w
  by_cases n9 : c = 9
  · rw [n9]; exact law9 w
  exact law_else c w h0 h1 n34 n92 n47 n8 n12 n10 n13 n9
end Go.Proofs.Qxb6604142a
