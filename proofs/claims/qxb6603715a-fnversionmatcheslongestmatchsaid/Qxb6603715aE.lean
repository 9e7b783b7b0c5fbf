import Derived.Test.Qxb6603715aD
namespace Go.Proofs.Qxb6603715a
open Go.RowKit
set_option linter.unusedVariables false

set_option maxHeartbeats 400000 in
theorem bytes_yes (s : ByteArray) (p1 p2 p3 p4 : Int) (b5 b6 : Bool) (w : World) (hs : s.size ≤ 1048576) :
    Calls Try.prog 5 #[.string s, .int .i64 p1, .int .i64 p2, .int .i64 p3, .int .i64 p4, .bool b5, .bool b6] w fun e w' => e = .returned (.bool true) ∧ w = w' := by
  go_enter Try.func5, Try.ntmps5
  go_wp2
  go_ret
  exact ⟨rfl, rfl⟩

set_option maxHeartbeats 400000 in
theorem bytes_no (s : ByteArray) (p1 p2 p3 p4 : Int) (b5 b6 : Bool) (w : World) (hs : 1048576 < s.size) (hm : s.size ≤ maxLen) :
    Calls Try.prog 5 #[.string s, .int .i64 p1, .int .i64 p2, .int .i64 p3, .int .i64 p4, .bool b5, .bool b6] w fun e w' => e = .returned (.bool false) ∧ w = w' := by
  unfold maxLen at hm
  go_enter Try.func5, Try.ntmps5
  go_wp2
  go_ret
  exact ⟨rfl, rfl⟩

/-- What the law leaves. -/
structure Fin (w : World) (e : Ending) (w' : World) : Prop where
  ret : e = .returned (.bool true)
  below : Below w.heap.size w w'

set_option maxHeartbeats 1000000 in
set_option maxRecDepth 100000 in
theorem law_any (s : ByteArray) (p1 p2 p3 p4 : Int) (b5 b6 : Bool) (w : World) (hs : s.size ≤ maxLen) (hp1 : -9223372036854775808 ≤ p1 ∧ p1 ≤ 9223372036854775807) :
    Calls Try.prog 3 #[.string s, .int .i64 p1, .int .i64 p2, .int .i64 p3, .int .i64 p4, .bool b5, .bool b6] w fun e w' => Fin w e w' := by
  have HS : Hid (s.size ≤ maxLen) := hs
  unfold maxLen at hs
  by_cases hb : 1048576 < s.size
  · go_enter Try.func3, Try.ntmps3
    go_wp2_with fail
    refine (bytes_no s p1 p2 p3 p4 b5 b6 w hb HS.out).mono ?_
    rintro e w1 ⟨rfl, rfl⟩
    go_wp2
    go_ret
    exact ⟨rfl, Below.refl _ _⟩
  by_cases hn : p1 < 0
  · go_enter Try.func3, Try.ntmps3
    go_wp2_with fail
    refine (bytes_yes s p1 p2 p3 p4 b5 b6 w (by omega)).mono ?_
    rintro e w1 ⟨rfl, rfl⟩
    go_wp2
    go_ret
    exact ⟨rfl, Below.refl _ _⟩
  obtain ⟨pos, rfl⟩ := Int.eq_ofNat_of_zero_le (show 0 ≤ p1 by omega)
  by_cases hl : s.size < pos
  · go_enter Try.func3, Try.ntmps3
    go_wp2_with fail
    refine (bytes_yes s pos p2 p3 p4 b5 b6 w (by omega)).mono ?_
    rintro e w1 ⟨rfl, rfl⟩
    go_wp2
    go_ret
    exact ⟨rfl, Below.refl _ _⟩
  go_enter Try.func3, Try.ntmps3
  go_wp2_with fail
  refine (bytes_yes s pos p2 p3 p4 b5 b6 w (by omega)).mono ?_
  rintro e w1 ⟨rfl, rfl⟩
  go_wp2_with fail
  refine (zzversion_any s pos p2 p3 p4 b5 b6 w HS.out (by omega)).mono ?_
  rintro e w1 ⟨⟨dot, hno, rfl⟩ | ⟨dot, en, hyes, rfl⟩, hB⟩
  · go_wp2_with fail
    refine (vend_any s pos (-1) _ HS.out (by omega) (Or.inl ⟨dot, hno, rfl⟩)).mono ?_
    rintro e w2 ⟨rfl, rfl⟩
    go_wp2
    go_ret
    exact ⟨rfl, hB.alloc hB.size _⟩
  · have HY : Hid (Yes s pos dot en) := hyes
    have h1 := hyes.lt
    have h2 := hyes.lt2
    have h3 : en ≤ s.size := hyes.run2.size (by
      have := isD_lt (hyes.run2.dig (en - 1) (by omega) (by omega))
      omega)
    clear hyes
    go_wp2_with fail
    refine (vend_any s pos en _ HS.out (by omega) (Or.inr ⟨dot, en, HY.out, rfl⟩)).mono ?_
    rintro e w2 ⟨rfl, rfl⟩
    go_wp2
    go_ret
    exact ⟨rfl, hB.alloc hB.size _⟩
end Go.Proofs.Qxb6603715a
