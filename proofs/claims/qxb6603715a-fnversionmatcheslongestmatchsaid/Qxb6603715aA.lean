import Derived.Test.Qxb6603715aRows
import Derived.WalkKit
import Derived.WalkSpells
import Derived.WalkLawsBesides
import Derived.Deep.OwnRows
import Derived.BigQuiet
import Derived.Deep.QuietTactic
namespace Go.Proofs.Qxb6603715a
open Go.RowKit
set_option linter.unusedVariables false

/-- Is there a digit at place i? -/
def isD (s : ByteArray) (i : Nat) : Bool := if h : i < s.size then decide (48 ≤ s[i].toNat) && decide (s[i].toNat ≤ 57) else false
/-- The byte at place i; 0 past the end. -/
def byteAt (s : ByteArray) (i : Nat) : Nat := if h : i < s.size then s[i].toNat else 0

theorem isD_lt {s : ByteArray} {i : Nat} (h : isD s i = true) : i < s.size := by
  unfold isD at h
  split at h
  · assumption
  · cases h
theorem isD_in {s : ByteArray} {i : Nat} (hi : i < s.size) : isD s i = (decide (48 ≤ s[i].toNat) && decide (s[i].toNat ≤ 57)) := by
  unfold isD
  rw [dif_pos hi]
theorem byteAt_in {s : ByteArray} {i : Nat} (hi : i < s.size) : byteAt s i = s[i].toNat := by
  unfold byteAt
  rw [dif_pos hi]

/-- The run of digits from i ends at j. -/
structure Run (s : ByteArray) (i j : Nat) : Prop where
  le : i ≤ j
  dig : ∀ k, i ≤ k → k < j → isD s k = true
  stop : isD s j = false

theorem Run.size {s : ByteArray} {i j : Nat} (h : Run s i j) (hi : i ≤ s.size) : j ≤ s.size := by
  by_cases e : j = i
  · omega
  · have := isD_lt (h.dig (j - 1) (by have := h.le; omega) (by have := h.le; omega))
    omega

structure RunPost (s : ByteArray) (i : Nat) (w : World) (e : Ending) (w' : World) : Prop where
  ret : ∃ j : Nat, e = .returned (.int .i64 j) ∧ Run s i j
  same : w = w'

set_option maxHeartbeats 400000 in
theorem runEnd_any (T : Nat) (s : ByteArray) (i : Nat) (w : World) (hs : s.size ≤ maxLen) (hi : i ≤ s.size) (hT : w.cell? ⟨T, 0, none⟩ = some (.string s)) :
    Calls Try.prog 15 #[.pointer (some ⟨T, 0, none⟩), .int .i64 i, .func (.func 16) #[] #[]] w fun e w' => RunPost s i w e w' := by
  unfold maxLen at hs
  go_enter Try.func15, Try.ntmps15
  go_wp2
  go_loop [1] (fun c => ∃ k : Nat, i ≤ k ∧ k ≤ s.size ∧ c = .int .i64 k ∧ ∀ j, i ≤ j → j < k → isD s j = true) (fun c => s.size - (intOf c).toNat)
  case atStart => exact ⟨i, Nat.le_refl _, hi, rfl, fun j h1 h2 => absurd h2 (by omega)⟩
  case round =>
    obtain ⟨k, hk0, hk, rfl, hd⟩ := hrel
    have HD : Hid (∀ j, i ≤ j → j < k → isD s j = true) := hd
    clear hd
    by_cases hlt : k < s.size
    · have HI : Hid (isD s k = (decide (48 ≤ s[k].toNat) && decide (s[k].toNat ≤ 57))) := isD_in hlt
      go_wp2
      · have h1 : (48 : Int) ≤ (s[k].toNat : Int) := by assumption
        have h2 : (s[k].toNat : Int) ≤ 57 := by assumption
        have hk' : isD s k = true := by rw [HI.out]; simp; omega
        go_round
        case rel => exact ⟨k + 1, by omega, by omega, by go_num, fun j h1 h2 => by rcases Nat.lt_succ_iff_lt_or_eq.1 h2 with h | h; exact HD.out j h1 h; rw [h]; exact hk'⟩
        case measure => simp [intOf]; omega
      · have h2 : (57 : Int) < (s[k].toNat : Int) := by assumption
        have hk' : isD s k = false := by rw [HI.out]; simp; omega
        go_ret
        exact ⟨⟨k, rfl, hk0, HD.out, hk'⟩, rfl⟩
      · have h2 : (s[k].toNat : Int) < 48 := by assumption
        have hk' : isD s k = false := by rw [HI.out]; simp; omega
        go_ret
        exact ⟨⟨k, rfl, hk0, HD.out, hk'⟩, rfl⟩
    · go_wp2
      go_ret
      exact ⟨⟨k, rfl, hk0, HD.out, by unfold isD; rw [dif_neg hlt]⟩, rfl⟩

set_option maxHeartbeats 400000 in
theorem at_any (T : Nat) (s : ByteArray) (i : Nat) (w : World) (hs : s.size ≤ maxLen) (hi : i ≤ s.size) (hT : w.cell? ⟨T, 0, none⟩ = some (.string s)) :
    Calls Try.prog 17 #[.pointer (some ⟨T, 0, none⟩), .int .i64 i] w fun e w' => e = .returned (.int .u8 (byteAt s i)) ∧ w = w' := by
  unfold maxLen at hs
  by_cases hlt : i < s.size
  · have HB : Hid (byteAt s i = s[i].toNat) := byteAt_in hlt
    go_enter Try.func17, Try.ntmps17
    go_wp2
    go_ret
    exact ⟨by rw [HB.out]; rfl, rfl⟩
  · have HB : Hid (byteAt s i = 0) := by show byteAt s i = 0; unfold byteAt; rw [dif_neg hlt]
    go_enter Try.func17, Try.ntmps17
    go_wp2
    go_ret
    exact ⟨by rw [HB.out]; rfl, rfl⟩

/-- A version stands at 'pos' and ends at e. -/
structure Yes (s : ByteArray) (pos dot e : Nat) : Prop where
  lt : pos < dot
  run : Run s pos dot
  isDot : byteAt s dot = 46
  lt2 : dot + 1 < e
  run2 : Run s (dot + 1) e

/-- No version stands at 'pos'. -/
structure No (s : ByteArray) (pos dot : Nat) : Prop where
  run : Run s pos dot
  why : dot = pos ∨ byteAt s dot ≠ 46 ∨ (byteAt s dot = 46 ∧ Run s (dot + 1) (dot + 1))

structure VerPost (T : Nat) (s : ByteArray) (pos : Nat) (w : World) (e : Ending) (w' : World) : Prop where
  ret : (∃ dot, No s pos dot ∧ e = .returned (.tuple #[.string ⟨#[]⟩, .bool false]) ∧ w' = w) ∨
    ∃ dot en : Nat, Yes s pos dot en ∧ e = .returned (.tuple #[.string (s.extract pos en), .bool true]) ∧ w' = w.setCell ⟨T, 1, none⟩ (.int .i64 en)

set_option maxHeartbeats 400000 in
theorem version_any (T : Nat) (s : ByteArray) (pos : Nat) (w : World) (hs : s.size ≤ maxLen) (hp : pos ≤ s.size) (hT : w.cell? ⟨T, 0, none⟩ = some (.string s)) (hT1 : w.cell? ⟨T, 1, none⟩ = some (.int .i64 pos)) (hf : w.frozen? ⟨T, 1, none⟩ = false) :
    Calls Try.prog 11 #[.pointer (some ⟨T, 0, none⟩)] w fun e w' => VerPost T s pos w e w' := by
  have HS : Hid (s.size ≤ maxLen) := hs
  unfold maxLen at hs
  go_enter Try.func11, Try.ntmps11
  go_wp2_with fail
  refine (runEnd_any T s pos w HS.out hp hT).mono ?_
  rintro e w1 ⟨⟨dot, rfl, hr⟩, rfl⟩
  have hd := hr.size hp
  by_cases h0 : dot = pos
  · subst h0
    go_wp2
    go_ret2
    exact ⟨Or.inl ⟨dot, ⟨hr, Or.inl rfl⟩, rfl, rfl⟩⟩
  · have hb0 : ((dot : Int) == (pos : Int)) = false := beq_eq_false_iff_ne.2 (by omega)
    go_wp2_with fail
    refine (at_any T s dot w HS.out hd hT).mono ?_
    rintro e w1 ⟨rfl, rfl⟩
    by_cases h46 : byteAt s dot = 46
    · have hb46 : ((byteAt s dot : Int) != 46) = false := by rw [h46]; rfl
      have hdl : dot < s.size := by
        by_cases hlt : dot < s.size
        · exact hlt
        · unfold byteAt at h46
          rw [dif_neg hlt] at h46
          cases h46
      have H46 : Hid (byteAt s dot = 46) := h46
      clear h46
      go_wp2_with fail
      rw [show ((dot : Int) + 1) = ((dot + 1 : Nat) : Int) from by omega]
      refine (runEnd_any T s (dot + 1) w HS.out (by omega) hT).mono ?_
      rintro e w1 ⟨⟨en, rfl, hr2⟩, rfl⟩
      have he := hr2.size (by omega)
      have hle := hr2.le
      by_cases h1 : en = dot + 1
      · have hb1 : ((en : Int) == (dot : Int) + 1) = true := beq_iff_eq.2 (by omega)
        have hr3 : Run s (dot + 1) (dot + 1) := by rw [h1] at hr2; exact hr2
        clear h1
        go_wp2
        go_ret2
        exact ⟨Or.inl ⟨dot, ⟨hr, Or.inr (Or.inr ⟨H46.out, hr3⟩)⟩, rfl, rfl⟩⟩
      · have hb1 : ((en : Int) == (dot : Int) + 1) = false := beq_eq_false_iff_ne.2 (by omega)
        have hle' := hr.le
        go_wp2
        go_ret2
        exact ⟨Or.inr ⟨dot, en, ⟨by omega, hr, H46.out, by omega, hr2⟩, rfl, rfl⟩⟩
    · have hb46 : ((byteAt s dot : Int) != 46) = true := by rw [bne_iff_ne]; omega
      go_wp2
      go_ret2
      exact ⟨Or.inl ⟨dot, ⟨hr, Or.inr (Or.inl h46)⟩, rfl, rfl⟩⟩
end Go.Proofs.Qxb6603715a
