import Derived.Test.Qxb6603715aA
namespace Go.Proofs.Qxb6603715a
open Go.RowKit
set_option linter.unusedVariables false

theorem Run.uniq {s : ByteArray} {i j k : Nat} (h1 : Run s i j) (h2 : Run s i k) : j = k := by
  have := h1.le
  have := h2.le
  rcases Nat.lt_trichotomy j k with h | h | h
  · have := h2.dig j (by omega) h
    rw [h1.stop] at this
    cases this
  · exact h
  · have := h1.dig k (by omega) h
    rw [h2.stop] at this
    cases this

def D (s : ByteArray) (i k : Nat) : Prop := ∀ j, i ≤ j → j < k → isD s j = true

theorem D.snoc {s : ByteArray} {i k : Nat} (h : D s i k) (hk : isD s k = true) : D s i (k + 1) := by
  intro j h1 h2
  rcases Nat.lt_succ_iff_lt_or_eq.1 h2 with h' | h'
  · exact h j h1 h'
  · rw [h']; exact hk

/-- What the law's result must be. -/
def Res (s : ByteArray) (pos : Nat) (r : Int) : Prop := (∃ dot, No s pos dot ∧ r = -1) ∨ ∃ dot en : Nat, Yes s pos dot en ∧ r = en

/-- The automaton's four states. -/
structure P0 (s : ByteArray) (pos k : Nat) : Prop where
  eq : k = pos
structure P1 (s : ByteArray) (pos k : Nat) : Prop where
  lt : pos < k
  dig : D s pos k
structure P2 (s : ByteArray) (pos k dot : Nat) : Prop where
  lt : pos < dot
  eq : k = dot + 1
  run : Run s pos dot
  isDot : byteAt s dot = 46
structure P3 (s : ByteArray) (pos k dot : Nat) : Prop where
  lt : pos < dot
  lt2 : dot + 1 < k
  run : Run s pos dot
  isDot : byteAt s dot = 46
  dig : D s (dot + 1) k

theorem P0.digit {s : ByteArray} {pos k : Nat} (h : P0 s pos k) (hk : isD s k = true) : P1 s pos (k + 1) :=
  ⟨by have := h.eq; omega, fun j h1 h2 => by have := h.eq; exact (show j = k by omega) ▸ hk⟩
theorem P1.digit {s : ByteArray} {pos k : Nat} (h : P1 s pos k) (hk : isD s k = true) : P1 s pos (k + 1) := ⟨by have := h.lt; omega, h.dig.snoc hk⟩
theorem P1.dot {s : ByteArray} {pos k : Nat} (h : P1 s pos k) (hk : isD s k = false) (hd : byteAt s k = 46) : P2 s pos (k + 1) k := ⟨h.lt, rfl, ⟨by have := h.lt; omega, h.dig, hk⟩, hd⟩
theorem P2.digit {s : ByteArray} {pos k dot : Nat} (h : P2 s pos k dot) (hk : isD s k = true) : P3 s pos (k + 1) dot :=
  ⟨h.lt, by have := h.eq; omega, h.run, h.isDot, fun j h1 h2 => by have := h.eq; exact (show j = k by omega) ▸ hk⟩
theorem P3.digit {s : ByteArray} {pos k dot : Nat} (h : P3 s pos k dot) (hk : isD s k = true) : P3 s pos (k + 1) dot := ⟨h.lt, by have := h.lt2; omega, h.run, h.isDot, h.dig.snoc hk⟩

theorem P0.stop {s : ByteArray} {pos k : Nat} {r : Int} (h : P0 s pos k) (hk : isD s k = false) (hr : Res s pos r) : r = -1 := by
  rcases hr with ⟨dot, _, e⟩ | ⟨dot, en, hy, _⟩
  · exact e
  · have hr : Run s pos k := ⟨by have := h.eq; omega, fun j h1 h2 => absurd h2 (by have := h.eq; omega), hk⟩
    have := hr.uniq hy.run
    have := h.eq
    have := hy.lt
    omega
theorem P1.stop {s : ByteArray} {pos k : Nat} {r : Int} (h : P1 s pos k) (hk : isD s k = false) (hd : byteAt s k ≠ 46) (hr : Res s pos r) : r = -1 := by
  rcases hr with ⟨dot, _, e⟩ | ⟨dot, en, hy, _⟩
  · exact e
  · have hr : Run s pos k := ⟨by have := h.lt; omega, h.dig, hk⟩
    have e := hr.uniq hy.run
    rw [e] at hd
    exact absurd hy.isDot hd
theorem P2.stop {s : ByteArray} {pos k dot : Nat} {r : Int} (h : P2 s pos k dot) (hk : isD s k = false) (hr : Res s pos r) : r = -1 := by
  rcases hr with ⟨_, _, e⟩ | ⟨dot', en, hy, _⟩
  · exact e
  · have e := h.run.uniq hy.run
    subst e
    have hr : Run s (dot + 1) k := ⟨by have := h.eq; omega, fun j h1 h2 => absurd h2 (by have := h.eq; omega), hk⟩
    have := hr.uniq hy.run2
    have := h.eq
    have := hy.lt2
    omega
theorem P3.stop {s : ByteArray} {pos k dot : Nat} {r : Int} (h : P3 s pos k dot) (hk : isD s k = false) (hr : Res s pos r) : r = k := by
  have hrk : Run s (dot + 1) k := ⟨by have := h.lt2; omega, h.dig, hk⟩
  rcases hr with ⟨dot', hn, e⟩ | ⟨dot', en, hy, e⟩
  · have e := h.run.uniq hn.run
    subst e
    rcases hn.why with h1 | h1 | ⟨_, h1⟩
    · have := h.lt; omega
    · exact absurd h.isDot h1
    · have := hrk.uniq h1
      have := h.lt2
      omega
  · have e' := h.run.uniq hy.run
    subst e'
    have := hrk.uniq hy.run2
    omega

theorem isD_past {s : ByteArray} {k : Nat} (h : ¬ k < s.size) : isD s k = false := by unfold isD; rw [dif_neg h]
theorem byteAt_past {s : ByteArray} {k : Nat} (h : ¬ k < s.size) : byteAt s k ≠ 46 := by unfold byteAt; rw [dif_neg h]; omega

/-- The loop's relation. -/
def VR (s : ByteArray) (pos k : Nat) (st b : Value) : Prop :=
  (st = .int .i64 0 ∧ b = .int .i64 (-1) ∧ P0 s pos k) ∨ (st = .int .i64 1 ∧ b = .int .i64 (-1) ∧ P1 s pos k) ∨ (∃ dot, st = .int .i64 2 ∧ b = .int .i64 (-1) ∧ P2 s pos k dot) ∨ (∃ dot, st = .int .i64 3 ∧ b = .int .i64 k ∧ P3 s pos k dot)

structure VEPost (r : Int) (w : World) (e : Ending) (w' : World) : Prop where
  ret : e = .returned (.int .i64 r)
  same : w = w'

set_option maxHeartbeats 400000 in
theorem vend_any (s : ByteArray) (pos : Nat) (r : Int) (w : World) (hs : s.size ≤ maxLen) (hp : pos ≤ s.size) (hr : Res s pos r) :
    Calls Try.prog 7 #[.string s, .int .i64 pos] w fun e w' => VEPost r w e w' := by
  unfold maxLen at hs
  have HR : Hid (Res s pos r) := hr
  clear hr
  go_enter Try.func7, Try.ntmps7
  go_wp2
  go_loop [5, 6, 7] (fun st b i => ∃ k : Nat, k ≤ s.size ∧ i = .int .i64 k ∧ VR s pos k st b) (fun _ _ i => s.size - (intOf i).toNat)
  case atStart => exact ⟨pos, hp, rfl, Or.inl ⟨rfl, rfl, ⟨rfl⟩⟩⟩
  case round =>
    obtain ⟨k, hk, rfl, hV⟩ := hrel
    by_cases hlt : k < s.size
    · have HI : Hid (isD s k = (decide (48 ≤ s[k].toNat) && decide (s[k].toNat ≤ 57))) := isD_in hlt
      have HB : Hid (byteAt s k = s[k].toNat) := byteAt_in hlt
      rcases hV with ⟨rfl, rfl, h⟩ | ⟨rfl, rfl, h⟩ | ⟨dot, rfl, rfl, h⟩ | ⟨dot, rfl, rfl, h⟩
      · go_wp2
        · have hk' : isD s k = true := by rw [HI.out]; simp; omega
          go_round
          case rel => exact ⟨k + 1, by omega, by go_num, Or.inr (Or.inl ⟨rfl, rfl, h.digit hk'⟩)⟩
          case measure => simp [intOf]; omega
        all_goals
          have hk' : isD s k = false := by rw [HI.out]; simp; omega
          go_ret
          exact ⟨by rw [h.stop hk' HR.out]; rfl, rfl⟩
      · go_wp2
        · have hk' : isD s k = true := by rw [HI.out]; simp; omega
          go_round
          case rel => exact ⟨k + 1, by omega, by go_num, Or.inr (Or.inl ⟨rfl, rfl, h.digit hk'⟩)⟩
          case measure => simp [intOf]; omega
        · have hk' : isD s k = false := by rw [HI.out]; simp; omega
          have hb' : byteAt s k ≠ 46 := by rw [HB.out]; omega
          go_ret
          exact ⟨by rw [h.stop hk' hb' HR.out]; rfl, rfl⟩
        · have hk' : isD s k = false := by rw [HI.out]; simp; omega
          have hb' : byteAt s k = 46 := by rw [HB.out]; omega
          go_round
          case rel => exact ⟨k + 1, by omega, by go_num, Or.inr (Or.inr (Or.inl ⟨k, rfl, rfl, h.dot hk' hb'⟩))⟩
          case measure => simp [intOf]; omega
        · have hk' : isD s k = false := by rw [HI.out]; simp; omega
          have hb' : byteAt s k ≠ 46 := by rw [HB.out]; omega
          go_ret
          exact ⟨by rw [h.stop hk' hb' HR.out]; rfl, rfl⟩
      · go_wp2
        · have hk' : isD s k = true := by rw [HI.out]; simp; omega
          go_round
          case rel => exact ⟨k + 1, by omega, by go_num, Or.inr (Or.inr (Or.inr ⟨dot, rfl, by go_num, h.digit hk'⟩))⟩
          case measure => simp [intOf]; omega
        all_goals
          have hk' : isD s k = false := by rw [HI.out]; simp; omega
          go_ret
          exact ⟨by rw [h.stop hk' HR.out]; rfl, rfl⟩
      · go_wp2
        · have hk' : isD s k = true := by rw [HI.out]; simp; omega
          go_round
          case rel => exact ⟨k + 1, by omega, by go_num, Or.inr (Or.inr (Or.inr ⟨dot, rfl, by go_num, h.digit hk'⟩))⟩
          case measure => simp [intOf]; omega
        all_goals
          have hk' : isD s k = false := by rw [HI.out]; simp; omega
          go_ret
          exact ⟨by rw [h.stop hk' HR.out]; rfl, rfl⟩
    · rcases hV with ⟨rfl, rfl, h⟩ | ⟨rfl, rfl, h⟩ | ⟨dot, rfl, rfl, h⟩ | ⟨dot, rfl, rfl, h⟩
      · go_wp2
        go_ret
        exact ⟨by rw [h.stop (isD_past hlt) HR.out]; rfl, rfl⟩
      · go_wp2
        go_ret
        exact ⟨by rw [h.stop (isD_past hlt) (byteAt_past hlt) HR.out]; rfl, rfl⟩
      · go_wp2
        go_ret
        exact ⟨by rw [h.stop (isD_past hlt) HR.out]; rfl, rfl⟩
      · go_wp2
        go_ret
        exact ⟨by rw [h.stop (isD_past hlt) HR.out]; rfl, rfl⟩
end Go.Proofs.Qxb6603715a
