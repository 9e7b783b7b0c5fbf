import Derived.Test.Qxb6604644aD
namespace Go.Proofs.Qxb6604644a
open Go.RowKit
set_option linter.unusedVariables false

/-- The first sixteen bytes differ. -/
def Dist (d : ByteArray) : Prop := ∀ p q, p < q → q < 16 → dgt d p ≠ dgt d q

set_option maxHeartbeats 400000 in
theorem hexIndex_any (d : ByteArray) (b : UInt8) (n : Nat) (w : World) (hd : 16 ≤ d.size) (hn : n < 16) (hb : b = dgt d n) (hD : Dist d) :
    Calls Try.prog 12 #[.string d, .int .u8 (b.toNat : Int)] w fun e w' => e = .returned (.int .i64 n) ∧ w = w' := by
  have HB : Hid (b = dgt d n) := hb
  have HD : Hid (Dist d) := hD
  clear hb hD
  go_enter Try.func12, Try.ntmps12
  go_wp2
  go_loop [5] (fun i => ∃ k : Nat, k ≤ n ∧ i = .int .i64 k) (fun i => n + 1 - (intOf i).toNat)
  case atStart => exact ⟨0, Nat.zero_le _, rfl⟩
  case round =>
    obtain ⟨k, hk, rfl⟩ := hrel
    have hks : k < d.size := by omega
    by_cases hlt : k < n
    · have hne : ((d[k].toNat : Int) == (b.toNat : Int)) = false := by
        refine beq_eq_false_iff_ne.2 fun h => ?_
        have h1 : d[k].toNat = b.toNat := by omega
        have h2 : d[k] = b := UInt8.toNat_inj.1 h1
        rw [HB.out, ← dgt_in hks] at h2
        exact HD.out k n hlt hn h2
      go_wp2
      go_round
      case rel => exact ⟨k + 1, by omega, by go_num⟩
      case measure => simp [intOf]; omega
    · have hkn : k = n := by omega
      have heq : ((d[k].toNat : Int) == (b.toNat : Int)) = true := by
        rw [beq_iff_eq, HB.out, ← hkn, dgt_in hks]
      have HK : Hid (k = n) := hkn
      clear hkn
      go_wp2
      go_ret
      exact ⟨by rw [← HK.out]; rfl, rfl⟩

/-- The units of a code point. -/
def un (c : Int) : Nat → Int := if c ≤ 65535 then fun _ => c else two (hiS c) (loS c)
def KK (c : Int) : Nat := if c ≤ 65535 then 1 else 2

theorem code_flat (pre d : ByteArray) (c : Int) : code pre d c = flat pre d (un c) (KK c) := by
  unfold code un KK flat
  by_cases h : c ≤ 65535
  · rw [if_pos h, if_pos h, if_pos h]
    simp [List.range_succ]
  · rw [if_neg h, if_neg h, if_neg h]
    simp [List.range_succ, two]

theorem un_bd (c : Int) (h0 : 0 ≤ c) (h1 : c ≤ 1114111) (j : Nat) : 0 ≤ un c j ∧ un c j ≤ 65535 := by
  unfold un
  by_cases h : c ≤ 65535
  · rw [if_pos h]; exact ⟨h0, h⟩
  · rw [if_neg h]
    have a1 := hi_bd c (by omega) (by omega)
    have a2 := lo_bd c (by omega) (by omega)
    match j with
    | 0 => exact a1
    | j + 1 => exact a2

theorem flat_get (pre d : ByteArray) (u : Nat → Int) (K j i : Nat) (hj : j < K) (hi : i < pre.size + 4) : (flat pre d u K).getD (j * (pre.size + 4) + i) 0 = (unit pre d (u j)).getD i 0 := by
  induction K with
  | zero => omega
  | succ K ih =>
    rw [flat_succ]
    have hl := flat_length pre d u K
    by_cases h : j < K
    · have hm : (j + 1) * (pre.size + 4) ≤ K * (pre.size + 4) := Nat.mul_le_mul_right _ h
      rw [Nat.succ_mul] at hm
      rw [← ih h]
      simp only [List.getD]
      rw [List.getElem?_append_left (by omega)]
    · have hjk : j = K := by omega
      subst hjk
      simp only [List.getD]
      rw [List.getElem?_append_right (by omega)]
      congr 2
      omega

theorem unit_pre (pre d : ByteArray) (x : Int) (i : Nat) (h : i < pre.size) : (unit pre d x).getD i 0 = pre[i] := by
  unfold unit
  simp only [List.getD]
  rw [List.getElem?_append_left (by rw [size_eq]; exact h)]
  have : i < pre.data.toList.length := by rw [size_eq]; exact h
  rw [List.getElem?_eq_getElem this]
  rfl

theorem unit_hex (pre d : ByteArray) (x : Int) (i : Nat) : (unit pre d x).getD (pre.size + i) 0 = (hex4 d x).getD i 0 := by
  unfold unit
  simp only [List.getD]
  rw [List.getElem?_append_right (by rw [size_eq]; omega), size_eq]
  congr 2
  omega

/-- What is read of the result. -/
theorem tail_get (l : List UInt8) (pre d : ByteArray) (c : Int) (j i : Nat) (hj : j < KK c) (hi : i < pre.size + 4) : (l ++ code pre d c).getD (l.length + j * (pre.size + 4) + i) 0 = (unit pre d (un c j)).getD i 0 := by
  rw [← flat_get pre d (un c) (KK c) j i hj hi, ← code_flat]
  simp only [List.getD]
  rw [List.getElem?_append_right (by omega)]
  congr 2
  omega
theorem head_get (l m : List UInt8) (i : Nat) (h : i < l.length) : (l ++ m).getD i 0 = l.getD i 0 := by
  simp only [List.getD]
  rw [List.getElem?_append_left h]
theorem code_length (pre d : ByteArray) (c : Int) : (code pre d c).length = KK c * (pre.size + 4) := by rw [code_flat, flat_length]
end Go.Proofs.Qxb6604644a
