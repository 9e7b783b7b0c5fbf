import Derived.Test.Qxb6604644aA
import Derived.Laws.BitsAllLaws
namespace Go.Proofs.Qxb6604644a
open Go.RowKit
set_option linter.unusedVariables false

theorem and_low (x : Int) (k : Nat) (hk : k ≤ 16) : bits .and .i32 x ((2 ^ k - 1 : Nat) : Int) = x % ((2 ^ k : Nat) : Int) := by
  show IntKind.i32.wrap ((BitVec.ofInt 32 x &&& BitVec.ofInt 32 ((2 ^ k - 1 : Nat) : Int)).toNat : Int) = _
  have hp : 2 ^ k ≤ 2 ^ 16 := Nat.pow_le_pow_right (by omega) hk
  have hp1 : 0 < 2 ^ k := Nat.pow_pos (by omega)
  have e2 : (BitVec.ofInt 32 ((2 ^ k - 1 : Nat) : Int)).toNat = 2 ^ k - 1 := by
    rw [BitVec.toNat_ofInt]
    omega
  have e1 : (BitVec.ofInt 32 x).toNat = (x % 4294967296).toNat := by
    rw [BitVec.toNat_ofInt]
    rfl
  rw [BitVec.toNat_and, e1, e2, Nat.and_two_pow_sub_one_eq_mod, IntKind.wrap_i32]
  have hd : (2 ^ k : Nat) ∣ 4294967296 := ⟨2 ^ (32 - k), by rw [← Nat.pow_add, show k + (32 - k) = 32 by omega]⟩
  have h1 : ((((x % 4294967296).toNat % 2 ^ k : Nat)) : Int) = x % ((2 ^ k : Nat) : Int) := by
    rw [Int.natCast_emod, Int.toNat_of_nonneg (Int.emod_nonneg _ (by omega))]
    exact Int.emod_emod_of_dvd x (show ((2 ^ k : Nat) : Int) ∣ ((4294967296 : Nat) : Int) from Int.natCast_dvd_natCast.2 hd)
  rw [h1]
  have h2 : 0 ≤ x % ((2 ^ k : Nat) : Int) := Int.emod_nonneg _ (by omega)
  have h3 : x % ((2 ^ k : Nat) : Int) < ((2 ^ k : Nat) : Int) := Int.emod_lt_of_pos _ (by omega)
  omega

theorem and15 (x : Int) : bits .and .i32 x 15 = x % 16 := and_low x 4 (by omega)
theorem and1023 (x : Int) : bits .and .i32 x 1023 = x % 1024 := and_low x 10 (by omega)

/-- The n-th byte. -/
def dgt (d : ByteArray) (n : Nat) : UInt8 := if h : n < d.size then d[n] else 0
theorem dgt_in {d : ByteArray} {n : Nat} (h : n < d.size) : dgt d n = d[n] := dif_pos h

/-- Four hex digits, spelt by d. -/
def hex4 (d : ByteArray) (c : Int) : List UInt8 := [dgt d (c / 4096 % 16).toNat, dgt d (c / 256 % 16).toNat, dgt d (c / 16 % 16).toNat, dgt d (c % 16).toNat]

theorem nib_of (x : Int) : ∃ n : Nat, bits .and .i32 x 15 = (n : Int) ∧ n < 16 ∧ n = (x % 16).toNat := by
  have h1 := Int.emod_nonneg x (show (16 : Int) ≠ 0 by omega)
  have h2 := Int.emod_lt_of_pos x (show (0 : Int) < 16 by omega)
  exact ⟨(x % 16).toNat, by rw [and15]; omega, by omega, rfl⟩

theorem cell_new (w : World) (x : Value) (t : TypeId) : (w.alloc (.cells #[x] t)).cell? ⟨w.heap.size, 0, none⟩ = some x := by
  rw [World.cell?_alloc_at #[x] t w.heap.size 0 rfl]
  rfl

structure HexPost (B : Nat) (ov : Value) (ol l : List UInt8) (w : World) (e : Ending) (w' : World) : Prop where
  ret : ∃ v, e = .returned v ∧ AS B ov ol w' v l
  below : Below B w w'

set_option maxHeartbeats 1000000 in
theorem hex_any (B : Nat) (ov v : Value) (ol l : List UInt8) (c : Int) (d : ByteArray) (w : World) (h : AS B ov ol w v l) (hl : l.length ≤ 8388608) (hd : 16 ≤ d.size) (hds : d.size ≤ 1048576) (hc : -2147483648 ≤ c ∧ c ≤ 2147483647) :
    Calls Try.prog 18 #[v, .int .i32 c, .int .i64 4, .string d] w fun e w' => HexPost B ov ol (l ++ hex4 d c) w e w' := by
  obtain ⟨n3, e3, l3, H3⟩ := nib_of (c / 4096)
  obtain ⟨n2, e2, l2, H2⟩ := nib_of (c / 256)
  obtain ⟨n1, e1, l1, H1⟩ := nib_of (c / 16)
  obtain ⟨n0, e0, l0, H0⟩ := nib_of c
  have q3 : n3 < d.size := Nat.lt_of_lt_of_le l3 hd
  have q2 : n2 < d.size := Nat.lt_of_lt_of_le l2 hd
  have q1 : n1 < d.size := Nat.lt_of_lt_of_le l1 hd
  have q0 : n0 < d.size := Nat.lt_of_lt_of_le l0 hd
  have HX : Hid (hex4 d c = [d[n3]'q3, d[n2]'q2, d[n1]'q1, d[n0]'q0]) := by
    show hex4 d c = _
    unfold hex4
    rw [← H3, ← H2, ← H1, ← H0, dgt_in q3, dgt_in q2, dgt_in q1, dgt_in q0]
  clear H3 H2 H1 H0
  go_enter Try.func18, Try.ntmps18
  go_wp2
  refine wp_loop_rounds 5 ?_
  rw [rounds_succ]
  go_wp2_with (at_builtin; refine wpList_as_one (by rfl) (.tmp 17) (.tmp 24) (by rfl) B ov ol v l (d[n3]'q3) ⟨w.heap.size, 0, none⟩ (by rfl) (by rfl) (h.alloc _) (cell_new _ _ _) (by (try simp only [List.length_append, List.length_cons, List.length_nil]); omega) ?_; intro v1 w1 h1 hb1')
  have hb1 : Below B w w1 := ((Below.refl B w).alloc h.size _).trans hb1'
  clear hb1'
  rw [rounds_succ]
  go_wp2_with (at_builtin; refine wpList_as_one (by rfl) (.tmp 17) (.tmp 24) (by rfl) B ov ol v1 (l ++ [d[n3]'q3]) (d[n2]'q2) ⟨w1.heap.size, 0, none⟩ (by rfl) (by rfl) (h1.alloc _) (cell_new _ _ _) (by (try simp only [List.length_append, List.length_cons, List.length_nil]); omega) ?_; intro v2 w2 h2 hb2')
  have hb2 : Below B w1 w2 := ((Below.refl B w1).alloc h1.size _).trans hb2'
  clear hb2'
  rw [rounds_succ]
  go_wp2_with (at_builtin; refine wpList_as_one (by rfl) (.tmp 17) (.tmp 24) (by rfl) B ov ol v2 ((l ++ [d[n3]'q3]) ++ [d[n2]'q2]) (d[n1]'q1) ⟨w2.heap.size, 0, none⟩ (by rfl) (by rfl) (h2.alloc _) (cell_new _ _ _) (by (try simp only [List.length_append, List.length_cons, List.length_nil]); omega) ?_; intro v3 w3 h3 hb3')
  have hb3 : Below B w2 w3 := ((Below.refl B w2).alloc h2.size _).trans hb3'
  clear hb3'
  rw [rounds_succ]
  go_wp2_with (at_builtin; refine wpList_as_one (by rfl) (.tmp 17) (.tmp 24) (by rfl) B ov ol v3 (((l ++ [d[n3]'q3]) ++ [d[n2]'q2]) ++ [d[n1]'q1]) (d[n0]'q0) ⟨w3.heap.size, 0, none⟩ (by rfl) (by rfl) (h3.alloc _) (cell_new _ _ _) (by (try simp only [List.length_append, List.length_cons, List.length_nil]); omega) ?_; intro v4 w4 h4 hb4')
  have hb4 : Below B w3 w4 := ((Below.refl B w3).alloc h3.size _).trans hb4'
  clear hb4'
  rw [rounds_succ]
  go_wp2
  go_ret
  refine ⟨⟨_, rfl, ?_⟩, ((hb1.trans hb2).trans hb3).trans hb4⟩
  rw [HX.out]
  simpa using h4

/-- The halves of the pair. -/
def hiS (c : Int) : Int := if 1114111 < c then 65533 else 55296 + (c - 65536) / 1024
def loS (c : Int) : Int := if 1114111 < c then 65533 else 56320 + (c - 65536) % 1024

set_option maxHeartbeats 400000 in
theorem enc_any (c : Int) (w : World) (h0 : 65536 ≤ c) (h1 : c ≤ 2147483647) :
    Calls Try.prog 17 #[.int .i32 c] w fun e w' => e = .returned (.tuple #[.int .i32 (hiS c), .int .i32 (loS c)]) ∧ w = w' := by
  by_cases hb : 1114111 < c
  · have H1 : Hid (hiS c = 65533) := if_pos hb
    have H2 : Hid (loS c = 65533) := if_pos hb
    go_enter Try.func17, Try.ntmps17
    go_wp2
    go_ret2
    exact ⟨by rw [H1.out, H2.out]; rfl, rfl⟩
  · have H1 : Hid (hiS c = 55296 + (c - 65536) / 1024) := if_neg hb
    have H2 : Hid (loS c = 56320 + (c - 65536) % 1024) := if_neg hb
    have e1 : bits .and .i32 ((c - 65536) / 1024) 1023 = (c - 65536) / 1024 := by rw [and1023]; omega
    have e2 : bits .and .i32 (c - 65536) 1023 = (c - 65536) % 1024 := by rw [and1023]
    go_enter Try.func17, Try.ntmps17
    go_wp2
    go_ret2
    exact ⟨by rw [H1.out, H2.out]; rfl, rfl⟩

/-- One escape. -/
def unit (pre d : ByteArray) (c : Int) : List UInt8 := pre.data.toList ++ hex4 d c
/-- All escapes of c. -/
def code (pre d : ByteArray) (c : Int) : List UInt8 := if c ≤ 65535 then unit pre d c else unit pre d (hiS c) ++ unit pre d (loS c)

theorem hex4_length (d : ByteArray) (c : Int) : (hex4 d c).length = 4 := rfl
theorem unit_length (pre d : ByteArray) (c : Int) : (unit pre d c).length = pre.size + 4 := by
  unfold unit
  rw [List.length_append, size_eq, hex4_length]

set_option maxHeartbeats 400000 in
theorem acu_small (B : Nat) (ov v : Value) (ol l : List UInt8) (pre d : ByteArray) (c : Int) (w : World) (h : AS B ov ol w v l) (hl : l.length ≤ 4194304) (hp : pre.size ≤ 1048576) (hd : 16 ≤ d.size) (hds : d.size ≤ 1048576) (hc : -2147483648 ≤ c ∧ c ≤ 65535) :
    Calls Try.prog 15 #[v, .string pre, .int .i32 c, .string d] w fun e w' => HexPost B ov ol (l ++ unit pre d c) w e w' := by
  go_enter Try.func15, Try.ntmps15
  go_wp2_with (at_builtin; refine wpList_as_str (by rfl) (.tmp 27) (.tmp 28) (by rfl) B ov ol v l pre (by rfl) (by rfl) h (by omega) (by omega) ?_; intro v1 w1 h1 hb1)
  refine (hex_any B ov v1 ol (l ++ pre.data.toList) c d w1 h1 (by rw [List.length_append, size_eq]; omega) hd hds (by omega)).mono ?_
  rintro e w2 ⟨⟨v2, rfl, h2⟩, hb2⟩
  have h3 : AS B ov ol w2 v2 (l ++ unit pre d c) := by unfold unit; rw [← List.append_assoc]; exact h2
  go_wp2
  go_ret
  exact ⟨⟨_, rfl, h3⟩, hb1.trans hb2⟩

theorem hi_bd (c : Int) (h0 : 65536 ≤ c) (h1 : c ≤ 2147483647) : 0 ≤ hiS c ∧ hiS c ≤ 65535 := by unfold hiS; split <;> omega
theorem lo_bd (c : Int) (h0 : 65536 ≤ c) (h1 : c ≤ 2147483647) : 0 ≤ loS c ∧ loS c ≤ 65535 := by unfold loS; split <;> omega

set_option maxHeartbeats 400000 in
theorem acu_any (B : Nat) (ov v : Value) (ol l : List UInt8) (pre d : ByteArray) (c : Int) (w : World) (h : AS B ov ol w v l) (hl : l.length ≤ 2097152) (hp : pre.size ≤ 1048576) (hd : 16 ≤ d.size) (hds : d.size ≤ 1048576) (hc : -2147483648 ≤ c ∧ c ≤ 2147483647) :
    Calls Try.prog 15 #[v, .string pre, .int .i32 c, .string d] w fun e w' => HexPost B ov ol (l ++ code pre d c) w e w' := by
  by_cases hs : c ≤ 65535
  · have e : code pre d c = unit pre d c := if_pos hs
    rw [e]
    exact acu_small B ov v ol l pre d c w h (by omega) hp hd hds ⟨hc.1, hs⟩
  · have HE : Hid (code pre d c = unit pre d (hiS c) ++ unit pre d (loS c)) := if_neg hs
    have b1 := hi_bd c (by omega) hc.2
    have b2 := lo_bd c (by omega) hc.2
    go_enter Try.func15, Try.ntmps15
    go_wp2_with fail
    refine (enc_any c w (by omega) hc.2).mono ?_
    rintro e w1 ⟨rfl, rfl⟩
    go_wp2_with fail
    refine (acu_small B ov v ol l pre d (hiS c) w h (by omega) hp hd hds (by omega)).mono ?_
    rintro e w1 ⟨⟨v1, rfl, h1⟩, hb1⟩
    go_wp2_with fail
    refine (acu_small B ov v1 ol (l ++ unit pre d (hiS c)) pre d (loS c) w1 h1 (by rw [List.length_append, unit_length]; omega) hp hd hds (by omega)).mono ?_
    rintro e w2 ⟨⟨v2, rfl, h2⟩, hb2⟩
    have h3 : AS B ov ol w2 v2 (l ++ code pre d c) := by rw [HE.out, ← List.append_assoc]; exact h2
    go_wp2
    go_ret
    exact ⟨⟨_, rfl, h3⟩, hb1.trans hb2⟩

set_option maxHeartbeats 400000 in
theorem zz_any (B : Nat) (ov v : Value) (ol l : List UInt8) (pre d : ByteArray) (c : Int) (w : World) (h : AS B ov ol w v l) (hl : l.length ≤ 2097152) (hp : pre.size ≤ 1048576) (hd : 16 ≤ d.size) (hds : d.size ≤ 1048576) (hc : -2147483648 ≤ c ∧ c ≤ 2147483647) :
    Calls Try.prog 10 #[v, .string pre, .int .i32 c, .string d] w fun e w' => HexPost B ov ol (l ++ code pre d c) w e w' := by
  go_enter Try.func10, Try.ntmps10
  go_wp2_with fail
  refine (acu_any B ov v ol l pre d c w h hl hp hd hds hc).mono ?_
  rintro e w1 ⟨⟨v1, rfl, h1⟩, hb1⟩
  go_wp2
  go_ret
  exact ⟨⟨_, rfl, h1⟩, hb1⟩
end Go.Proofs.Qxb6604644a
