import Derived.Test.Qxb6604644aC
import Derived.Deep.CutRange
namespace Go.Proofs.Qxb6604644a
open Go.RowKit
set_option linter.unusedVariables false

theorem FullAt.form {B : Nat} {w : World} {ov : Value} {l : List UInt8} (h : FullAt B w ov l) : ∃ ao, ov = .slice ao l.length l.length ∧ (ao = none → l = []) := by
  rcases h with ⟨rfl, rfl⟩ | ⟨g, _, rfl, _⟩
  · exact ⟨none, rfl, fun _ => rfl⟩
  · exact ⟨_, rfl, fun h => by cases h⟩

theorem FullAt.read {B : Nat} {w : World} {ao : Option Addr} {n c : Nat} {l : List UInt8} (h : FullAt B w (.slice ao n c) l) (h0 : 0 < l.length) : ∃ g, g < B ∧ ao = some ⟨g, 0, none⟩ ∧ ∀ i, i < l.length → w.cell? ⟨g, i, none⟩ = some (.int .u8 (l.getD i 0).toNat) := by
  rcases h with ⟨_, rfl⟩ | ⟨g, hg, hv, hr⟩
  · simp at h0
  · injection hv with h1 h2 h3
    refine ⟨g, hg, h1, fun i hi => ?_⟩
    rw [cell_of_row w g i _ 5 _ hr]
    simp [bcells, hi]

/-- The law's end. -/
structure Fin (w : World) (e : Ending) (w' : World) : Prop where
  ret : e = .returned (.bool true)
  below : Below w.heap.size w w'

/-- The units as the law reckons them. -/
structure Units (pre d : ByteArray) (c : Int) (K : Nat) (un : Nat → Int) : Prop where
  one : 1 ≤ K
  two : K ≤ 2
  lo : ∀ j, j < K → 0 ≤ un j
  hi : ∀ j, j < K → un j ≤ 65535
  eq : (List.range K).flatMap (fun j => unit pre d (un j)) = code pre d c

def two (x y : Int) : Nat → Int
  | 0 => x
  | _ => y

theorem rowIs2 (x y : Int) (w : World) : (w.alloc (.cells #[.int .i64 x, .int .i64 y] 33)).rowIs w.heap.size 33 2 (fun j => .int .i64 (two x y j)) :=
  World.rowIs_alloc w _ 33 _ fun i hi => by
    match i, hi with
    | 0, _ => rfl
    | 1, _ => rfl

theorem unit_congr {pre d : ByteArray} {x y : Int} (h : x % 65536 = y % 65536) : unit pre d x = unit pre d y := by
  have h3 : x / 4096 % 16 = y / 4096 % 16 := by omega
  have h2 : x / 256 % 16 = y / 256 % 16 := by omega
  have h1 : x / 16 % 16 = y / 16 % 16 := by omega
  have h0 : x % 16 = y % 16 := by omega
  unfold unit hex4
  rw [h3, h2, h1, h0]

theorem units_bad (pre d : ByteArray) (c : Int) (h : 1114111 < c) : Units pre d c 2 (two 65533 65533) := by
  refine ⟨by omega, by omega, ?_, ?_, ?_⟩
  · intro j hj; match j, hj with
    | 0, _ => show (0 : Int) ≤ 65533; omega
    | 1, _ => show (0 : Int) ≤ 65533; omega
  · intro j hj; match j, hj with
    | 0, _ => show (65533 : Int) ≤ 65535; omega
    | 1, _ => show (65533 : Int) ≤ 65535; omega
  · unfold code
    rw [if_neg (by omega)]
    have e1 : hiS c = 65533 := if_pos h
    have e2 : loS c = 65533 := if_pos h
    rw [e1, e2]
    simp [List.range_succ, two]

theorem units_pair (pre d : ByteArray) (c : Int) (h0 : 65536 ≤ c) (h1 : ¬ 1114111 < c) : Units pre d c 2 (two (55296 + (c - 65536) / 1024) (56320 + (c - 65536) % 1024)) := by
  refine ⟨by omega, by omega, ?_, ?_, ?_⟩
  · intro j hj; match j, hj with
    | 0, _ => show 0 ≤ 55296 + (c - 65536) / 1024; omega
    | 1, _ => show 0 ≤ 56320 + (c - 65536) % 1024; omega
  · intro j hj; match j, hj with
    | 0, _ => show 55296 + (c - 65536) / 1024 ≤ 65535; omega
    | 1, _ => show 56320 + (c - 65536) % 1024 ≤ 65535; omega
  · unfold code
    rw [if_neg (by omega)]
    have e1 : hiS c = 55296 + (c - 65536) / 1024 := if_neg h1
    have e2 : loS c = 56320 + (c - 65536) % 1024 := if_neg h1
    rw [e1, e2]
    simp [List.range_succ, two]

theorem units_one (pre d : ByteArray) (c : Int) (h : ¬ 65536 ≤ c) : Units pre d c 1 (two (wrap64 (IntKind.u16.wrap c)) 0) := by
  have e : wrap64 (IntKind.u16.wrap c) = c % 65536 := by
    rw [IntKind.wrap_u16]
    unfold wrap64
    omega
  rw [e]
  refine ⟨by omega, by omega, ?_, ?_, ?_⟩
  · intro j hj; match j, hj with
    | 0, _ => show 0 ≤ c % 65536; omega
  · intro j hj; match j, hj with
    | 0, _ => show c % 65536 ≤ 65535; omega
  · unfold code
    rw [if_pos (by omega)]
    have e2 : unit pre d (c % 65536) = unit pre d c := unit_congr (by omega)
    simp [List.range_succ, two, e2]

theorem make_want (n m : Nat) (h : n + m ≤ 16777216) (w : World) :
    (Instr.makeSlice 29 (.int .i64 0) (.int .i64 ((n : Int) + (m : Int)))).run Try.prog w = .ok (.slice (some ⟨w.heap.size, 0, none⟩) 0 (n + m)) (w.alloc (.cells (madeCells #[Value.int .u8 0] (n + m)) 5)) := by
  obtain ⟨i, hi, hz0, hz1, hz2⟩ := info_parts Try.info5
  have hr := run_make (P := Try.prog) w 29 5 i (.int .u8 0) Try.underlying29 hi hz0 .i64 .i64 0 ((n : Int) + (m : Int)) (by omega) (by omega) (by rw [hz2]; omega) (by omega)
  rw [hz1, Nat.mul_one, show ((n : Int) + (m : Int)).toNat = n + m from by omega] at hr
  exact hr

theorem take_succ' (l : List UInt8) (k : Nat) (h : k < l.length) : l.take (k + 1) = l.take k ++ [l.getD k 0] := by
  rw [List.take_succ_eq_append_getElem h]
  simp [List.getD, h]

/-- The first j escapes. -/
def flat (pre d : ByteArray) (un : Nat → Int) (j : Nat) : List UInt8 := (List.range j).flatMap (fun j => unit pre d (un j))
theorem flat_succ (pre d : ByteArray) (un : Nat → Int) (j : Nat) : flat pre d un (j + 1) = flat pre d un j ++ unit pre d (un j) := by
  unfold flat
  rw [List.range_succ, List.flatMap_append]
  simp
theorem flat_length (pre d : ByteArray) (un : Nat → Int) (j : Nat) : (flat pre d un j).length = j * (pre.size + 4) := by
  induction j with
  | zero => simp [flat]
  | succ j ih => rw [flat_succ, List.length_append, ih, unit_length, Nat.succ_mul]

theorem take_snoc (s : ByteArray) (k : Nat) (h : k < s.size) : s.data.toList.take (k + 1) = s.data.toList.take k ++ [s[k]] := by
  rw [List.take_succ_eq_append_getElem (by simpa using h)]
  rfl

theorem nib4 (d : ByteArray) (x : Int) (h16 : 16 ≤ d.size) : ∃ n3 n2 n1 n0 : Nat, x / 4096 % 16 = n3 ∧ x / 256 % 16 = n2 ∧ x / 16 % 16 = n1 ∧ x % 16 = n0 ∧ ∃ (q3 : n3 < d.size) (q2 : n2 < d.size) (q1 : n1 < d.size) (q0 : n0 < d.size), hex4 d x = [d[n3], d[n2], d[n1], d[n0]] := by
  refine ⟨(x / 4096 % 16).toNat, (x / 256 % 16).toNat, (x / 16 % 16).toNat, (x % 16).toNat, by omega, by omega, by omega, by omega, by omega, by omega, by omega, by omega, ?_⟩
  unfold hex4
  rw [dgt_in (show (x / 4096 % 16).toNat < d.size by omega), dgt_in (show (x / 256 % 16).toNat < d.size by omega), dgt_in (show (x / 16 % 16).toNat < d.size by omega), dgt_in (show (x % 16).toNat < d.size by omega)]

theorem AS.rdB {B : Nat} {ov : Value} {ol l : List UInt8} {w : World} {a : Option Addr} {n c : Nat} (h : AS B ov ol w (.slice a n c) l) : RdB w a l := by
  by_cases h0 : l.length = 0
  · exact Or.inl (List.eq_nil_of_length_eq_zero h0)
  · obtain ⟨g, c', hv, hc⟩ := h.read (by omega)
    injection hv with h1 h2 h3
    refine Or.inr ⟨g, 0, h1, fun i hi => ?_⟩
    rw [Nat.zero_add, hc i hi]
    simp [List.getD, hi]

theorem RdB.below {B : Nat} {w w' : World} {a : Option Addr} {l : List UInt8} (h : RdB w a l) (hb : Below B w w') (hB : w.heap.size ≤ B) : RdB w' a l := by
  rcases h with h | ⟨b, off, ha, hc⟩
  · exact Or.inl h
  · exact Or.inr ⟨b, off, ha, fun i hi => (hb.cell (p := ⟨b, off + i, none⟩) (by have := cell_lt (hc i hi); show b < B; have : b < w.heap.size := this; omega)).trans (hc i hi)⟩

theorem RdB.drewN {w : World} {a : Option Addr} {l : List UInt8} (h : RdB w a l) (n : Nat) : RdB (w.drewN n) a l := h

set_option maxHeartbeats 1000000 in
set_option maxRecDepth 100000 in
theorem exact_any (a : Option Addr) (cap : Nat) (l : List UInt8) (pre d : ByteArray) (c : Int) (w : World) (hn : l.length ≤ maxLen) (hz : a = none → l = []) (hr : RdB w a l) (hp : pre.size ≤ maxLen) (hd : d.size ≤ maxLen) (hc : -2147483648 ≤ c ∧ c ≤ 2147483647) :
    Calls Try.prog 5 #[.slice a l.length cap, .string pre, .int .i32 c, .string d] w fun e w' => Fin w e w' := by
  go_enter Try.func5, Try.ntmps5
  go_wp2_with fail
  refine (bytes8 a l.length cap pre d c w hn hp hd).mono ?_
  rintro e w1 ⟨⟨b, rfl, hb⟩, rfl⟩
  cases b with
  | false =>
    go_wp2
    go_ret
    exact ⟨rfl, Below.refl _ _⟩
  | true =>
    obtain ⟨b1, b2, b3⟩ := hb rfl
    clear hb
    by_cases hsum : 1048576 < l.length + pre.size + d.size
    · go_wp2
      go_ret
      exact ⟨rfl, Below.refl _ _⟩
    by_cases h16 : d.size < 16
    · go_wp2
      go_ret
      exact ⟨rfl, Below.refl _ _⟩
    go_wp2_with fail
    refine (clone_any a cap l w b1 hz hr).mono ?_
    rintro e w1 ⟨⟨ov, rfl, hF⟩, hB1⟩
    obtain ⟨ao, rfl, hao⟩ := hF.form
    go_wp2_with fail
    refine (zz_any w1.heap.size (.slice ao l.length l.length) (.slice ao l.length l.length) l l pre d c w1 ⟨Nat.le_refl _, hF, Or.inl ⟨rfl, rfl⟩⟩ (by omega) b2 (by omega) b3 hc).mono ?_
    rintro e w2 ⟨⟨gv, rfl, hG⟩, hB2⟩
    obtain ⟨T, HT⟩ : ∃ T, Hid (T = l ++ code pre d c) := ⟨_, rfl⟩
    rw [← HT.out] at hG
    obtain ⟨ga, gc, hgv⟩ := hG.form
    subst hgv
    have hs1 := hB1.size
    have hs2 := hB2.size
    go_upto_if 46 with fail
    go_cut [11] from 20 (fun k wr => ∃ (K : Nat) (un : Nat → Int), k = .int .i64 K ∧ Units pre d c K un ∧ wr.rowIs w2.heap.size 33 2 (fun j => .int .i64 (un j)) ∧ Below w2.heap.size w2 wr)
    case first =>
      by_cases h1 : 1114111 < c
      · go_wp2
        go_meet
        case rel => exact ⟨2, two 65533 65533, rfl, units_bad pre d c h1, rowIs2 _ _ _, (Below.refl _ _).alloc (Nat.le_refl _) _⟩
      · by_cases h2 : 65536 ≤ c
        · go_wp2
          go_meet
          case rel => exact ⟨2, two (55296 + (c - 65536) / 1024) (56320 + (c - 65536) % 1024), rfl, units_pair pre d c h2 (by omega), rowIs2 _ _ _, (Below.refl _ _).alloc (Nat.le_refl _) _⟩
        · go_wp2
          go_meet
          case rel => exact ⟨1, two (wrap64 (IntKind.u16.wrap c)) 0, rfl, units_one pre d c (by omega), rowIs2 _ _ _, (Below.refl _ _).alloc (Nat.le_refl _) _⟩
    case rest =>
      obtain ⟨K, un, rfl, hU, hrU, hBc⟩ := hcut
      obtain ⟨M, hM, HMM⟩ : ∃ M : Nat, (K : Int) * ((pre.size : Int) + 4) = (M : Int) ∧ Hid (M = K * (pre.size + 4)) := ⟨K * (pre.size + 4), by simp, rfl⟩
      have hMle : M ≤ 2097160 := by
        have h1 := hU.two
        have h2 : K * (pre.size + 4) ≤ 2 * (pre.size + 4) := Nat.mul_le_mul_right _ h1
        have h3 := HMM.out
        omega
      have hmk := fun wx => make_want l.length M (by omega) wx
      obtain ⟨W3, HW3⟩ : ∃ W3, Hid (W3 = wc.alloc (.cells (madeCells #[Value.int .u8 0] (l.length + M)) 5)) := ⟨_, rfl⟩
      have hA3 : AS wc.heap.size (.slice none 0 0) [] W3 (.slice (some ⟨wc.heap.size, 0, none⟩) 0 (l.length + M)) [] := by
        rw [HW3.out]
        exact ⟨by simp, Or.inl ⟨rfl, rfl⟩, Or.inr (World.ownsRow_made wc _ _ (Nat.le_refl _) (by unfold maxLen; omega) (by simp [size_madeCells]))⟩
      have hB3 : Below wc.heap.size wc W3 := by
        rw [HW3.out]
        exact (Below.refl _ _).alloc (Nat.le_refl _) _
      have hsc := hBc.size
      have hFc : FullAt w1.heap.size wc (.slice ao l.length l.length) l := hG.out.below (hBc.mono hs2)
      go_wp2
      rw [← HW3.out]
      clear HW3 hmk hM
      go_loopw [14, 15] (fun v i wr => ∃ k : Nat, k ≤ l.length ∧ i = .int .i64 k ∧ AS wc.heap.size (.slice none 0 0) [] wr v (l.take k) ∧ Below wc.heap.size wc wr) (fun _ i _ => l.length - (intOf i).toNat)
      case atStart => exact ⟨0, Nat.zero_le _, rfl, hA3, hB3⟩
      case round =>
        clear hA3 hB3 W3
        obtain ⟨k, hk, rfl, hA, hBr⟩ := hrel
        by_cases hlt : k < l.length
        · obtain ⟨g, hg, rfl, hcell⟩ := hFc.read (by omega)
          have hck : wr.cell? ⟨g, k, none⟩ = some (.int .u8 (l.getD k 0).toNat) := (hBr.cell (p := ⟨g, k, none⟩) (by show g < _; omega)).trans (hcell k hlt)
          have HX : Hid (l.take (k + 1) = l.take k ++ [l.getD k 0]) := take_succ' l k hlt
          have hlen : (l.take k).length ≤ 16777216 := by rw [List.length_take]; omega
          clear hcell
          generalize l.getD k 0 = x at *
          go_wp2_with (at_builtin; refine wpList_as_one (by rfl) (.tmp 82) (.tmp 87) (by rfl) wc.heap.size (.slice none 0 0) [] _ (l.take k) x ⟨wr.heap.size, 0, none⟩ (by rfl) (by rfl) (hA.alloc _) (cell_new _ _ _) hlen ?_; intro v1 wr1 hA1 hB1r)
          have hB' : Below wc.heap.size wc wr1 := (hBr.alloc hA.size _).trans hB1r
          rw [← HX.out] at hA1
          go_roundw
          case rel => exact ⟨k + 1, by omega, by go_num, hA1, hB'⟩
          case measure => simp [intOf]; omega
        · have hkl : l.take k = l := List.take_of_length_le (by omega)
          rw [hkl] at hA
          clear hkl
          go_wp2
          clear hlt hk
          go_loopw [14, 16] (fun v i wr => ∃ j : Nat, j ≤ K ∧ i = .int .i64 j ∧ AS wc.heap.size (.slice none 0 0) [] wr v (l ++ flat pre d un j) ∧ Below wc.heap.size wc wr) (fun _ i _ => K - (intOf i).toNat)
          case atStart => exact ⟨0, Nat.zero_le _, rfl, by simpa [flat] using hA, hBr⟩
          case round =>
            clear hA hBr
            obtain ⟨j, hj, rfl, hA, hBr⟩ := hrel
            obtain ⟨Lj, HLj⟩ : ∃ Lj, Hid (Lj = l ++ flat pre d un j) := ⟨_, rfl⟩
            rw [← HLj.out] at hA
            have hK2 := hU.two
            have hLl : Lj.length ≤ 4194304 := by
              have h2 : j * (pre.size + 4) ≤ 2 * (pre.size + 4) := Nat.mul_le_mul_right _ (by omega)
              rw [HLj.out, List.length_append, flat_length]
              omega
            by_cases hlt : j < K
            · go_wp2
              go_loopw [14, 17] (fun v i wr => ∃ k : Nat, k ≤ pre.size ∧ i = .int .i64 k ∧ AS wc.heap.size (.slice none 0 0) [] wr v (Lj ++ pre.data.toList.take k) ∧ Below wc.heap.size wc wr) (fun _ i _ => pre.size - (intOf i).toNat)
              case atStart => exact ⟨0, Nat.zero_le _, rfl, by simpa using hA, hBr⟩
              case round =>
                clear hA hBr
                obtain ⟨k, hk, rfl, hA, hBr⟩ := hrel
                by_cases hkl : k < pre.size
                · have HX : Hid (pre.data.toList.take (k + 1) = pre.data.toList.take k ++ [pre[k]]) := take_snoc pre k hkl
                  have hlen : (Lj ++ pre.data.toList.take k).length ≤ 16777216 := by rw [List.length_append, List.length_take]; omega
                  go_wp2_with (at_builtin; refine wpList_as_one (by rfl) (.tmp 100) (.tmp 104) (by rfl) wc.heap.size (.slice none 0 0) [] _ (Lj ++ pre.data.toList.take k) pre[k] ⟨wr.heap.size, 0, none⟩ (by rfl) (by rfl) (hA.alloc _) (cell_new _ _ _) hlen ?_; intro v1 wr1 hA1 hB1r)
                  have hB' : Below wc.heap.size wc wr1 := (hBr.alloc hA.size _).trans hB1r
                  rw [List.append_assoc, ← HX.out] at hA1
                  go_roundw
                  case rel => exact ⟨k + 1, by omega, by go_num, hA1, hB'⟩
                  case measure => simp [intOf]; omega
                · have hkl' : pre.data.toList.take k = pre.data.toList := List.take_of_length_le (by rw [size_eq]; omega)
                  rw [hkl'] at hA
                  have hpl := size_eq pre
                  clear hkl'
                  obtain ⟨x, HX⟩ : ∃ x, Hid (x = un j) := ⟨_, rfl⟩
                  have hx0 : 0 ≤ x := by rw [HX.out]; exact hU.lo j hlt
                  have hx1 : x ≤ 65535 := by rw [HX.out]; exact hU.hi j hlt
                  have hcu : wr.cell? ⟨w2.heap.size, j, none⟩ = some (.int .i64 x) := by
                    rw [HX.out]
                    exact (hBr.cell (p := ⟨w2.heap.size, j, none⟩) hrU.lt).trans (hrU.cell (by omega))
                  obtain ⟨n3, n2, n1, n0, e3, e2, e1, e0, q3, q2, q1, q0, hh⟩ := nib4 d x (by omega)
                  have HH : Hid (hex4 d x = [d[n3], d[n2], d[n1], d[n0]]) := hh
                  clear hh
                  go_wp2_with (first | (at_builtin; refine wpList_as_one (by rfl) (.tmp 109) (.tmp 115) (by rfl) wc.heap.size (.slice none 0 0) [] _ (Lj ++ pre.data.toList) (d[n3]'q3) ⟨wr.heap.size, 0, none⟩ (by rfl) (by rfl) (hA.alloc _) (cell_new _ _ _) (by simp only [List.length_append]; omega) ?_; intro v1 x1 hA1 hb1) | (at_builtin; refine wpList_as_one (by rfl) (.tmp 117) (.tmp 123) (by rfl) wc.heap.size (.slice none 0 0) [] _ ((Lj ++ pre.data.toList) ++ [d[n3]'q3]) (d[n2]'q2) ⟨x1.heap.size, 0, none⟩ (by rfl) (by rfl) (hA1.alloc _) (cell_new _ _ _) (by (try simp only [List.length_append, List.length_cons, List.length_nil]); omega) ?_; intro v2 x2 hA2 hb2) | (at_builtin; refine wpList_as_one (by rfl) (.tmp 125) (.tmp 131) (by rfl) wc.heap.size (.slice none 0 0) [] _ (((Lj ++ pre.data.toList) ++ [d[n3]'q3]) ++ [d[n2]'q2]) (d[n1]'q1) ⟨x2.heap.size, 0, none⟩ (by rfl) (by rfl) (hA2.alloc _) (cell_new _ _ _) (by (try simp only [List.length_append, List.length_cons, List.length_nil]); omega) ?_; intro v3 x3 hA3 hb3) | (at_builtin; refine wpList_as_one (by rfl) (.tmp 133) (.tmp 138) (by rfl) wc.heap.size (.slice none 0 0) [] _ ((((Lj ++ pre.data.toList) ++ [d[n3]'q3]) ++ [d[n2]'q2]) ++ [d[n1]'q1]) (d[n0]'q0) ⟨x3.heap.size, 0, none⟩ (by rfl) (by rfl) (hA3.alloc _) (cell_new _ _ _) (by (try simp only [List.length_append, List.length_cons, List.length_nil]); omega) ?_; intro v4 x4 hA4 hb4))
                  have hB' : Below wc.heap.size wc x4 := ((((((((hBr.alloc hA.size _).trans hb1).alloc hA1.size _).trans hb2).alloc hA2.size _).trans hb3).alloc hA3.size _).trans hb4)
                  have hA5 : AS wc.heap.size (.slice none 0 0) [] x4 v4 (l ++ flat pre d un (j + 1)) := by
                    rw [flat_succ, ← List.append_assoc, ← HLj.out, ← HX.out]
                    unfold unit
                    rw [HH.out]
                    simpa using hA4
                  go_roundw
                  case rel => exact ⟨j + 1, by omega, by go_num, hA5, hB'⟩
                  case measure => simp [intOf]; omega
            · have hjK : j = K := by omega
              have hLT : Lj = T := by rw [HLj.out, HT.out, hjK]; exact congrArg _ hU.eq
              rw [hLT] at hA
              obtain ⟨va, vc, hv⟩ := hA.form
              subst hv
              clear hjK hLT
              have hR1 : RdB wr ga T := (hG.rdB.below hBc (Nat.le_refl _)).below hBr (Nat.le_refl _)
              have hR2 : RdB wr va T := hA.rdB
              have hBw : Below w.heap.size w wr := ((hB1.trans (hB2.mono hs1)).trans (hBc.mono (by omega))).trans (hBr.mono (by omega))
              have hTl : T.length ≤ 8388608 := by
                rw [HT.out, List.length_append, ← hU.eq]
                have h2 : K * (pre.size + 4) ≤ 2 * (pre.size + 4) := Nat.mul_le_mul_right _ hK2
                have h3 := flat_length pre d un K
                unfold flat at h3
                omega
              go_wp2
              go_loopw [19] (fun i wr => ∃ k : Nat, k ≤ T.length ∧ i = .int .i64 k ∧ RdB wr ga T ∧ RdB wr va T ∧ Below w.heap.size w wr) (fun i _ => T.length - (intOf i).toNat)
              case atStart => exact ⟨0, Nat.zero_le _, rfl, hR1, hR2, hBw⟩
              case round =>
                clear hR1 hR2 hBw hA hBr
                obtain ⟨k, hk, rfl, hR1, hR2, hBw⟩ := hrel
                by_cases hkl : k < T.length
                · rcases hR1 with h | ⟨g1, o1, rfl, h1⟩
                  · rw [h] at hkl; simp at hkl
                  rcases hR2 with h | ⟨g2, o2, rfl, h2⟩
                  · rw [h] at hkl; simp at hkl
                  have r1 := h1 k hkl
                  have r2 := h2 k hkl
                  have HR1 : Hid (RdB wr (some ⟨g1, o1, none⟩) T) := Or.inr ⟨g1, o1, rfl, h1⟩
                  have HR2 : Hid (RdB wr (some ⟨g2, o2, none⟩) T) := Or.inr ⟨g2, o2, rfl, h2⟩
                  clear h1 h2
                  generalize T.getD k 0 = x at r1 r2
                  go_wp2_with fail
                  go_quiet (fail)
                  go_wp2
                  go_roundw
                  case rel => exact ⟨k + 1, by omega, by go_num, HR1.out.drewN _, HR2.out.drewN _, below_drewN hBw _⟩
                  case measure => simp [intOf]; omega
                · go_wp2
                  go_ret
                  exact ⟨rfl, hBw⟩
end Go.Proofs.Qxb6604644a
