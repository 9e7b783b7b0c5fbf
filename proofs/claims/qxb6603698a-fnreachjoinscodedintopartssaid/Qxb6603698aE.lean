import Derived.Test.Qxb6603698aD
import Derived.Laws.BitsAllLaws
namespace Go.Proofs.Qxb6603698a
open Go.RowKit
set_option linter.unusedVariables false

/-- What the law leaves: true; nothing that was there has turned. -/
structure Fin (w : World) (e : Ending) (w' : World) : Prop where
  ret : e = .returned (.bool true)
  below : Below w.heap.size w w'

/-- What is known of the law's arguments. -/
structure Args (a0 : Option Addr) (len0 : Nat) (f : Nat → Int) (u : Int) (V : Nat → Value) (A : Nat → Option Addr) (L C : Nat → Nat) (F : Nat → Nat → Int) (U : Nat → Int) (pend p : Int) (w : World) : Prop where
  len : len0 ≤ maxLen
  nil0 : a0 = none → len0 = 0
  rd : Rd w a0 len0 f
  word : ∀ j, 0 ≤ f j ∧ f j < 18446744073709551616
  val : ∀ i, i < 6 → V i = .slice (A i) (L i) (C i)
  lens : ∀ i, i < 6 → L i ≤ maxLen
  nils : ∀ i, i < 6 → A i = none → L i = 0
  rds : ∀ i, i < 6 → Rd w (A i) (L i) (F i)
  words : ∀ i j, 0 ≤ F i j ∧ F i j < 18446744073709551616
  u0 : -9223372036854775808 ≤ u ∧ u ≤ 9223372036854775807
  us : ∀ i, i < 6 → -9223372036854775808 ≤ U i ∧ U i ≤ 9223372036854775807
  p0 : -9223372036854775808 ≤ p ∧ p ≤ 9223372036854775807

/-- How many of the first k counts are positive. -/
def cntTo (U : Nat → Int) : Nat → Nat
  | 0 => 0
  | k + 1 => cntTo U k + if 0 < U k then 1 else 0

theorem cntTo_le (U : Nat → Int) (k : Nat) : cntTo U k ≤ k := by
  induction k with
  | zero => exact Nat.le_refl _
  | succ k ih => unfold cntTo; split <;> omega

/-- The invariant of one coded set. -/
structure GoodU (len0 : Nat) (L : Nat → Nat) (F : Nat → Nat → Int) (U : Nat → Int) (i : Nat) : Prop where
  pos : 0 ≤ U i
  le : U i ≤ L i
  le0 : U i ≤ len0
  zero : ∀ j : Nat, U i ≤ j → j < L i → F i j = 0

/-- What is known of the world behind the call of ZZReach. -/
structure FW (H G R : Nat) (a1 a2 : Option Addr) (len0 : Nat) (A1 A2 : Nat → Option Addr) (L C1 C2 : Nat → Nat) (F : Nat → Nat → Int) (f : Nat → Int) (U : Nat → Int) (at_ N : Nat) (w wr : World) : Prop where
  p1 : Rd wr a1 len0 f
  np : Rd wr a2 len0 (newParts N f (F at_))
  cd : ∀ i, i < 6 → wr.cell? ⟨H, i, none⟩ = some (.slice (A1 i) (L i) (C1 i))
  nc : ∀ i, i < 6 → wr.cell? ⟨G, i, none⟩ = some (.slice (A2 i) (L i) (C2 i))
  cu : ∀ i, i < 6 → wr.cell? ⟨H + 1, i, none⟩ = some (.int .i64 (U i))
  gcu : ∀ i, i < 6 → wr.cell? ⟨R, i, none⟩ = some (.int .i64 (newUsed at_ U i))
  rdc : ∀ i, i < 6 → Rd wr (A1 i) (L i) (F i)
  rdn : ∀ i, i < 6 → Rd wr (A2 i) (L i) (newCoded at_ N F i)
  below : Below w.heap.size w wr

theorem FW.drewN {H G R : Nat} {a1 a2 : Option Addr} {len0 : Nat} {A1 A2 : Nat → Option Addr} {L C1 C2 : Nat → Nat} {F : Nat → Nat → Int} {f : Nat → Int} {U : Nat → Int} {at_ N : Nat} {w wr : World} (h : FW H G R a1 a2 len0 A1 A2 L C1 C2 F f U at_ N w wr) (n : Nat) : FW H G R a1 a2 len0 A1 A2 L C1 C2 F f U at_ N w (wr.drewN n) :=
  ⟨h.p1, h.np, h.cd, h.nc, h.cu, h.gcu, h.rdc, h.rdn, below_drewN h.below n⟩

theorem or_zero (a : Int) (h0 : 0 ≤ a) (h1 : a < 18446744073709551616) : bits .or .u64 a 0 = a := by
  rw [u64_or a 0 h0 h1 (by omega) (by omega)]
  simp
  omega

theorem np_hit {N : Nat} {f h : Nat → Int} {k : Nat} (h0 : 0 ≤ f k ∧ f k < 18446744073709551616) (hz : N ≤ k → h k = 0) : newParts N f h k = bits .or .u64 (f k) (h k) := by
  unfold newParts
  split
  · rfl
  · rw [hz (by omega), or_zero _ h0.1 h0.2]

theorem np_miss {N : Nat} {f h : Nat → Int} {k : Nat} (hk : N ≤ k) : newParts N f h k = f k := if_neg (by omega)

theorem cnt_new (at_ : Nat) (U : Nat → Int) (k : Nat) : cntTo U k = cntTo (newUsed at_ U) k + if at_ < k ∧ 0 < U at_ then 1 else 0 := by
  induction k with
  | zero => simp [cntTo]
  | succ k ih =>
    unfold cntTo
    rw [ih]
    by_cases e : k = at_
    · subst e
      have h1 : newUsed k U k = 0 := if_pos rfl
      rw [h1]
      by_cases hp : 0 < U k
      · rw [if_pos hp, if_neg (by omega), if_neg (by omega), if_pos ⟨by omega, hp⟩]
      · rw [if_neg hp, if_neg (by omega), if_neg (by omega), if_neg (by omega)]
    · have h1 : newUsed at_ U k = U k := if_neg e
      rw [h1]
      have hiff : (at_ < k + 1 ∧ 0 < U at_) ↔ (at_ < k ∧ 0 < U at_) := by omega
      simp only [hiff]
      exact Nat.add_right_comm _ _ _

theorem pend_new {at_ N : Nat} {U : Nat → Int} {pend : Int} (h : at_ < 6) (hN : U at_ = N) (hp : pend = (cntTo U 6 : Int)) : newPend N pend = (cntTo (newUsed at_ U) 6 : Int) := by
  have hc := cnt_new at_ U 6
  unfold newPend
  by_cases h0 : N = 0
  · rw [if_pos h0, hp, hc, if_neg (by omega)]; omega
  · rw [if_neg h0, hp, hc, if_pos ⟨h, by omega⟩]; omega

set_option maxHeartbeats 1000000 in
set_option maxRecDepth 100000 in
theorem law_any (a0 : Option Addr) (len0 cap0 : Nat) (f : Nat → Int) (u : Int) (V : Nat → Value) (A : Nat → Option Addr) (L C : Nat → Nat) (F : Nat → Nat → Int) (U : Nat → Int) (pend p : Int) (w : World) (hA : Args a0 len0 f u V A L C F U pend p w) :
    Calls Try.prog 3 #[.slice a0 len0 cap0, .int .i64 u, .agg #[V 0, V 1, V 2, V 3, V 4, V 5], .agg #[.int .i64 (U 0), .int .i64 (U 1), .int .i64 (U 2), .int .i64 (U 3), .int .i64 (U 4), .int .i64 (U 5)], .int .i64 pend, .int .i64 p] w fun e w' => Fin w e w' := by
  obtain ⟨W, hW, hB, hsz, hr1, hr2⟩ := box2 V (fun i => .int .i64 (U i)) 23 24 w
  have HW : Hid (W = (w.alloc (.cells #[V 0, V 1, V 2, V 3, V 4, V 5] 23)).alloc (.cells #[.int .i64 (U 0), .int .i64 (U 1), .int .i64 (U 2), .int .i64 (U 3), .int .i64 (U 4), .int .i64 (U 5)] 24)) := hW
  clear hW
  go_enter Try.func3, Try.ntmps3
  go_wp2_with fail
  rw [← HW.out]
  clear HW
  refine (bytes_any a0 len0 cap0 u V (fun i => .int .i64 (U i)) A L C pend p W hA.len hA.val hA.lens).mono ?_
  rintro e w1 ⟨⟨b, rfl, hb⟩, hB1⟩
  have hB1' := hB.trans (hB1.mono (by omega))
  have hs1 : w.heap.size + 2 ≤ w1.heap.size := by have := hB1.size; omega
  have hr1' := hr1.of_block (hB1.block _ hr1.lt)
  have hr2' := hr2.of_block (hB1.block _ hr2.lt)
  clear hr1 hr2 hB hB1 hsz W
  cases b with
  | false =>
    go_wp2
    go_ret
    exact ⟨rfl, hB1'⟩
  | true =>
    obtain ⟨hl0, hls⟩ := hb rfl
    clear hb
    have c0 : w1.cell? ⟨w.heap.size, 0, none⟩ = some (V 0) := hr1'.cell (by omega)
    have c1 : w1.cell? ⟨w.heap.size, 1, none⟩ = some (V 1) := hr1'.cell (by omega)
    have c2 : w1.cell? ⟨w.heap.size, 2, none⟩ = some (V 2) := hr1'.cell (by omega)
    have c3 : w1.cell? ⟨w.heap.size, 3, none⟩ = some (V 3) := hr1'.cell (by omega)
    have c4 : w1.cell? ⟨w.heap.size, 4, none⟩ = some (V 4) := hr1'.cell (by omega)
    have c5 : w1.cell? ⟨w.heap.size, 5, none⟩ = some (V 5) := hr1'.cell (by omega)
    go_wp2_with fail
    refine (words_any a0 len0 cap0 V A L C w1 hA.val).mono ?_
    rintro e w2 ⟨⟨t, rfl⟩, hB2⟩
    have hBw := hB1'.trans (hB2.mono (by omega))
    have hs2 : w.heap.size + 2 ≤ w2.heap.size := by have := hB2.size; omega
    have hb1 := hr1'.of_block (hB2.block _ hr1'.lt)
    have hb2 := hr2'.of_block (hB2.block _ hr2'.lt)
    clear hr1' hr2' hB1' hs1 c0 c1 c2 c3 c4 c5 hB2 w1
    by_cases ht : (131072 : Int) < t
    · have ht' : decide ((131072 : Int) < t) = true := by simpa using ht
      go_wp2
      go_ret
      exact ⟨rfl, hBw⟩
    have ht' : decide ((131072 : Int) < t) = false := by simpa using ht
    clear ht
    have hp := hA.p0
    by_cases hp0 : p < 0
    · have hp' : decide (p < 0) = true := by simpa using hp0
      go_wp2
      go_ret
      exact ⟨rfl, hBw⟩
    obtain ⟨q, rfl⟩ := Int.eq_ofNat_of_zero_le (show 0 ≤ p by omega)
    have hp' : decide ((q : Int) < 0) = false := by simp
    clear hp0
    have hu := hA.u0
    by_cases hu0 : u < 0
    · have hu' : decide (u < 0) = true := by simpa using hu0
      go_wp2
      go_ret
      exact ⟨rfl, hBw⟩
    obtain ⟨un, rfl⟩ := Int.eq_ofNat_of_zero_le (show 0 ≤ u by omega)
    have hu' : decide ((un : Int) < 0) = false := by simp
    clear hu0
    by_cases hul : len0 < un
    · have hul' : decide ((len0 : Int) < (un : Int)) = true := by simpa using hul
      go_wp2
      go_ret
      exact ⟨rfl, hBw⟩
    have hul' : decide ((len0 : Int) < (un : Int)) = false := by simp; omega
    go_wp2
    go_loop [13] (fun i => ∃ k : Nat, un ≤ k ∧ k ≤ len0 ∧ i = .int .i64 k ∧ ∀ j, un ≤ j → j < k → f j = 0) (fun i => len0 - (intOf i).toNat)
    case atStart => exact ⟨un, Nat.le_refl _, by omega, rfl, fun j h1 h2 => absurd h2 (by omega)⟩
    case round =>
      obtain ⟨k, hk0, hk, rfl, hz0⟩ := hrel
      by_cases hlt : k < len0
      · rcases hA.rd with h | ⟨b, off, rfl, hc⟩
        · omega
        have hck : w2.cell? ⟨b, off + k, none⟩ = some (.int .u64 (f k)) := (hBw.cell (p := ⟨b, off + k, none⟩) (cell_lt (hc k hlt))).trans (hc k hlt)
        by_cases hfk : f k = 0
        · have hfb : (f k != 0) = false := by simp [hfk]
          have HZ : Hid (∀ j, un ≤ j → j < k + 1 → f j = 0) := fun j h1 h2 => by rcases Nat.lt_succ_iff_lt_or_eq.1 h2 with h | h; exact hz0 j h1 h; rw [h]; exact hfk
          clear hfk hz0
          go_wp2
          go_round
          case rel => exact ⟨k + 1, by omega, by omega, by go_num, HZ.out⟩
          case measure => simp [intOf]; omega
        · have hfb : (f k != 0) = true := by simp [hfk]
          go_wp2
          go_ret
          exact ⟨rfl, hBw⟩
      · have HZ : Hid (∀ j, un ≤ j → j < len0 → f j = 0) := fun j h1 h2 => hz0 j h1 (by omega)
        clear hz0
        go_wp2
        clear hlt hk hk0
        go_loop [14, 15] (fun c i => ∃ k : Nat, k ≤ 6 ∧ i = .int .i64 k ∧ c = .int .i64 (cntTo U k) ∧ ∀ i, i < k → GoodU len0 L F U i) (fun _ i => 6 - (intOf i).toNat)
        case atStart => exact ⟨0, by omega, rfl, rfl, fun i hi => absurd hi (Nat.not_lt_zero i)⟩
        case round =>
          obtain ⟨k, hk, rfl, rfl, hG⟩ := hrel
          have HG : Hid (∀ i, i < k → GoodU len0 L F U i) := hG
          clear hG
          by_cases hlt : k < 6
          · have hcu : w2.cell? ⟨w.heap.size + 1, k, none⟩ = some (.int .i64 (U k)) := hb2.cell hlt
            obtain ⟨ak, hak⟩ : ∃ ak, ak = A k := ⟨_, rfl⟩
            have hcc : w2.cell? ⟨w.heap.size, k, none⟩ = some (.slice ak (L k) (C k)) := by rw [hb1.cell hlt, hA.val k hlt, hak]
            have hRk : Rd w ak (L k) (F k) := by rw [hak]; exact hA.rds k hlt
            clear hak
            by_cases hn : U k < 0
            · have hn' : decide (U k < 0) = true := by simpa using hn
              go_wp2
              go_ret
              exact ⟨rfl, hBw⟩
            obtain ⟨Un, hUn⟩ := Int.eq_ofNat_of_zero_le (show 0 ≤ U k by omega)
            rw [hUn] at hcu
            have HU : Hid (U k = Un) := hUn
            clear hUn hn
            have hn' : decide ((Un : Int) < 0) = false := by simp
            by_cases h1 : L k < Un
            · have h1' : decide ((L k : Int) < (Un : Int)) = true := by simpa using h1
              go_wp2
              go_ret
              exact ⟨rfl, hBw⟩
            have h1' : decide ((L k : Int) < (Un : Int)) = false := by simp; omega
            by_cases h2 : len0 < Un
            · have h2' : decide ((len0 : Int) < (Un : Int)) = true := by simpa using h2
              go_wp2
              go_ret
              exact ⟨rfl, hBw⟩
            have h2' : decide ((len0 : Int) < (Un : Int)) = false := by simp; omega
            have hLk := hls k hlt
            go_wp2
            go_loop [17] (fun i => ∃ m : Nat, Un ≤ m ∧ m ≤ L k ∧ i = .int .i64 m ∧ ∀ j, Un ≤ j → j < m → F k j = 0) (fun i => L k - (intOf i).toNat)
            case atStart => exact ⟨Un, Nat.le_refl _, by omega, rfl, fun j h1 h2 => absurd h2 (by omega)⟩
            case round =>
              obtain ⟨m, hm0, hm, rfl, hzm⟩ := hrel
              have HM : Hid (∀ j, Un ≤ j → j < m → F k j = 0) := hzm
              clear hzm
              by_cases hml : m < L k
              · rcases hRk with h | ⟨b, off, rfl, hc⟩
                · omega
                have hck : w2.cell? ⟨b, off + m, none⟩ = some (.int .u64 (F k m)) := (hBw.cell (p := ⟨b, off + m, none⟩) (cell_lt (hc m hml))).trans (hc m hml)
                by_cases hfk : F k m = 0
                · have hfb : (F k m != 0) = false := by simp [hfk]
                  have HZ : Hid (∀ j, Un ≤ j → j < m + 1 → F k j = 0) := fun j h1 h2 => by rcases Nat.lt_succ_iff_lt_or_eq.1 h2 with h | h; exact HM.out j h1 h; rw [h]; exact hfk
                  clear hfk HM
                  go_wp2
                  go_round
                  case rel => exact ⟨m + 1, by omega, by omega, by go_num, HZ.out⟩
                  case measure => simp [intOf]; omega
                · have hfb : (F k m != 0) = true := by simp [hfk]
                  go_wp2
                  go_ret
                  exact ⟨rfl, hBw⟩
              · have HGk : Hid (∀ i, i < k + 1 → GoodU len0 L F U i) := by
                  intro i hi
                  rcases Nat.lt_succ_iff_lt_or_eq.1 hi with h | h
                  · exact HG.out i h
                  · subst h
                    have hu' := HU.out
                    exact ⟨by omega, by omega, by omega, fun j h1 h2 => HM.out j (by omega) (by omega)⟩
                clear HM
                have hle := cntTo_le U k
                by_cases hUp : 0 < Un
                · have hUb : decide ((0 : Int) < (Un : Int)) = true := by simpa using hUp
                  have HN : Hid (cntTo U (k + 1) = cntTo U k + 1) := by
                    have hu' := HU.out
                    show cntTo U k + (if 0 < U k then 1 else 0) = _
                    rw [if_pos (by omega)]
                  go_wp2
                  go_round
                  case rel => exact ⟨k + 1, by omega, by go_num, by rw [HN.out]; go_num, HGk.out⟩
                  case measure => simp [intOf]; omega
                · have hUb : decide ((0 : Int) < (Un : Int)) = false := by simpa using hUp
                  have HN : Hid (cntTo U (k + 1) = cntTo U k) := by
                    have hu' := HU.out
                    show cntTo U k + (if 0 < U k then 1 else 0) = _
                    rw [if_neg (by omega)]; omega
                  go_wp2
                  go_round
                  case rel => exact ⟨k + 1, by omega, by go_num, by rw [HN.out], HGk.out⟩
                  case measure => simp [intOf]; omega
          · have hk6 : k = 6 := by omega
            by_cases hpc : pend = (cntTo U k : Int)
            · have hpb : (pend != (cntTo U k : Int)) = false := by simp [hpc]
              have HP : Hid (pend = (cntTo U 6 : Int)) := by rw [hk6] at hpc; exact hpc
              have HG6 : Hid (∀ i, i < 6 → GoodU len0 L F U i) := by rw [hk6] at HG; exact HG
              clear hpc hk6 HG
              go_wp2_with fail
              clear hul hlt hk
              refine (clone_any a0 len0 cap0 f w2 hl0 hA.nil0 (hA.rd.below hBw)).mono ?_
              rintro e w3 ⟨⟨a1, k1, rfl, hk1, hO1⟩, hB3⟩
              have hBw3 := hBw.trans (hB3.mono (by omega))
              have hs3 : w.heap.size + 2 ≤ w3.heap.size := by have := hB3.size; omega
              have hb13 := hb1.of_block (hB3.block _ hb1.lt)
              have hb23 := hb2.of_block (hB3.block _ hb2.lt)
              have c0 : w3.cell? ⟨w.heap.size, 0, none⟩ = some (V 0) := hb13.cell (by omega)
              have c1 : w3.cell? ⟨w.heap.size, 1, none⟩ = some (V 1) := hb13.cell (by omega)
              have c2 : w3.cell? ⟨w.heap.size, 2, none⟩ = some (V 2) := hb13.cell (by omega)
              have c3 : w3.cell? ⟨w.heap.size, 3, none⟩ = some (V 3) := hb13.cell (by omega)
              have c4 : w3.cell? ⟨w.heap.size, 4, none⟩ = some (V 4) := hb13.cell (by omega)
              have c5 : w3.cell? ⟨w.heap.size, 5, none⟩ = some (V 5) := hb13.cell (by omega)
              go_wp2_with fail
              refine (cloneCoded_any V A L C F w3 hA.val hls hA.nils (fun i hi => (hA.rds i hi).below hBw3)).mono ?_
              rintro e w4 ⟨⟨X, A1, C1, he, hX, hC1, hF1⟩, hB4⟩
              rw [hX 0 (by omega), hX 1 (by omega), hX 2 (by omega), hX 3 (by omega), hX 4 (by omega), hX 5 (by omega)] at he
              subst he
              clear hX X
              have hBw4 := hBw3.trans (hB4.mono (by omega))
              have hs4 : w.heap.size + 2 ≤ w4.heap.size := by have := hB4.size; omega
              have hb14 := hb13.of_block (hB4.block _ hb13.lt)
              have hb24 := hb23.of_block (hB4.block _ hb23.lt)
              have hO14 := hO1.below hB4
              clear c0 c1 c2 c3 c4 c5
              have d0 : w4.cell? ⟨w.heap.size, 0, none⟩ = some (V 0) := hb14.cell (by omega)
              have d1 : w4.cell? ⟨w.heap.size, 1, none⟩ = some (V 1) := hb14.cell (by omega)
              have d2 : w4.cell? ⟨w.heap.size, 2, none⟩ = some (V 2) := hb14.cell (by omega)
              have d3 : w4.cell? ⟨w.heap.size, 3, none⟩ = some (V 3) := hb14.cell (by omega)
              have d4 : w4.cell? ⟨w.heap.size, 4, none⟩ = some (V 4) := hb14.cell (by omega)
              have d5 : w4.cell? ⟨w.heap.size, 5, none⟩ = some (V 5) := hb14.cell (by omega)
              have dz : ∀ j, w4.frozen? ⟨w.heap.size, j, none⟩ = false := fun j => hb14.frozen j
              obtain ⟨W4, hW4, hrX, hsW4, hoth4, hB4'⟩ := store6 (fun i => Value.slice (A1 i) (L i) (C1 i)) hb14
              have HW4 : Hid (W4 = (((((w4.setCell ⟨w.heap.size, 0, none⟩ (.slice (A1 0) (L 0) (C1 0))).setCell ⟨w.heap.size, 1, none⟩ (.slice (A1 1) (L 1) (C1 1))).setCell ⟨w.heap.size, 2, none⟩ (.slice (A1 2) (L 2) (C1 2))).setCell ⟨w.heap.size, 3, none⟩ (.slice (A1 3) (L 3) (C1 3))).setCell ⟨w.heap.size, 4, none⟩ (.slice (A1 4) (L 4) (C1 4))).setCell ⟨w.heap.size, 5, none⟩ (.slice (A1 5) (L 5) (C1 5))) := hW4
              clear hW4
              have HO4 : Hid (∀ k, k ≠ w.heap.size → W4.heap[k]? = w4.heap[k]?) := hoth4
              clear hoth4
              go_wp2_with fail
              rw [← HW4.out]
              have hBW4 : Below w.heap.size w W4 := hB4' _ _ hBw4 (Nat.le_refl _)
              have hOW4 : Own (w.heap.size + 2) W4 a1 len0 f := by
                rcases hO14 with h | ⟨g, hg, hBg, hr⟩
                · exact Or.inl h
                · exact Or.inr ⟨g, hg, by omega, hr.of_block (HO4.out g (by omega))⟩
              have hFW4 : OwnFam (w.heap.size + 2) W4 A1 L F 6 := by
                refine ⟨fun i hi => ?_, hF1.apart⟩
                rcases hF1.own i hi with h | ⟨g, hg, hBg, hr⟩
                · exact Or.inl h
                · exact Or.inr ⟨g, hg, by omega, hr.of_block (HO4.out g (by omega))⟩
              have hUW4 := hb24.of_block (HO4.out _ (by omega))
              have hsW : w.heap.size + 2 ≤ W4.heap.size := by omega
              clear HW4 HO4 d0 d1 d2 d3 d4 d5 dz hb14 hb24 hO14 hF1 hB4' hsW4 hBw4 hs4 hB4 hO1 hB3 hBw3 hs3 hb13 hb23 hb1 hb2 hs2 w4 w3
              refine (clone_any a1 len0 k1 f W4 hl0 (fun h => by rcases hOW4 with h0 | ⟨g, hg, _⟩; exact h0; rw [hg] at h; cases h) hOW4.rd).mono ?_
              rintro e w5 ⟨⟨a2, k2, rfl, hk2, hO2⟩, hB5⟩
              have hBw5 := hBW4.trans (hB5.mono (by omega))
              have hs5 : w.heap.size + 2 ≤ w5.heap.size := by have := hB5.size; omega
              have hrX5 := hrX.of_block (hB5.block _ hrX.lt)
              have hU5 := hUW4.of_block (hB5.block _ hUW4.lt)
              have hO15 := hOW4.below hB5
              have hF15 : OwnFam (w.heap.size + 2) w5 A1 L F 6 := ⟨fun i hi => (hFW4.own i hi).below hB5, hFW4.apart⟩
              have c0 : w5.cell? ⟨w.heap.size, 0, none⟩ = some (.slice (A1 0) (L 0) (C1 0)) := hrX5.cell (by omega)
              have c1 : w5.cell? ⟨w.heap.size, 1, none⟩ = some (.slice (A1 1) (L 1) (C1 1)) := hrX5.cell (by omega)
              have c2 : w5.cell? ⟨w.heap.size, 2, none⟩ = some (.slice (A1 2) (L 2) (C1 2)) := hrX5.cell (by omega)
              have c3 : w5.cell? ⟨w.heap.size, 3, none⟩ = some (.slice (A1 3) (L 3) (C1 3)) := hrX5.cell (by omega)
              have c4 : w5.cell? ⟨w.heap.size, 4, none⟩ = some (.slice (A1 4) (L 4) (C1 4)) := hrX5.cell (by omega)
              have c5 : w5.cell? ⟨w.heap.size, 5, none⟩ = some (.slice (A1 5) (L 5) (C1 5)) := hrX5.cell (by omega)
              go_wp2_with fail
              refine (cloneCoded_any (fun i => .slice (A1 i) (L i) (C1 i)) A1 L C1 F w5 (fun _ _ => rfl) hls (fun i hi h => by rcases hF15.own i hi with h0 | ⟨g, hg, _⟩; exact h0; rw [hg] at h; cases h) (fun i hi => (hF15.own i hi).rd)).mono ?_
              rintro e w6 ⟨⟨X, A2, C2, he, hX, hC2, hF2⟩, hB6⟩
              rw [hX 0 (by omega), hX 1 (by omega), hX 2 (by omega), hX 3 (by omega), hX 4 (by omega), hX 5 (by omega)] at he
              subst he
              clear hX X c0 c1 c2 c3 c4 c5
              have e0 : w6.cell? ⟨w.heap.size + 1, 0, none⟩ = some (.int .i64 (U 0)) := (hU5.of_block (hB6.block _ hU5.lt)).cell (by omega)
              have e1 : w6.cell? ⟨w.heap.size + 1, 1, none⟩ = some (.int .i64 (U 1)) := (hU5.of_block (hB6.block _ hU5.lt)).cell (by omega)
              have e2 : w6.cell? ⟨w.heap.size + 1, 2, none⟩ = some (.int .i64 (U 2)) := (hU5.of_block (hB6.block _ hU5.lt)).cell (by omega)
              have e3 : w6.cell? ⟨w.heap.size + 1, 3, none⟩ = some (.int .i64 (U 3)) := (hU5.of_block (hB6.block _ hU5.lt)).cell (by omega)
              have e4 : w6.cell? ⟨w.heap.size + 1, 4, none⟩ = some (.int .i64 (U 4)) := (hU5.of_block (hB6.block _ hU5.lt)).cell (by omega)
              have e5 : w6.cell? ⟨w.heap.size + 1, 5, none⟩ = some (.int .i64 (U 5)) := (hU5.of_block (hB6.block _ hU5.lt)).cell (by omega)
              have hs6 : w.heap.size + 2 ≤ w6.heap.size := by have := hB6.size; omega
              have ne6 : w.heap.size + 1 < w6.heap.size := by omega
              obtain ⟨W6, hW6, hBW6, hsW6, hrW6⟩ := box1 (fun i => Value.slice (A2 i) (L i) (C2 i)) 23 w6
              have HW6 : Hid (W6 = w6.alloc (.cells #[.slice (A2 0) (L 0) (C2 0), .slice (A2 1) (L 1) (C2 1), .slice (A2 2) (L 2) (C2 2), .slice (A2 3) (L 3) (C2 3), .slice (A2 4) (L 4) (C2 4), .slice (A2 5) (L 5) (C2 5)] 23)) := hW6
              clear hW6
              go_wp2_with fail
              rw [← HW6.out]
              clear HW6 e0 e1 e2 e3 e4 e5
              have hq6 : q % 6 < 6 := Nat.mod_lt _ (by omega)
              have hG := HG6.out (q % 6) hq6
              obtain ⟨N, hN⟩ := Int.eq_ofNat_of_zero_le hG.pos
              have hpd := HP.out
              have hple := cntTo_le U 6
              have g1 := hG.le
              have g2 := hG.le0
              have hFB : ∀ i g, i < 6 → 0 < L i → A2 i = some ⟨g, 0, none⟩ → g < w6.heap.size := by
                intro i g hi hl hA2
                rcases hF2.own i hi with h | ⟨g', hg, _, hr⟩
                · omega
                · rw [hA2] at hg
                  injection hg with hg
                  injection hg with hg
                  rw [hg]; exact hr.lt
              have hPc : ∀ g, 0 < len0 → a2 = some ⟨g, 0, none⟩ → g < w5.heap.size := by
                intro g hl ha
                rcases hO2 with h | ⟨g', hg, _, hr⟩
                · omega
                · rw [ha] at hg
                  injection hg with hg
                  injection hg with hg
                  rw [hg]; exact hr.lt
              refine (zzreach_any W4.heap.size w5.heap.size w6.heap.size q W6 a2 len0 k2 N un (fun i => .slice (A2 i) (L i) (C2 i)) U pend A2 L C2 F f (by omega) (fun _ _ => rfl) hC2 hN (by omega) (by omega) hl0 (by omega) (by omega) (by omega)
                ((hO2.below hB6).below hBW6) hPc ⟨fun i hi => (hF2.own i hi).below hBW6, hF2.apart⟩ hFB hB5.size hB6.size (by omega)).mono ?_
              rintro e w7 ⟨rfl, hZp, hZf, hZb, hZs, hZk⟩
              clear g1 g2 hpd hple hG
              have HN : Hid (U (q % 6) = N) := hN
              clear hN
              obtain ⟨W7, hW7, hBW7, hsW7, hrW7⟩ := box1 (fun i => Value.int .i64 (newUsed (q % 6) U i)) 24 w7
              have HW7 : Hid (W7 = w7.alloc (.cells #[.int .i64 (newUsed (q % 6) U 0), .int .i64 (newUsed (q % 6) U 1), .int .i64 (newUsed (q % 6) U 2), .int .i64 (newUsed (q % 6) U 3), .int .i64 (newUsed (q % 6) U 4), .int .i64 (newUsed (q % 6) U 5)] 24)) := hW7
              clear hW7
              have HFW : Hid (FW w.heap.size w6.heap.size w7.heap.size a1 a2 len0 A1 A2 L C1 C2 F f U (q % 6) N w W7) := by
                have low : ∀ b, b < W4.heap.size → W7.heap[b]? = W4.heap[b]? := by
                  intro b hb
                  have h5 := hB5.size
                  have h6 := hB6.size
                  have h7 := hZs
                  rw [hBW7.block b (by omega), hZb.block b hb, hBW6.block b (by omega), hB6.block b (by omega), hB5.block b hb]
                have own1 : ∀ (a : Option Addr) (n : Nat) (g : Nat → Int), Own (w.heap.size + 2) W4 a n g → Rd W7 a n g := by
                  intro a n g h
                  rcases h with h | ⟨b, ha, _, hr⟩
                  · exact Or.inl h
                  · exact Or.inr ⟨b, 0, ha, fun i hi => by rw [Nat.zero_add]; exact (hr.of_block (low b hr.lt)).cell hi⟩
                refine ⟨own1 _ _ _ hOW4, (hZp.below hBW7).rd, fun i hi => (hrX.of_block (low _ hrX.lt)).cell hi, fun i hi => ?_, fun i hi => (hUW4.of_block (low _ hUW4.lt)).cell hi, fun i hi => hrW7.cell hi, fun i hi => own1 _ _ _ (hFW4.own i hi), fun i hi => ((hZf.own i hi).below hBW7).rd, ?_⟩
                · have e : W7.heap[w6.heap.size]? = W6.heap[w6.heap.size]? := by
                    rw [hBW7.block _ (by omega), hZk _ (Nat.le_refl _) (by omega)]
                  exact (hrW6.of_block e).cell hi
                · have h5 := hB5.size
                  have h6 := hB6.size
                  exact (((hBw5.trans (hB6.mono (by omega))).trans (hBW6.mono (by omega))).trans (hZb.mono (by omega))).trans (hBW7.mono (by omega))
              go_wp2_with fail
              rw [← HW7.out]
              have hFW := HFW.out
              clear HW7 HFW hBW7 hsW7 hrW7 hZp hZf hZb hZs hZk hFB hPc hBW6 hsW6 hrW6 hF2 hB6 hO2 hB5 hrX hOW4 hFW4 hUW4 hBW4 hsW hBw5 hs5 hrX5 hU5 hO15 hF15 hs6 ne6 hC1 hC2 hk1 hk2
              generalize w6.heap.size = G at *
              generalize w7.heap.size = R at *
              clear w7 w6 w5 W6 W4
              rw [show ((q : Int) % 6) = ((q % 6 : Nat) : Int) from by omega]
              generalize q % 6 = at_ at *
              have HG : Hid (GoodU len0 L F U at_) := HG6.out at_ hq6
              obtain ⟨gu, HU⟩ : ∃ gu : Nat, Hid (gu = max un N) := ⟨_, rfl⟩
              rw [show max (un : Int) (N : Int) = (gu : Int) from by rw [HU.out]; omega]
              obtain ⟨gp, HGP⟩ : ∃ gp : Int, Hid (gp = newPend N pend) := ⟨_, rfl⟩
              rw [← HGP.out]
              obtain ⟨aA, HaA⟩ : ∃ aA, Hid (aA = A1 at_) := ⟨_, rfl⟩
              have hLA := hls at_ hq6
              go_loop [24] (fun i => ∃ k : Nat, k ≤ len0 ∧ i = .int .i64 k) (fun i => len0 - (intOf i).toNat)
              case atStart => exact ⟨0, by omega, rfl⟩
              case round =>
                obtain ⟨k, hk, rfl⟩ := hrel
                by_cases hlt : k < len0
                · have hcat : W7.cell? ⟨w.heap.size, at_, none⟩ = some (.slice aA (L at_) (C1 at_)) := by rw [HaA.out]; exact hFW.cd at_ hq6
                  have hRA : Rd W7 aA (L at_) (F at_) := by rw [HaA.out]; exact hFW.rdc at_ hq6
                  rcases hFW.p1 with h | ⟨b1, o1, rfl, h1⟩
                  · omega
                  rcases hFW.np with h | ⟨b2, o2, rfl, h2⟩
                  · omega
                  have r1 : W7.cell? ⟨b1, o1 + k, none⟩ = some (.int .u64 (f k)) := h1 k hlt
                  have r2 : W7.cell? ⟨b2, o2 + k, none⟩ = some (.int .u64 (newParts N f (F at_) k)) := h2 k hlt
                  have g := HG.out
                  have gn := HN.out
                  have gle := g.le
                  by_cases hka : k < L at_
                  · rcases hRA with h | ⟨b3, o3, rfl, h3⟩
                    · omega
                    have r3 : W7.cell? ⟨b3, o3 + k, none⟩ = some (.int .u64 (F at_ k)) := h3 k hka
                    rw [np_hit (hA.word k) (fun h => g.zero k (by omega) hka)] at r2
                    clear g gn gle h1 h2 h3
                    go_wp2
                    go_round
                    case rel => exact ⟨k + 1, by omega, by go_num⟩
                    case measure => simp [intOf]; omega
                  · rw [np_miss (by omega)] at r2
                    clear g gn gle h1 h2
                    go_wp2
                    go_round
                    case rel => exact ⟨k + 1, by omega, by go_num⟩
                    case measure => simp [intOf]; omega
                · go_wp2
                  clear hlt hk
                  go_loopw [26] (fun i wr => ∃ k : Nat, k ≤ 6 ∧ i = .int .i64 k ∧ FW w.heap.size G R a1 a2 len0 A1 A2 L C1 C2 F f U at_ N w wr) (fun i _ => 6 - (intOf i).toNat)
                  case atStart => exact ⟨0, by omega, rfl, hFW⟩
                  case round =>
                    clear hFW
                    obtain ⟨m, hm, rfl, hFW⟩ := hrel
                    by_cases hlt : m < 6
                    · obtain ⟨b1, Hb1⟩ : ∃ b1, Hid (b1 = A1 m) := ⟨_, rfl⟩
                      obtain ⟨b2, Hb2⟩ : ∃ b2, Hid (b2 = A2 m) := ⟨_, rfl⟩
                      have r1 : wr.cell? ⟨w.heap.size, m, none⟩ = some (.slice b1 (L m) (C1 m)) := by rw [Hb1.out]; exact hFW.cd m hlt
                      have r2 : wr.cell? ⟨G, m, none⟩ = some (.slice b2 (L m) (C2 m)) := by rw [Hb2.out]; exact hFW.nc m hlt
                      have hLm := hls m hlt
                      by_cases hma : m = at_
                      · have hmb : ((m : Int) == (at_ : Int)) = true := beq_iff_eq.2 (by omega)
                        have HMA : Hid (m = at_) := hma
                        clear hma
                        go_wp2_with fail
                        go_quiet (fail)
                        go_wp2
                        go_loopw [27] (fun i wr => ∃ k : Nat, k ≤ L m ∧ i = .int .i64 k ∧ FW w.heap.size G R a1 a2 len0 A1 A2 L C1 C2 F f U at_ N w wr) (fun i _ => L m - (intOf i).toNat)
                        case atStart => exact ⟨0, by omega, rfl, hFW.drewN _⟩
                        case round =>
                          clear hFW r1 r2
                          obtain ⟨j, hj, rfl, hFW⟩ := hrel
                          have r1 : wr.cell? ⟨w.heap.size, m, none⟩ = some (.slice b1 (L m) (C1 m)) := by rw [Hb1.out]; exact hFW.cd m hlt
                          have r2 : wr.cell? ⟨G, m, none⟩ = some (.slice b2 (L m) (C2 m)) := by rw [Hb2.out]; exact hFW.nc m hlt
                          by_cases hjl : j < L m
                          · have hR2 : Rd wr b2 (L m) (newCoded at_ N F m) := by rw [Hb2.out]; exact hFW.rdn m hlt
                            rcases hR2 with h | ⟨x2, o2, rfl, h2⟩
                            · omega
                            have r3 : wr.cell? ⟨x2, o2 + j, none⟩ = some (.int .u64 0) := by
                              rw [h2 j hjl]
                              have g := HG.out
                              have gn := HN.out
                              congr 2
                              unfold newCoded
                              by_cases hjn : m = at_ ∧ j < N
                              · rw [if_pos hjn]
                              rw [if_neg hjn]
                              have hma := HMA.out
                              have hnj : ¬ j < N := fun h => hjn ⟨hma, h⟩
                              rw [hma] at hjl ⊢
                              exact g.zero j (by omega) hjl
                            clear h2
                            go_wp2
                            go_roundw
                            case rel => exact ⟨j + 1, by omega, by go_num, hFW⟩
                            case measure => simp [intOf]; omega
                          · have r4 : wr.cell? ⟨R, m, none⟩ = some (.int .i64 0) := by rw [hFW.gcu m hlt]; simp [newUsed, HMA.out]
                            go_wp2
                            go_roundw
                            case rel => exact ⟨m + 1, by omega, by go_num, hFW⟩
                            case measure => simp [intOf]; omega
                      · have hmb : ((m : Int) == (at_ : Int)) = false := beq_eq_false_iff_ne.2 (by omega)
                        go_wp2_with fail
                        go_quiet (fail)
                        go_wp2
                        go_loopw [27] (fun i wr => ∃ k : Nat, k ≤ L m ∧ i = .int .i64 k ∧ FW w.heap.size G R a1 a2 len0 A1 A2 L C1 C2 F f U at_ N w wr) (fun i _ => L m - (intOf i).toNat)
                        case atStart => exact ⟨0, by omega, rfl, hFW.drewN _⟩
                        case round =>
                          clear hFW r1 r2
                          obtain ⟨j, hj, rfl, hFW⟩ := hrel
                          have r1 : wr.cell? ⟨w.heap.size, m, none⟩ = some (.slice b1 (L m) (C1 m)) := by rw [Hb1.out]; exact hFW.cd m hlt
                          have r2 : wr.cell? ⟨G, m, none⟩ = some (.slice b2 (L m) (C2 m)) := by rw [Hb2.out]; exact hFW.nc m hlt
                          by_cases hjl : j < L m
                          · have hR1 : Rd wr b1 (L m) (F m) := by rw [Hb1.out]; exact hFW.rdc m hlt
                            have hR2 : Rd wr b2 (L m) (newCoded at_ N F m) := by rw [Hb2.out]; exact hFW.rdn m hlt
                            rcases hR1 with h | ⟨x1, o1, rfl, h1⟩
                            · omega
                            rcases hR2 with h | ⟨x2, o2, rfl, h2⟩
                            · omega
                            have r3 : wr.cell? ⟨x2, o2 + j, none⟩ = some (.int .u64 (F m j)) := by
                              rw [h2 j hjl]
                              congr 2
                              exact if_neg (fun h => hma h.1)
                            have r4 : wr.cell? ⟨x1, o1 + j, none⟩ = some (.int .u64 (F m j)) := h1 j hjl
                            clear h1 h2
                            go_wp2_with fail
                            go_quiet (fail)
                            go_wp2
                            go_roundw
                            case rel => exact ⟨j + 1, by omega, by go_num, hFW.drewN _⟩
                            case measure => simp [intOf]; omega
                          · have r4 : wr.cell? ⟨R, m, none⟩ = some (.int .i64 (U m)) := by rw [hFW.gcu m hlt]; simp [newUsed, hma]
                            have r5 : wr.cell? ⟨w.heap.size + 1, m, none⟩ = some (.int .i64 (U m)) := hFW.cu m hlt
                            go_wp2_with fail
                            go_quiet (fail)
                            go_wp2
                            go_roundw
                            case rel => exact ⟨m + 1, by omega, by go_num, hFW.drewN _⟩
                            case measure => simp [intOf]; omega
                    · go_wp2
                      clear hlt hm
                      go_loop [28, 29] (fun c i => ∃ k : Nat, k ≤ 6 ∧ i = .int .i64 k ∧ c = .int .i64 (cntTo (newUsed at_ U) k)) (fun _ i => 6 - (intOf i).toNat)
                      case atStart => exact ⟨0, by omega, rfl, rfl⟩
                      case round =>
                        obtain ⟨k, hk, rfl, rfl⟩ := hrel
                        have hle := cntTo_le (newUsed at_ U) k
                        by_cases hlt : k < 6
                        · obtain ⟨x, Hx⟩ : ∃ x, Hid (x = newUsed at_ U k) := ⟨_, rfl⟩
                          have r1 : wr.cell? ⟨R, k, none⟩ = some (.int .i64 x) := by rw [Hx.out]; exact hFW.gcu k hlt
                          by_cases hx : 0 < x
                          · have hxb : decide ((0 : Int) < x) = true := by simpa using hx
                            have HX : Hid (cntTo (newUsed at_ U) (k + 1) = cntTo (newUsed at_ U) k + 1) := by
                              show cntTo (newUsed at_ U) k + (if 0 < newUsed at_ U k then 1 else 0) = _
                              rw [← Hx.out, if_pos hx]
                            go_wp2
                            go_round
                            case rel => exact ⟨k + 1, by omega, by go_num, by rw [HX.out]; go_num⟩
                            case measure => simp [intOf]; omega
                          · have hxb : decide ((0 : Int) < x) = false := by simpa using hx
                            have HX : Hid (cntTo (newUsed at_ U) (k + 1) = cntTo (newUsed at_ U) k) := by
                              show cntTo (newUsed at_ U) k + (if 0 < newUsed at_ U k then 1 else 0) = _
                              rw [← Hx.out, if_neg hx]; omega
                            go_wp2
                            go_round
                            case rel => exact ⟨k + 1, by omega, by go_num, by rw [HX.out]⟩
                            case measure => simp [intOf]; omega
                        · have hgp : (gp != (cntTo (newUsed at_ U) k : Int)) = false := by
                            have e : k = 6 := by omega
                            rw [HGP.out, e, pend_new hq6 HN.out HP.out]
                            simp
                          have r1 : wr.cell? ⟨w.heap.size + 1, at_, none⟩ = some (.int .i64 N) := by rw [hFW.cu at_ hq6, HN.out]
                          have hgz : ∀ j, gu ≤ j → j < len0 → newParts N f (F at_) j = 0 := by
                            intro j h1 h2
                            have hu := HU.out
                            rw [np_miss (by omega)]
                            exact HZ.out j (by omega) h2
                          have HGZ : Hid (∀ j, gu ≤ j → j < len0 → newParts N f (F at_) j = 0) := hgz
                          clear hgz
                          have hgl : gu ≤ len0 := by
                            have hu := HU.out
                            have hn := HN.out
                            have hg := HG.out.le0
                            have hul : ¬ (len0 : Int) < (un : Int) := by simpa using hul'
                            omega
                          by_cases hNu : un < N
                          · have hNb : decide ((un : Int) < (N : Int)) = true := by simpa using hNu
                            have hgb : ((gu : Int) != (N : Int)) = false := by
                              have hu := HU.out
                              have : (gu : Int) = (N : Int) := by omega
                              rw [this]; simp
                            go_wp2
                            clear hlt hk hle hNu
                            go_loop [31] (fun i => ∃ j : Nat, gu ≤ j ∧ j ≤ len0 ∧ i = .int .i64 j) (fun i => len0 - (intOf i).toNat)
                            case atStart => exact ⟨gu, Nat.le_refl _, hgl, rfl⟩
                            case round =>
                              obtain ⟨j, hj0, hj, rfl⟩ := hrel
                              by_cases hjl : j < len0
                              · rcases hFW.np with h | ⟨b2, o2, rfl, h2⟩
                                · omega
                                have r2 : wr.cell? ⟨b2, o2 + j, none⟩ = some (.int .u64 0) := by rw [h2 j hjl, HGZ.out j hj0 hjl]
                                clear h2
                                go_wp2
                                go_round
                                case rel => exact ⟨j + 1, by omega, by omega, by go_num⟩
                                case measure => simp [intOf]; omega
                              · go_wp2
                                go_ret
                                exact ⟨rfl, hFW.below⟩
                          · have hNb : decide ((un : Int) < (N : Int)) = false := by simpa using hNu
                            have hgb : ((gu : Int) != (un : Int)) = false := by
                              have hu := HU.out
                              have : (gu : Int) = (un : Int) := by omega
                              rw [this]; simp
                            go_wp2
                            clear hlt hk hle hNu
                            go_loop [31] (fun i => ∃ j : Nat, gu ≤ j ∧ j ≤ len0 ∧ i = .int .i64 j) (fun i => len0 - (intOf i).toNat)
                            case atStart => exact ⟨gu, Nat.le_refl _, hgl, rfl⟩
                            case round =>
                              obtain ⟨j, hj0, hj, rfl⟩ := hrel
                              by_cases hjl : j < len0
                              · rcases hFW.np with h | ⟨b2, o2, rfl, h2⟩
                                · omega
                                have r2 : wr.cell? ⟨b2, o2 + j, none⟩ = some (.int .u64 0) := by rw [h2 j hjl, HGZ.out j hj0 hjl]
                                clear h2
                                go_wp2
                                go_round
                                case rel => exact ⟨j + 1, by omega, by omega, by go_num⟩
                                case measure => simp [intOf]; omega
                              · go_wp2
                                go_ret
                                exact ⟨rfl, hFW.below⟩
            · have hpb : (pend != (cntTo U k : Int)) = true := by simp [hpc]
              clear hk6
              go_wp2
              go_ret
              exact ⟨rfl, hBw⟩
end Go.Proofs.Qxb6603698a
