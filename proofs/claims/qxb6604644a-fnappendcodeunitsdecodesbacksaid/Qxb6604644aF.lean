import Derived.Test.Qxb6604644aE
namespace Go.Proofs.Qxb6604644a
open Go.RowKit
set_option linter.unusedVariables false

/-- Behind j escapes: the units read so far. -/
structure LR (w2 : World) (c : Int) (j : Nat) (wr : World) : Prop where
  row : wr.rowIs w2.heap.size 33 2 (fun i => .int .i64 (if i < j then un c i else 0))
  below : Below w2.heap.size w2 wr

theorem LR.drewN {w2 wr : World} {c : Int} {j : Nat} (h : LR w2 c j wr) (n : Nat) : LR w2 c j (wr.drewN n) := ⟨h.row, below_drewN h.below n⟩

theorem LR.step {w2 wr : World} {c x : Int} {j : Nat} (h : LR w2 c j wr) (hx : x = un c j) : LR w2 c (j + 1) (wr.setCell ⟨w2.heap.size, j, none⟩ (.int .i64 x)) := by
  refine ⟨(h.row.set j _).congr fun i hi => ?_, h.below.setCell (Nat.le_refl _) _⟩
  by_cases e : i = j
  · subst e; simp [hx]
  · by_cases e' : i < j
    · have : i < j + 1 := by omega
      simp [e, e', this]
    · have : ¬ i < j + 1 := by omega
      simp [e, e', this]

theorem LR.start (w2 : World) (c : Int) (n : Nat) : LR w2 c 0 ((w2.drewN n).alloc (.cells #[.int .i64 0, .int .i64 0] 33)) := by
  refine ⟨(rowIs2 0 0 (w2.drewN n)).congr fun i hi => ?_, (below_drewN (Below.refl _ _) n).alloc (Nat.le_refl _) _⟩
  match i, hi with
  | 0, _ => rfl
  | 1, _ => rfl

set_option maxHeartbeats 1000000 in
set_option maxRecDepth 100000 in
theorem decodes_any (a : Option Addr) (cap : Nat) (l : List UInt8) (pre d : ByteArray) (c : Int) (w : World) (hn : l.length ≤ maxLen) (hz : a = none → l = []) (hr : RdB w a l) (hp : pre.size ≤ maxLen) (hd : d.size ≤ maxLen) (hc : -2147483648 ≤ c ∧ c ≤ 2147483647) :
    Calls Try.prog 6 #[.slice a l.length cap, .string pre, .int .i32 c, .string d] w fun e w' => Fin w e w' := by
  go_enter Try.func6, Try.ntmps6
  go_wp2_with fail
  refine (bytes11 a l.length cap pre d c w hn hp hd).mono ?_
  rintro e w1 ⟨⟨b, rfl, hb⟩, rfl⟩
  cases b with
  | false =>
    go_wp2
    go_ret
    exact ⟨rfl, Below.refl _ _⟩
  | true =>
    obtain ⟨b1, b2, b3⟩ := hb rfl
    clear hb
    by_cases hsum : 1048576 < l.length + pre.size + d.size
    · go_wp2
      go_ret
      exact ⟨rfl, Below.refl _ _⟩
    by_cases hc0 : c < 0
    · have hc0' : decide (c < 0) = true := by simpa using hc0
      go_wp2
      go_ret
      exact ⟨rfl, Below.refl _ _⟩
    have hc0' : decide (c < 0) = false := by simpa using hc0
    by_cases hc1 : 1114111 < c
    · have hc1' : decide ((1114111 : Int) < c) = true := by simpa using hc1
      go_wp2
      go_ret
      exact ⟨rfl, Below.refl _ _⟩
    have hc1' : decide ((1114111 : Int) < c) = false := by simpa using hc1
    have hsum' : decide ((1048576 : Int) < (l.length : Int) + (pre.size : Int) + (d.size : Int)) = false := by simp; omega
    by_cases h16 : d.size < 16
    · go_wp2
      go_ret
      exact ⟨rfl, Below.refl _ _⟩
    have h16' : decide ((d.size : Int) < 16) = false := by simp; omega
    go_wp2
    go_loopw [9] (fun i wr => ∃ p : Nat, p ≤ 16 ∧ i = .int .i64 p ∧ (∀ x y, x < p → x < y → y < 16 → dgt d x ≠ dgt d y) ∧ ∃ n, wr = w.drewN n) (fun i _ => 16 - (intOf i).toNat)
    case atStart => exact ⟨0, by omega, rfl, fun x y h => absurd h (Nat.not_lt_zero x), 0, rfl⟩
    case round =>
      obtain ⟨p, hpl, rfl, hdi, nn, rfl⟩ := hrel
      have HDI : Hid (∀ x y, x < p → x < y → y < 16 → dgt d x ≠ dgt d y) := hdi
      clear hdi
      by_cases hlt : p < 16
      · go_wp2
        go_loopw [10] (fun i wr => ∃ q : Nat, p < q ∧ q ≤ 16 ∧ i = .int .i64 q ∧ (∀ y, p < y → y < q → dgt d p ≠ dgt d y) ∧ ∃ n, wr = w.drewN n) (fun i _ => 16 - (intOf i).toNat)
        case atStart => exact ⟨p + 1, by omega, by omega, by go_num, fun y h1 h2 => absurd h2 (by omega), nn, rfl⟩
        case round =>
          obtain ⟨q, hq0, hq, rfl, hqi, nq, rfl⟩ := hrel
          have HQI : Hid (∀ y, p < y → y < q → dgt d p ≠ dgt d y) := hqi
          clear hqi
          by_cases hql : q < 16
          · have hps : p < d.size := by omega
            have hqs : q < d.size := by omega
            by_cases he : dgt d p = dgt d q
            · have heb : ((d[p].toNat : Int) == (d[q].toNat : Int)) = true := by rw [beq_iff_eq, ← dgt_in hps, ← dgt_in hqs, he]
              clear he
              go_wp2_with fail
              go_quiet (fail)
              go_wp2
              go_ret
              exact ⟨rfl, below_drewN (below_drewN (Below.refl _ _) _) _⟩
            · have heb : ((d[p].toNat : Int) == (d[q].toNat : Int)) = false := by
                refine beq_eq_false_iff_ne.2 fun h => he ?_
                rw [dgt_in hps, dgt_in hqs]
                exact UInt8.toNat_inj.1 (by omega)
              have HQ2 : Hid (∀ y, p < y → y < q + 1 → dgt d p ≠ dgt d y) := fun y h1 h2 => by rcases Nat.lt_succ_iff_lt_or_eq.1 h2 with h | h; exact HQI.out y h1 h; rw [h]; exact he
              clear he HQI
              go_wp2_with fail
              go_quiet (fail)
              go_wp2
              go_roundw
              case rel => exact ⟨q + 1, by omega, by omega, by go_num, HQ2.out, _, rfl⟩
              case measure => simp [intOf]; omega
          · have HP2 : Hid (∀ x y, x < p + 1 → x < y → y < 16 → dgt d x ≠ dgt d y) := fun x y h1 h2 h3 => by rcases Nat.lt_succ_iff_lt_or_eq.1 h1 with h | h; exact HDI.out x y h h2 h3; rw [h] at h2 ⊢; exact HQI.out y h2 (by omega)
            clear HQI HDI
            go_wp2
            go_roundw
            case rel => exact ⟨p + 1, by omega, by go_num, HP2.out, nq, rfl⟩
            case measure => simp [intOf]; omega
      · have HD : Hid (Dist d) := fun x y h1 h2 => HDI.out x y (by omega) h1 h2
        have hp16 : decide ((p : Int) < 16) = false := by simp; omega
        clear HDI
        go_wp2_with fail
        refine (clone_any a cap l (w.drewN nn) b1 hz (hr.drewN nn)).mono ?_
        rintro e w1 ⟨⟨ov, rfl, hF⟩, hB1'⟩
        have hB1 : Below w.heap.size w w1 := (below_drewN (Below.refl _ _) nn).trans hB1'
        clear hB1'
        obtain ⟨ao, rfl, hao⟩ := hF.form
        go_wp2_with fail
        refine (zz_any w1.heap.size (.slice ao l.length l.length) (.slice ao l.length l.length) l l pre d c w1 ⟨Nat.le_refl _, hF, Or.inl ⟨rfl, rfl⟩⟩ (by omega) b2 (by omega) b3 hc).mono ?_
        rintro e w2 ⟨⟨gv, rfl, hG⟩, hB2⟩
        obtain ⟨T, HT⟩ : ∃ T, Hid (T = l ++ code pre d c) := ⟨_, rfl⟩
        have hs1 := hB1.size
        have hs2 := hB2.size
        have hKK : 1 ≤ KK c ∧ KK c ≤ 2 := by unfold KK; split <;> omega
        obtain ⟨K, HK⟩ : ∃ K, Hid (K = KK c) := ⟨_, rfl⟩
        rw [← HK.out] at hKK
        obtain ⟨M, hM, HMM⟩ : ∃ M : Nat, (K : Int) * ((pre.size : Int) + 4) = (M : Int) ∧ Hid (M = K * (pre.size + 4)) := ⟨K * (pre.size + 4), by simp, rfl⟩
        have HTl : Hid (T.length = l.length + M) := by
          show T.length = l.length + M
          rw [HT.out, List.length_append, code_length, HMM.out, HK.out]
        have hM1 : pre.size + 4 ≤ M ∧ M ≤ 2 * (pre.size + 4) := by
          rw [HMM.out]
          have h1 : 1 * (pre.size + 4) ≤ K * (pre.size + 4) := Nat.mul_le_mul_right _ hKK.1
          have h2 : K * (pre.size + 4) ≤ 2 * (pre.size + 4) := Nat.mul_le_mul_right _ hKK.2
          omega
        rw [← HT.out] at hG
        obtain ⟨g, gc, hgv, hgr⟩ := hG.read (by rw [HTl.out]; omega)
        rw [HTl.out] at hgv
        subst hgv
        have HG : Hid (∀ i, i < l.length + M → w2.cell? ⟨g, i, none⟩ = some (.int .u8 (T.getD i 0).toNat)) := fun i hi => by
          rw [hgr i (by rw [HTl.out]; exact hi)]
          simp [List.getD, HTl.out, hi]
        have hFc : FullAt w1.heap.size w2 (.slice ao l.length l.length) l := hG.out
        clear hgr hG hF
        have hlM : decide ((l.length : Int) + (M : Int) < (l.length : Int)) = false := by simp; omega
        go_wp2
        clear hlt hpl
        go_loopw [12] (fun i wr => ∃ k : Nat, k ≤ l.length ∧ i = .int .i64 k ∧ ∃ n, wr = w2.drewN n) (fun i _ => l.length - (intOf i).toNat)
        case atStart => exact ⟨0, Nat.zero_le _, rfl, 0, rfl⟩
        case round =>
          obtain ⟨k, hk, rfl, nk, rfl⟩ := hrel
          by_cases hlt : k < l.length
          · obtain ⟨g', hg', rfl, hcell⟩ := hFc.read (by omega)
            have r1 : w2.cell? ⟨g', k, none⟩ = some (.int .u8 (l.getD k 0).toNat) := hcell k hlt
            have r2 : w2.cell? ⟨g, k, none⟩ = some (.int .u8 (l.getD k 0).toNat) := by rw [HG.out k (by omega), HT.out, head_get l _ k hlt]
            clear hcell
            generalize l.getD k 0 = x at r1 r2
            go_wp2_with fail
            go_quiet (fail)
            go_wp2
            go_roundw
            case rel => exact ⟨k + 1, by omega, by go_num, _, rfl⟩
            case measure => simp [intOf]; omega
          · have hMe : ((l.length : Int) + (M : Int)) - (l.length : Int) = (M : Int) := by omega
            go_upto_if 102 with fail
            clear hMe hlt hk
            go_cut [15] from 24 (fun v wr => v = .int .i64 K ∧ ∃ n, wr = w2.drewN n)
            case first =>
              by_cases hK1 : K = 1
              · have hme : M = pre.size + 4 := by rw [HMM.out, hK1]; omega
                have hb1 : ((M : Int) == (pre.size : Int) + 4) = true := beq_iff_eq.2 (by omega)
                have HK1 : Hid (K = 1) := hK1
                clear hme hK1
                go_wp2
                go_meet
                case rel => exact ⟨by rw [HK1.out]; rfl, _, rfl⟩
              · have hK2 : K = 2 := by omega
                have hme : M = 2 * (pre.size + 4) := by rw [HMM.out, hK2]
                have hb1 : ((M : Int) == (pre.size : Int) + 4) = false := beq_eq_false_iff_ne.2 (by omega)
                have hb2 : ((M : Int) == 2 * ((pre.size : Int) + 4)) = true := beq_iff_eq.2 (by omega)
                have HK2 : Hid (K = 2) := hK2
                clear hme hK2 hK1
                go_wp2
                go_meet
                case rel => exact ⟨by rw [HK2.out]; rfl, _, rfl⟩
            case rest =>
              obtain ⟨rfl, n0, rfl⟩ := hcut
              have hkc : (((K : Int) == 2) == decide ((65536 : Int) ≤ c)) = true := by
                have h := HK.out
                unfold KK at h
                by_cases hs : c ≤ 65535
                · rw [if_pos hs] at h
                  have e1 : ((K : Int) == 2) = false := beq_eq_false_iff_ne.2 (by omega)
                  have e2 : decide ((65536 : Int) ≤ c) = false := by simp; omega
                  rw [e1, e2]; rfl
                · rw [if_neg hs] at h
                  have e1 : ((K : Int) == 2) = true := beq_iff_eq.2 (by omega)
                  have e2 : decide ((65536 : Int) ≤ c) = true := by simp; omega
                  rw [e1, e2]; rfl
              have hL0 := LR.start w2 c n0
              obtain ⟨W4, HW4⟩ : ∃ W4, Hid (W4 = (w2.drewN n0).alloc (.cells #[.int .i64 0, .int .i64 0] 33)) := ⟨_, rfl⟩
              rw [← HW4.out] at hL0
              go_wp2
              rw [← HW4.out]
              clear HW4
              go_loopw [17] (fun i wr => ∃ j : Nat, j ≤ K ∧ i = .int .i64 j ∧ LR w2 c j wr) (fun i _ => K - (intOf i).toNat)
              case atStart => exact ⟨0, Nat.zero_le _, rfl, hL0⟩
              case round =>
                clear hL0 W4
                obtain ⟨j, hj, rfl, hL⟩ := hrel
                by_cases hlt : j < K
                · obtain ⟨Mj, hMj, HMj⟩ : ∃ Mj : Nat, (j : Int) * ((pre.size : Int) + 4) = (Mj : Int) ∧ Hid (Mj = j * (pre.size + 4)) := ⟨j * (pre.size + 4), by simp, rfl⟩
                  have hMb : Mj + (pre.size + 4) ≤ M := by
                    rw [HMj.out, HMM.out, ← Nat.succ_mul]
                    exact Nat.mul_le_mul_right _ hlt
                  have hjK : j < KK c := by rw [← HK.out]; exact hlt
                  have HT2 : Hid (∀ i, i < pre.size + 4 → T.getD (l.length + Mj + i) 0 = (unit pre d (un c j)).getD i 0) := fun i hi => by
                    rw [HT.out, HMj.out]
                    exact tail_get l pre d c j i hjK hi
                  have hgl : g < w2.heap.size := cell_lt (HG.out 0 (by omega))
                  have HRd : Hid (∀ wx i, Below w2.heap.size w2 wx → i < pre.size + 4 → wx.cell? ⟨g, l.length + Mj + i, none⟩ = some (.int .u8 ((unit pre d (un c j)).getD i 0).toNat)) := fun wx i hb hi => by
                    rw [hb.cell (p := ⟨g, l.length + Mj + i, none⟩) hgl, HG.out (l.length + Mj + i) (by omega), HT2.out i hi]
                  go_wp2
                  go_loopw [19] (fun i wr => ∃ k : Nat, k ≤ pre.size ∧ i = .int .i64 k ∧ LR w2 c j wr) (fun i _ => pre.size - (intOf i).toNat)
                  case atStart => exact ⟨0, Nat.zero_le _, rfl, hL⟩
                  case round =>
                    clear hL
                    obtain ⟨k, hk, rfl, hL⟩ := hrel
                    by_cases hkl : k < pre.size
                    · have r1 : wr.cell? ⟨g, l.length + Mj + k, none⟩ = some (.int .u8 pre[k].toNat) := by rw [HRd.out wr k hL.below (by omega), unit_pre pre d _ k hkl]
                      go_wp2_with fail
                      go_quiet (fail)
                      go_wp2
                      go_roundw
                      case rel => exact ⟨k + 1, by omega, by go_num, hL.drewN _⟩
                      case measure => simp [intOf]; omega
                    · obtain ⟨x, HX⟩ : ∃ x, Hid (x = un c j) := ⟨_, rfl⟩
                      have hxb := un_bd c hc0 hc1 j
                      rw [← HX.out] at hxb
                      obtain ⟨n3, n2, n1, n0, e3, e2, e1, e0, q3, q2, q1, q0, hh⟩ := nib4 d x (by omega)
                      have l3 : n3 < 16 := by omega
                      have l2 : n2 < 16 := by omega
                      have l1 : n1 < 16 := by omega
                      have l0 : n0 < 16 := by omega
                      have HXV : Hid (((((n3 : Int) * 16 + n2) * 16 + n1) * 16 + n0) = x) := by show _ = _; omega
                      have r3 : wr.cell? ⟨g, l.length + Mj + pre.size, none⟩ = some (.int .u8 (dgt d n3).toNat) := by
                        have h := HRd.out wr pre.size hL.below (by omega)
                        rw [h, ← HX.out]
                        have h2 := unit_hex pre d x 0
                        rw [Nat.add_zero] at h2
                        rw [h2, hh, dgt_in q3]
                        rfl
                      have r2 : wr.cell? ⟨g, l.length + Mj + pre.size + 1, none⟩ = some (.int .u8 (dgt d n2).toNat) := by
                        have h := HRd.out wr (pre.size + 1) hL.below (by omega)
                        rw [← Nat.add_assoc] at h
                        rw [h, ← HX.out, unit_hex pre d x 1, hh, dgt_in q2]
                        rfl
                      have r1 : wr.cell? ⟨g, l.length + Mj + pre.size + 2, none⟩ = some (.int .u8 (dgt d n1).toNat) := by
                        have h := HRd.out wr (pre.size + 2) hL.below (by omega)
                        rw [← Nat.add_assoc] at h
                        rw [h, ← HX.out, unit_hex pre d x 2, hh, dgt_in q1]
                        rfl
                      have r0 : wr.cell? ⟨g, l.length + Mj + pre.size + 3, none⟩ = some (.int .u8 (dgt d n0).toNat) := by
                        have h := HRd.out wr (pre.size + 3) hL.below (by omega)
                        rw [← Nat.add_assoc] at h
                        rw [h, ← HX.out, unit_hex pre d x 3, hh, dgt_in q0]
                        rfl
                      have hfz := hL.row.frozen j
                      have hcu : wr.cell? ⟨w2.heap.size, j, none⟩ = some (.int .i64 0) := by rw [hL.row.cell (by omega)]; simp
                      have hS := hL.step (x := (((n3 : Int) * 16 + n2) * 16 + n1) * 16 + n0) (by rw [HXV.out, HX.out])
                      clear e3 e2 e1 e0 hh
                      go_wp2
                      refine wp_loop_rounds 5 ?_
                      rw [rounds_succ]
                      go_wp2_with fail
                      refine (hexIndex_any d (dgt d n3) n3 wr (by omega) l3 rfl HD.out).mono ?_
                      rintro e w9 ⟨rfl, rfl⟩
                      go_wp2
                      rw [rounds_succ]
                      go_wp2_with fail
                      refine (hexIndex_any d (dgt d n2) n2 wr (by omega) l2 rfl HD.out).mono ?_
                      rintro e w9 ⟨rfl, rfl⟩
                      go_wp2
                      rw [rounds_succ]
                      go_wp2_with fail
                      refine (hexIndex_any d (dgt d n1) n1 wr (by omega) l1 rfl HD.out).mono ?_
                      rintro e w9 ⟨rfl, rfl⟩
                      go_wp2
                      rw [rounds_succ]
                      go_wp2_with fail
                      refine (hexIndex_any d (dgt d n0) n0 wr (by omega) l0 rfl HD.out).mono ?_
                      rintro e w9 ⟨rfl, rfl⟩
                      go_wp2
                      rw [rounds_succ]
                      go_wp2
                      go_roundw
                      case rel => exact ⟨j + 1, by omega, by go_num, hS⟩
                      case measure => simp [intOf]; omega
                · have hjK : j = K := by omega
                  have hL2 : LR w2 c K wr := by rw [hjK] at hL; exact hL
                  have hBw : Below w.heap.size w wr := (hB1.trans (hB2.mono hs1)).trans (hL.below.mono (by omega))
                  clear hjK hL
                  by_cases hs : c ≤ 65535
                  · have hK1 : K = 1 := by rw [HK.out]; exact if_pos hs
                    have hb1 : ((K : Int) == 1) = true := beq_iff_eq.2 (by omega)
                    have hcell : wr.cell? ⟨w2.heap.size, 0, none⟩ = some (.int .i64 c) := by
                      rw [hL2.row.cell (by omega)]
                      have : (0 : Nat) < K := by omega
                      simp [un, hs, this]
                    clear hK1
                    go_wp2
                    go_ret
                    exact ⟨rfl, hBw⟩
                  · have hK2 : K = 2 := by rw [HK.out]; exact if_neg hs
                    have hb1 : ((K : Int) == 1) = false := beq_eq_false_iff_ne.2 (by omega)
                    obtain ⟨y0, Hy0⟩ : ∃ y0, Hid (y0 = (c - 65536) / 1024) := ⟨_, rfl⟩
                    obtain ⟨y1, Hy1⟩ : ∃ y1, Hid (y1 = (c - 65536) % 1024) := ⟨_, rfl⟩
                    have hy0 : 0 ≤ y0 ∧ y0 ≤ 1023 := by rw [Hy0.out]; omega
                    have hy1 : 0 ≤ y1 ∧ y1 ≤ 1023 := by rw [Hy1.out]; omega
                    have HC : Hid (65536 + y0 * 1024 + y1 = c) := by show 65536 + y0 * 1024 + y1 = c; rw [Hy0.out, Hy1.out]; omega
                    have hcell0 : wr.cell? ⟨w2.heap.size, 0, none⟩ = some (.int .i64 (55296 + y0)) := by
                      rw [hL2.row.cell (by omega), Hy0.out]
                      have h0 : (0 : Nat) < K := by omega
                      have h1 : un c 0 = hiS c := by unfold un; rw [if_neg hs]; rfl
                      have h2 : hiS c = 55296 + (c - 65536) / 1024 := if_neg (by omega)
                      simp [h0, h1, h2]
                    have hcell1 : wr.cell? ⟨w2.heap.size, 1, none⟩ = some (.int .i64 (56320 + y1)) := by
                      rw [hL2.row.cell (by omega), Hy1.out]
                      have h0 : (1 : Nat) < K := by omega
                      have h1 : un c 1 = loS c := by unfold un; rw [if_neg hs]; rfl
                      have h2 : loS c = 56320 + (c - 65536) % 1024 := if_neg (by omega)
                      simp [h0, h1, h2]
                    have hfin : ((65536 + (55296 + y0 - 55296) * 1024 + (56320 + y1 - 56320) : Int) == c) = true := beq_iff_eq.2 (by have := HC.out; omega)
                    clear hK2
                    go_wp2
                    go_ret
                    exact ⟨rfl, hBw⟩
end Go.Proofs.Qxb6604644a
