import Derived.Test.Qxb6603698aE
import Derived.ProofKit
import Derived.OpenShut
import Derived.ShutString
import Derived.ChangeOld
import Derived.Below
namespace Go.Proofs.Qxb6603698a.fnReachJoinsCodedIntoParts
open Go.ChangeShapes Go.WideShapes Go.ChangeAt Go.RowKit
set_option linter.unusedVariables false

theorem own : ownKnob Try.prog.godebug = none := by kernel_rfl
theorem laidOut : laidOutB Try.prog = true := by kernel_rfl
theorem cells22 : Try.prog.cellsOf 22 = 1 := by kernel_rfl
theorem cells3 : Try.prog.cellsOf 3 = 1 := by kernel_rfl
theorem cells23 : Try.prog.cellsOf 23 = 6 := by kernel_rfl
theorem cells24 : Try.prog.cellsOf 24 = 6 := by kernel_rfl
theorem cells27 : Try.prog.cellsOf 27 = 1 := by kernel_rfl

/-- An array of six elements of one cell each, opened: its six values, each with its own reading. -/
theorem open_six {H : Type} {enc : TypeId × Value → H} {W : World} {base : Nat} {t e : TypeId} {v : Value} {d : DataW H} {p : List MemPlace} (ht : Try.prog.underlying t = some (.array 6 e)) (hce : Try.prog.cellsOf e = 1) (hct : Try.prog.cellsOf t = 6)
    (hv : Value.okWide Try.prog W .any base t v) (h : DataW.Trod enc Try.prog W 0 (fun _ => true) true t v d p) :
    ∃ V : Nat → Value, v = .agg #[V 0, V 1, V 2, V 3, V 4, V 5] ∧ ∀ i, i < 6 → ∃ m y, DataW.trod enc Try.prog W 0 (fun _ => true) true m e [V i] = some y := by
  simp only [Value.okWide, ht] at hv
  obtain ⟨cs, rfl, hsz, _⟩ := hv
  rw [hct] at hsz
  obtain ⟨fuel, hf⟩ := h
  obtain ⟨xs, m, _, _, _, hxl, hx⟩ := DataW.trod_array ht hf
  have hcs : cs = #[cs.getD 0 undef, cs.getD 1 undef, cs.getD 2 undef, cs.getD 3 undef, cs.getD 4 undef, cs.getD 5 undef] := by
    apply Array.ext
    · simp [hsz]
    · intro i h1 h2
      have hi : i < 6 := by omega
      have e1 : cs[i] = cs.getD i undef := by simp [Array.getD, h1]
      rw [e1]
      have := six_at (fun i => cs.getD i undef) i hi
      rw [Array.getElem?_eq_getElem (by simpa using hi)] at this
      injection this with this
      exact this.symm
  refine ⟨fun i => cs.getD i undef, by rw [← hcs], fun i hi => ?_⟩
  have h1 := hx i hi
  rw [hce, Nat.mul_one] at h1
  have h2 : (List.drop i (Value.agg cs).cells.toList).take 1 = [cs.getD i undef] := by
    have hlt : i < cs.toList.length := by simpa [hsz] using hi
    show (List.drop i cs.toList).take 1 = _
    rw [List.drop_eq_getElem_cons hlt]
    simp [Array.getD, hsz, hi]
  rw [h2, List.getElem?_eq_getElem (by omega)] at h1
  exact ⟨m, _, h1⟩

/-- A slice of words, opened. -/
theorem open_words {H : Type} {enc : TypeId × Value → H} {W : World} {m : Nat} {v : Value} {y : DataW H × List MemPlace} (h : DataW.trod enc Try.prog W 0 (fun _ => true) true m 22 [v] = some y) :
    ∃ (a : Option Addr) (l c : Nat) (f : Nat → Int), v = .slice a l c ∧ l ≤ maxLen ∧ (a = none → l = 0) ∧ Rd W a l f ∧ ∀ j, 0 ≤ f j ∧ f j < 18446744073709551616 := by
  rcases open_ints Try.underlying22 Try.underlying27 cells27 h with ⟨hcs, _⟩ | ⟨x, l, c, zs, hcs, _, hl, hm, hz, _, hcell, hwz⟩
  · injection hcs with hv
    exact ⟨none, 0, 0, fun _ => 0, hv, Nat.zero_le _, fun _ => rfl, Or.inl rfl, fun _ => ⟨Int.le_refl 0, by show (0 : Int) < _; omega⟩⟩
  · injection hcs with hv
    simp only [if_true] at hz
    refine ⟨some x, l, c, fun j => zs.getD j 0, hv, Nat.le_trans hl hm, fun h => absurd h (by simp), ?_, fun j => ?_⟩
    · by_cases h0 : l = 0
      · exact Or.inl h0
      · obtain ⟨b, off, rfl, hc⟩ := ints_at hcell (by omega)
        exact Or.inr ⟨b, off, rfl, fun i hi => hc i (by omega)⟩
    · by_cases hj : j < zs.length
      · have hw := hwz zs[j] (List.getElem_mem hj)
        have e : zs.getD j 0 = zs[j] := by simp [List.getD, hj]
        have hb := bounds_u64 hw
        show 0 ≤ zs.getD j 0 ∧ zs.getD j 0 < _
        rw [e]
        omega
      · have e : zs.getD j 0 = 0 := by simp [List.getD, hj]
        show 0 ≤ zs.getD j 0 ∧ zs.getD j 0 < _
        rw [e]
        omega

theorem bd64 {n : Int} (h : (Lit.int .i64 n).wf = true) : -9223372036854775808 ≤ n ∧ n ≤ 9223372036854775807 := bounds_i64 h

set_option maxRecDepth 100000 in
theorem lifted (os : Os) (started : os.Started) (H : Type) (enc : TypeId × Value → H) :
    ReturnsInHanded {} Try.checked os 3 .any (Rows.fnReachJoinsCodedIntoPartsSpec.pre6 enc Try.prog Try.f3 Rows.fnReachJoinsCodedIntoPartsRow.domain false) (Rows.fnReachJoinsCodedIntoPartsSpec.post enc Try.prog Try.f3 false true false false) := by
  refine returnsInHanded_of_change (C := Try.checked) own started (by kernel_rfl) Try.func3
    (ChangeSpec.witness6 (enc := enc) (C := Try.checked) false ⟨#[], #[.slice none 0 0, .int .i64 0, .agg #[.slice none 0 0, .slice none 0 0, .slice none 0 0, .slice none 0 0, .slice none 0 0, .slice none 0 0], .agg #[.int .i64 0, .int .i64 0, .int .i64 0, .int .i64 0, .int .i64 0, .int .i64 0], .int .i64 0, .int .i64 0], []⟩ 8 (by kernel_rfl) (by kernel_rfl) (by kernel_rfl) (by kernel_rfl)) ?_
  intro W base args ds gs before hval0 hW hcnd _
  have hval : ∀ (j : Nat) t v, Try.f3.params[j]? = some t → args[j]? = some v → Value.okWide Try.prog W .any base t v := hval0
  have hW' := hW
  obtain ⟨p, q, hA0, hV, rfl, hfz, hnd⟩ := hW
  have hA : DataW.TrodAll enc Try.prog W 0 (fun _ => true) true Try.f3.params.toList args.toList ds p := hA0
  rw [Try.params3] at hA hval
  obtain ⟨v0, vs0, d0, ds0, p0, q0, hargs, rfl, rfl, h0, r0⟩ := trodAll_cons hA
  obtain ⟨v1, vs1, d1, ds1, p1, q1, rfl, rfl, rfl, h1, r1⟩ := trodAll_cons r0
  obtain ⟨v2, vs2, d2, ds2, p2, q2, rfl, rfl, rfl, h2, r2⟩ := trodAll_cons r1
  obtain ⟨v3, vs3, d3, ds3, p3, q3, rfl, rfl, rfl, h3, r3⟩ := trodAll_cons r2
  obtain ⟨v4, vs4, d4, ds4, p4, q4, rfl, rfl, rfl, h4, r4⟩ := trodAll_cons r3
  obtain ⟨v5, vs5, d5, ds5, p5, q5, rfl, rfl, rfl, h5, r5⟩ := trodAll_cons r4
  obtain ⟨rfl, rfl, rfl⟩ := trodAll_nil r5
  obtain rfl : args = #[v0, v1, v2, v3, v4, v5] := by cases args; simp_all
  obtain ⟨rfl, rfl⟩ := trodVars_none hV
  obtain ⟨s0, t0, c0, rfl⟩ := okWide_slice Try.underlying22 (hval 0 22 v0 rfl rfl)
  have k0 := h0
  have k2 := h2
  have k3 := h3
  have lt0 : ∀ x ∈ p0, x.block < W.heap.size := by obtain ⟨m, hm⟩ := k0; exact DataW.trod_lt m _ _ _ hm
  have lt2 : ∀ x ∈ p2, x.block < W.heap.size := by obtain ⟨m, hm⟩ := k2; exact DataW.trod_lt m _ _ _ hm
  have lt3 : ∀ x ∈ p3, x.block < W.heap.size := by obtain ⟨m, hm⟩ := k3; exact DataW.trod_lt m _ _ _ hm
  obtain ⟨f0, hl0, hn0, hr0, hw0⟩ : ∃ f : Nat → Int, t0 ≤ maxLen ∧ (s0 = none → t0 = 0) ∧ Rd W s0 t0 f ∧ ∀ j, 0 ≤ f j ∧ f j < 18446744073709551616 := by
    obtain ⟨m, hm⟩ := h0
    obtain ⟨a, l, c, f, hv, r⟩ := open_words (v := .slice s0 t0 c0) (by simpa [Value.cells] using hm)
    injection hv with e1 e2 e3
    subst e1 e2
    exact ⟨f, r⟩
  obtain ⟨a1, rfl, rfl, rfl, w1⟩ := open_int Try.underlying3 (hval 1 3 v1 rfl rfl) h1
  obtain ⟨V, rfl, hVs⟩ := open_six Try.underlying23 cells22 cells23 (hval 2 23 v2 rfl rfl) h2
  obtain ⟨Y, rfl, hYs⟩ := open_six Try.underlying24 cells3 cells24 (hval 3 24 v3 rfl rfl) h3
  obtain ⟨a4, rfl, rfl, rfl, w4⟩ := open_int Try.underlying3 (hval 4 3 v4 rfl rfl) h4
  obtain ⟨a5, rfl, rfl, rfl, w5⟩ := open_int Try.underlying3 (hval 5 3 v5 rfl rfl) h5
  obtain ⟨T, hT⟩ := Classical.skolem.1 (show ∀ i, ∃ s : (Option Addr × Nat × Nat) × (Nat → Int), (i < 6 → V i = .slice s.1.1 s.1.2.1 s.1.2.2 ∧ s.1.2.1 ≤ maxLen ∧ (s.1.1 = none → s.1.2.1 = 0) ∧ Rd W s.1.1 s.1.2.1 s.2) ∧ ∀ j, 0 ≤ s.2 j ∧ s.2 j < 18446744073709551616 from fun i => by
    by_cases hi : i < 6
    · obtain ⟨m, y, hy⟩ := hVs i hi
      obtain ⟨a, l, c, f, r1, r2, r3, r4, r5⟩ := open_words hy
      exact ⟨((a, l, c), f), fun _ => ⟨r1, r2, r3, r4⟩, r5⟩
    · exact ⟨((none, 0, 0), fun _ => 0), fun h => absurd h hi, fun _ => ⟨Int.le_refl 0, by show (0 : Int) < _; omega⟩⟩)
  obtain ⟨U, hU⟩ := Classical.skolem.1 (show ∀ i, ∃ n : Int, i < 6 → Y i = .int .i64 n ∧ (Lit.int .i64 n).wf = true from fun i => by
    by_cases hi : i < 6
    · obtain ⟨m, y, hy⟩ := hYs i hi
      obtain ⟨n, hn, _, hw⟩ := DataW.trod_int Try.underlying3 hy
      injection hn with hn
      exact ⟨n, fun _ => ⟨hn, hw⟩⟩
    · exact ⟨0, fun h => absurd h hi⟩)
  clear hA0 hval0
  have hAr : Args s0 t0 f0 a1 V (fun i => (T i).1.1) (fun i => (T i).1.2.1) (fun i => (T i).1.2.2) (fun i => (T i).2) U a4 a5 W :=
    ⟨hl0, hn0, hr0, hw0, fun i hi => ((hT i).1 hi).1, fun i hi => ((hT i).1 hi).2.1, fun i hi => ((hT i).1 hi).2.2.1, fun i hi => ((hT i).1 hi).2.2.2, fun i j => (hT i).2 j, bd64 w1, fun i hi => bd64 (hU i hi).2, bd64 w5⟩
  have hwalk := law_any s0 t0 c0 f0 a1 V (fun i => (T i).1.1) (fun i => (T i).1.2.1) (fun i => (T i).1.2.2) (fun i => (T i).2) U a4 a5 W hAr
  rw [← (hU 0 (by omega)).1, ← (hU 1 (by omega)).1, ← (hU 2 (by omega)).1, ← (hU 3 (by omega)).1, ← (hU 4 (by omega)).1, ← (hU 5 (by omega)).1] at hwalk
  refine hwalk.mono fun e W' ⟨he, bel⟩ => ?_
  subst he
  exact ⟨_, rfl, _, _, _, [], _, [], hW', trodAll_mk1 (shut_bool Try.underlying4 _), (trodAll_cons_mk (Below.trod laidOut (by kernel_rfl) (of_decide_eq_true (by kernel_rfl)) k0 bel lt0) (trodAll_cons_mk (shut_int Try.underlying3 w1) (trodAll_cons_mk (Below.trod laidOut (by kernel_rfl) (of_decide_eq_true (by kernel_rfl)) k2 bel lt2) (trodAll_cons_mk (Below.trod laidOut (by kernel_rfl) (of_decide_eq_true (by kernel_rfl)) k3 bel lt3) (trodAll_cons_mk (shut_int Try.underlying3 w4) (trodAll_cons_mk (shut_int Try.underlying3 w5) trodAll_mk0)))))), rfl, bel.frame _, fun h => by cases h⟩

theorem over : Rows.fnReachJoinsCodedIntoPartsRow.holds Try.pinned (OpenSpec.ofChange Rows.fnReachJoinsCodedIntoPartsSpec) :=
  OpenClaim.holds_of_wide 3 Try.f3 rfl rfl rfl rfl rfl rfl rfl ⟨rfl, rfl, rfl, rfl, rfl⟩ rfl rfl rfl rfl rfl (by kernel_rfl) Try.func3 (by kernel_rfl)
    (of_decide_eq_true (by kernel_rfl)) (by unfold Func.isWrapper; first | (rw [if_pos (by decide +kernel)]; kernel_rfl) | (rw [if_neg (by decide +kernel)]; exact ⟨rfl, rfl⟩))
    (fun os started H enc _ => lifted os started H enc)

/-- THE STATEMENT -/
theorem proved : Rows.FnReachJoinsCodedIntoPartsSaid := over
end Go.Proofs.Qxb6603698a.fnReachJoinsCodedIntoParts
