import Derived.Test.Qxb6603698aA
namespace Go.Proofs.Qxb6603698a
open Go.RowKit

theorem row6 {w : World} {g : Nat} {t : TypeId} {V : Nat → Value} (h : w.rowIs g t 6 V) : w.heap[g]? = some (.cells #[V 0, V 1, V 2, V 3, V 4, V 5] t (0, 0)) := by
  obtain ⟨c, hb, hn, hc⟩ := h
  rw [hb]
  congr 2
  apply Array.ext_getElem?
  intro i
  by_cases hi : i < 6
  · rw [hc i hi, six_at V i hi]
  · rw [Array.getElem?_eq_none (by omega), Array.getElem?_eq_none (by simp; omega)]

/-- Six stores that fill a row of six cells. -/
theorem store6 {w : World} {g : Nat} {t : TypeId} {V : Nat → Value} (X : Nat → Value) (h : w.rowIs g t 6 V) :
    ∃ W, W = (((((w.setCell ⟨g, 0, none⟩ (X 0)).setCell ⟨g, 1, none⟩ (X 1)).setCell ⟨g, 2, none⟩ (X 2)).setCell ⟨g, 3, none⟩ (X 3)).setCell ⟨g, 4, none⟩ (X 4)).setCell ⟨g, 5, none⟩ (X 5) ∧
      W.rowIs g t 6 X ∧ W.heap.size = w.heap.size ∧ (∀ k, k ≠ g → W.heap[k]? = w.heap[k]?) ∧ ∀ B w0, Below B w0 w → B ≤ g → Below B w0 W := by
  refine ⟨_, rfl, ?_, by simp, ?_, ?_⟩
  · refine ((((((h.set 0 (X 0)).set 1 (X 1)).set 2 (X 2)).set 3 (X 3)).set 4 (X 4)).set 5 (X 5)).congr fun i hi => ?_
    match i, hi with
    | 0, _ => rfl
    | 1, _ => rfl
    | 2, _ => rfl
    | 3, _ => rfl
    | 4, _ => rfl
    | 5, _ => rfl
  · intro k hk
    rw [heap_setCell_other _ _ _ _ hk, heap_setCell_other _ _ _ _ hk, heap_setCell_other _ _ _ _ hk, heap_setCell_other _ _ _ _ hk, heap_setCell_other _ _ _ _ hk, heap_setCell_other _ _ _ _ hk]
  · intro B w0 hb hg
    exact (((((hb.setCell (p := ⟨g, 0, none⟩) hg _).setCell (p := ⟨g, 1, none⟩) hg _).setCell (p := ⟨g, 2, none⟩) hg _).setCell (p := ⟨g, 3, none⟩) hg _).setCell (p := ⟨g, 4, none⟩) hg _).setCell (p := ⟨g, 5, none⟩) hg _

theorem Try.size23 : (Try.prog.info? 23).map (·.size) = some 6 := by kernel_rfl
theorem Try.size24 : (Try.prog.info? 24).map (·.size) = some 6 := by kernel_rfl

/-- Three boxes of six cells each: the argument, the result's, a variable's. -/
theorem box3 (V : Nat → Value) (z : Value) (t : TypeId) (w : World) : ∃ W, W = ((w.alloc (.cells #[V 0, V 1, V 2, V 3, V 4, V 5] t)).alloc (.cells #[z, z, z, z, z, z] t)).alloc (.cells #[z, z, z, z, z, z] t) ∧ Below w.heap.size w W ∧ W.heap.size = w.heap.size + 3 ∧ W.rowIs w.heap.size t 6 V ∧ W.rowIs (w.heap.size + 1) t 6 (fun _ => z) ∧ W.rowIs (w.heap.size + 2) t 6 (fun _ => z) := by
  refine ⟨_, rfl, (((Below.refl _ _).alloc (Nat.le_refl _) _).alloc (by simp) _).alloc (by simp; omega) _, by simp, ((World.rowIs_alloc w _ t V (fun i hi => six_at V i hi)).alloc _).alloc _, ?_, ?_⟩
  · have h := World.rowIs_alloc (w.alloc (.cells #[V 0, V 1, V 2, V 3, V 4, V 5] t)) #[z, z, z, z, z, z] t (fun _ => z) (fun i hi => six_at (fun _ => z) i hi)
    have h' := h.alloc (.cells #[z, z, z, z, z, z] t)
    simpa using h'
  · have h := World.rowIs_alloc ((w.alloc (.cells #[V 0, V 1, V 2, V 3, V 4, V 5] t)).alloc (.cells #[z, z, z, z, z, z] t)) #[z, z, z, z, z, z] t (fun _ => z) (fun i hi => six_at (fun _ => z) i hi)
    simpa using h

/-- Six slices of words, each in a block of the call's own, no two in one block. -/
structure OwnFam (B : Nat) (w : World) (A : Nat → Option Addr) (L : Nat → Nat) (F : Nat → Nat → Int) (m : Nat) : Prop where
  own : ∀ i, i < m → Own B w (A i) (L i) (F i)
  apart : ∀ i j, i < m → j < m → i ≠ j → 0 < L i → 0 < L j → A i ≠ A j

structure ClonedFam (L : Nat → Nat) (F : Nat → Nat → Int) (w : World) (e : Ending) (w' : World) : Prop where
  ret : ∃ (X : Nat → Value) (A : Nat → Option Addr) (C : Nat → Nat), e = .returned (.agg #[X 0, X 1, X 2, X 3, X 4, X 5]) ∧ (∀ i, i < 6 → X i = .slice (A i) (L i) (C i)) ∧ (∀ i, i < 6 → L i ≤ C i) ∧ OwnFam w.heap.size w' A L F 6
  below : Below w.heap.size w w'

/-- The loop's relation behind k rounds. -/
structure CRel (V : Nat → Value) (L : Nat → Nat) (F : Nat → Nat → Int) (w : World) (k : Nat) (wr : World) : Prop where
  below : Below w.heap.size w wr
  size : w.heap.size + 3 ≤ wr.heap.size
  arg : wr.rowIs w.heap.size 23 6 V
  res : wr.rowIs (w.heap.size + 1) 23 6 (fun _ => .slice none 0 0)
  out : ∃ (A : Nat → Option Addr) (C : Nat → Nat), wr.rowIs (w.heap.size + 2) 23 6 (fun i => if i < k then .slice (A i) (L i) (C i) else .slice none 0 0) ∧ (∀ i, i < k → L i ≤ C i) ∧ OwnFam (w.heap.size + 3) wr A L F k

theorem Rd.below {w w' : World} {a : Option Addr} {n : Nat} {f : Nat → Int} (h : Rd w a n f) (hb : Below w.heap.size w w') : Rd w' a n f := by
  rcases h with h | ⟨b, off, ha, hc⟩
  · exact Or.inl h
  · exact Or.inr ⟨b, off, ha, fun i hi => (hb.cell (p := ⟨b, off + i, none⟩) (cell_lt (hc i hi))).trans (hc i hi)⟩

theorem Own.below {B : Nat} {w w' : World} {a : Option Addr} {n : Nat} {f : Nat → Int} (h : Own B w a n f) (hb : Below w.heap.size w w') : Own B w' a n f := by
  rcases h with h | ⟨g, ha, hB, hr⟩
  · exact Or.inl h
  · exact Or.inr ⟨g, ha, hB, hr.of_block (hb.block g hr.lt)⟩

theorem Own.mono {B B' : Nat} {w : World} {a : Option Addr} {n : Nat} {f : Nat → Int} (h : Own B w a n f) (hb : B' ≤ B) : Own B' w a n f := by
  rcases h with h | ⟨g, ha, hB, hr⟩
  · exact Or.inl h
  · exact Or.inr ⟨g, ha, Nat.le_trans hb hB, hr⟩

theorem Own.setBelow {B : Nat} {w : World} {a : Option Addr} {n : Nat} {f : Nat → Int} (h : Own B w a n f) {p : Addr} (hp : p.block < B) (v : Value) : Own B (w.setCell p v) a n f := by
  rcases h with h | ⟨g, ha, hB, hr⟩
  · exact Or.inl h
  · exact Or.inr ⟨g, ha, hB, hr.setOther (by omega) v⟩

theorem Own.rd {B : Nat} {w : World} {a : Option Addr} {n : Nat} {f : Nat → Int} (h : Own B w a n f) : Rd w a n f := by
  rcases h with h | ⟨g, ha, hB, hr⟩
  · exact Or.inl h
  · exact Or.inr ⟨g, 0, ha, fun i hi => by rw [Nat.zero_add]; exact hr.cell hi⟩

theorem CRel.later {V : Nat → Value} {L : Nat → Nat} {F : Nat → Nat → Int} {w wr w1 : World} {k : Nat} (h : CRel V L F w k wr) (hb : Below wr.heap.size wr w1) : CRel V L F w k w1 := by
  have hs := h.size
  refine ⟨h.below.trans (hb.mono h.below.size), Nat.le_trans h.size hb.size, h.arg.of_block (hb.block _ h.arg.lt), h.res.of_block (hb.block _ h.res.lt), ?_⟩
  obtain ⟨A, C, ho, hcp, hf⟩ := h.out
  exact ⟨A, C, ho.of_block (hb.block _ ho.lt), hcp, ⟨fun i hi => (hf.own i hi).below hb, hf.apart⟩⟩

theorem CRel.step {V : Nat → Value} {L : Nat → Nat} {F : Nat → Nat → Int} {w wr w1 : World} {k : Nat} (h : CRel V L F w k wr) (hb : Below wr.heap.size wr w1) {a : Option Addr} {c : Nat} (hc : L k ≤ c) (ho : Own wr.heap.size w1 a (L k) (F k)) :
    CRel V L F w (k + 1) (w1.setCell ⟨w.heap.size + 2, k, none⟩ (.slice a (L k) c)) := by
  have h1 := h.later hb
  have hs := h.size
  obtain ⟨A0, C0, hr0, hcp0, hf0⟩ := h.out
  obtain ⟨A, C, hr, hf⟩ : ∃ (A : Nat → Option Addr) (C : Nat → Nat), w1.rowIs (w.heap.size + 2) 23 6 (fun i => if i < k then .slice (A i) (L i) (C i) else .slice none 0 0) ∧ (∀ i, i < k → Own (w.heap.size + 3) wr (A i) (L i) (F i)) ∧ (∀ i j, i < k → j < k → i ≠ j → 0 < L i → 0 < L j → A i ≠ A j) ∧ ∀ i, i < k → L i ≤ C i :=
    ⟨A0, C0, hr0.of_block (hb.block _ hr0.lt), hf0.own, hf0.apart, hcp0⟩
  have e0 : ∀ i, i < k → (if i = k then a else A i) = A i := fun i hi => if_neg (by omega)
  have ek : (if k = k then a else A k) = a := if_pos rfl
  refine ⟨h1.below.setCell (by show _ ≤ w.heap.size + 2; omega) _, by simpa using h1.size, h1.arg.setOther (by show _ ≠ w.heap.size + 2; omega) _, h1.res.setOther (by show _ ≠ w.heap.size + 2; omega) _, fun i => if i = k then a else A i, fun i => if i = k then c else C i, ?_, ?_, ?_, ?_⟩
  · refine (hr.set k _).congr fun i hi => ?_
    by_cases e : i = k
    · subst e; simp
    · by_cases e' : i < k
      · have : i < k + 1 := by omega
        simp [e, e', this]
      · have : ¬ i < k + 1 := by omega
        simp [e, e', this]
  · intro i hi
    show L i ≤ if i = k then c else C i
    by_cases e : i = k
    · subst e; rw [if_pos rfl]; exact hc
    · rw [if_neg e]; exact hf.2.2 i (by omega)
  · intro i hi
    by_cases e : i = k
    · subst e
      rw [ek]
      exact (ho.mono h.size).setBelow (by show w.heap.size + 2 < _; omega) _
    · rw [e0 i (by omega)]
      exact ((hf.1 i (by omega)).below hb).setBelow (by show w.heap.size + 2 < _; omega) _
  · have key : ∀ i, i < k → 0 < L i → 0 < L k → A i ≠ a := by
      intro i hi h1 h2 he
      rcases hf.1 i hi with h0 | ⟨g, hg, _, hrow⟩
      · omega
      · rcases ho with h0 | ⟨g', hg', hB', _⟩
        · omega
        · have := hrow.lt
          rw [hg, hg'] at he
          injection he with he
          injection he with he
          omega
    intro i j hi hj hij g1 g2
    by_cases ei : i = k
    · subst ei
      rw [ek, e0 j (by omega)]
      exact (key j (by omega) g2 g1).symm
    · by_cases ej : j = k
      · subst ej
        rw [ek, e0 i (by omega)]
        exact key i (by omega) g1 g2
      · rw [e0 i (by omega), e0 j (by omega)]
        exact hf.2.1 i j (by omega) (by omega) hij g1 g2

set_option maxHeartbeats 400000 in
theorem cloneCoded_any (V : Nat → Value) (A : Nat → Option Addr) (L C : Nat → Nat) (F : Nat → Nat → Int) (w : World) (hV : ∀ i, i < 6 → V i = .slice (A i) (L i) (C i)) (hL : ∀ i, i < 6 → L i ≤ 1048576) (hz : ∀ i, i < 6 → A i = none → L i = 0) (hr : ∀ i, i < 6 → Rd w (A i) (L i) (F i)) :
    Calls Try.prog 9 #[.agg #[V 0, V 1, V 2, V 3, V 4, V 5]] w fun e w' => ClonedFam L F w e w' := by
  have HV : Hid (∀ i, i < 6 → V i = .slice (A i) (L i) (C i)) := hV
  clear hV
  obtain ⟨W, hW, hB, hsz, hr1, hr2, hr3⟩ := box3 V (.slice none 0 0) 23 w
  go_enter Try.func9, Try.ntmps9
  go_wp2
  rw [← hW]
  clear hW
  go_loopw [4] (fun i wr => ∃ k : Nat, k ≤ 6 ∧ i = .int .i64 k ∧ CRel V L F w k wr) (fun i _ => 6 - (intOf i).toNat)
  case atStart => exact ⟨0, Nat.zero_le _, rfl, hB, by omega, hr1, hr2, fun _ => none, fun _ => 0, hr3, fun i hi => absurd hi (Nat.not_lt_zero i), ⟨fun i hi => absurd hi (Nat.not_lt_zero i), fun i j hi => absurd hi (Nat.not_lt_zero i)⟩⟩
  case round =>
    obtain ⟨k, hk, rfl, hR⟩ := hrel
    by_cases hlt : k < 6
    · have hc : wr.cell? ⟨w.heap.size, k, none⟩ = some (.slice (A k) (L k) (C k)) := by rw [hR.arg.cell hlt, HV.out k hlt]
      go_wp2_with fail
      refine (clone_any (A k) (L k) (C k) (F k) wr (hL k hlt) (hz k hlt) ((hr k hlt).below hR.below)).mono ?_
      rintro e w1 ⟨⟨a', c', rfl, hcap, hown⟩, hb1⟩
      have hS := hR.step hb1 hcap hown
      have hR1 := hR.later hb1
      have hfz : w1.frozen? ⟨w.heap.size + 2, k, none⟩ = false := by obtain ⟨_, _, ho, _, _⟩ := hR1.out; exact ho.frozen k
      obtain ⟨ov, hcl⟩ : ∃ ov, w1.cell? ⟨w.heap.size + 2, k, none⟩ = some ov := by obtain ⟨_, _, ho, _, _⟩ := hR1.out; exact ⟨_, ho.cell hlt⟩
      clear hR1 hown hc
      go_wp2
      go_roundw
      case rel => exact ⟨k + 1, by omega, by go_num, hS⟩
      case measure => simp [intOf]; omega
    · have h6 : k = 6 := by omega
      obtain ⟨A', C', ho, hcp, hf⟩ := hR.out
      have ho' : wr.rowIs (w.heap.size + 2) 23 6 (fun i => .slice (A' i) (L i) (C' i)) := ho.congr fun i hi => if_pos (by omega)
      rw [h6] at hf hcp
      have hres := hR.res
      have hbel := hR.below
      clear h6 hR ho
      have c0 : wr.cell? ⟨w.heap.size + 2, 0, none⟩ = some (.slice (A' 0) (L 0) (C' 0)) := ho'.cell (by omega)
      have c1 : wr.cell? ⟨w.heap.size + 2, 1, none⟩ = some (.slice (A' 1) (L 1) (C' 1)) := ho'.cell (by omega)
      have c2 : wr.cell? ⟨w.heap.size + 2, 2, none⟩ = some (.slice (A' 2) (L 2) (C' 2)) := ho'.cell (by omega)
      have c3 : wr.cell? ⟨w.heap.size + 2, 3, none⟩ = some (.slice (A' 3) (L 3) (C' 3)) := ho'.cell (by omega)
      have c4 : wr.cell? ⟨w.heap.size + 2, 4, none⟩ = some (.slice (A' 4) (L 4) (C' 4)) := ho'.cell (by omega)
      have c5 : wr.cell? ⟨w.heap.size + 2, 5, none⟩ = some (.slice (A' 5) (L 5) (C' 5)) := ho'.cell (by omega)
      have d0 : wr.cell? ⟨w.heap.size + 1, 0, none⟩ = some (.slice none 0 0) := hres.cell (by omega)
      have d1 : wr.cell? ⟨w.heap.size + 1, 1, none⟩ = some (.slice none 0 0) := hres.cell (by omega)
      have d2 : wr.cell? ⟨w.heap.size + 1, 2, none⟩ = some (.slice none 0 0) := hres.cell (by omega)
      have d3 : wr.cell? ⟨w.heap.size + 1, 3, none⟩ = some (.slice none 0 0) := hres.cell (by omega)
      have d4 : wr.cell? ⟨w.heap.size + 1, 4, none⟩ = some (.slice none 0 0) := hres.cell (by omega)
      have d5 : wr.cell? ⟨w.heap.size + 1, 5, none⟩ = some (.slice none 0 0) := hres.cell (by omega)
      have hfz : ∀ j, wr.frozen? ⟨w.heap.size + 1, j, none⟩ = false := fun j => hres.frozen j
      obtain ⟨W2, hW2, hrow2, _, hoth, hB2⟩ := store6 (fun i => Value.slice (A' i) (L i) (C' i)) hres
      have HW : Hid (W2 = (((((wr.setCell ⟨w.heap.size + 1, 0, none⟩ (Value.slice (A' 0) (L 0) (C' 0))).setCell ⟨w.heap.size + 1, 1, none⟩ (Value.slice (A' 1) (L 1) (C' 1))).setCell ⟨w.heap.size + 1, 2, none⟩ (Value.slice (A' 2) (L 2) (C' 2))).setCell ⟨w.heap.size + 1, 3, none⟩ (Value.slice (A' 3) (L 3) (C' 3))).setCell ⟨w.heap.size + 1, 4, none⟩ (Value.slice (A' 4) (L 4) (C' 4))).setCell ⟨w.heap.size + 1, 5, none⟩ (Value.slice (A' 5) (L 5) (C' 5))) := hW2
      have HO : Hid (∀ k, k ≠ w.heap.size + 1 → W2.heap[k]? = wr.heap[k]?) := hoth
      clear hW2 hoth
      go_wp2
      rw [← HW.out]
      refine bodyPost_ret (v := .agg #[.slice (A' 0) (L 0) (C' 0), .slice (A' 1) (L 1) (C' 1), .slice (A' 2) (L 2) (C' 2), .slice (A' 3) (L 3) (C' 3), .slice (A' 4) (L 4) (C' 4), .slice (A' 5) (L 5) (C' 5)]) (results_cell_row (p := 2) (ty := 23) rfl _ W2 (w.heap.size + 1) 23 _ (0, 0) _ rfl (row6 hrow2) Try.underlying23 rfl Try.size23) rfl ?_
      refine ⟨⟨fun i => .slice (A' i) (L i) (C' i), A', C', rfl, fun _ _ => rfl, hcp, ⟨fun i hi => ?_, hf.apart⟩⟩, hB2 _ _ hbel (by omega)⟩
      rcases hf.own i hi with h | ⟨g, ha, hB, hr⟩
      · exact Or.inl h
      · exact Or.inr ⟨g, ha, by omega, hr.of_block (HO.out g (by omega))⟩
end Go.Proofs.Qxb6603698a
