import Derived.Test.Qxb6603698aB
namespace Go.Proofs.Qxb6603698a
open Go.RowKit

/-- The struct's seventeen cells: nil, parts, used, coded (6), codedUsed (6), pending, nil. -/
structure St (S : Nat → Value) (pa : Option Addr) (n pc : Nat) (u : Int) (V : Nat → Value) (U : Nat → Int) (pend : Int) : Prop where
  parts : S 1 = .slice pa n pc
  used : S 2 = .int .i64 u
  coded : ∀ i, i < 6 → S (3 + i) = V i
  codedUsed : ∀ i, i < 6 → S (9 + i) = .int .i64 (U i)
  pending : S 15 = .int .i64 pend

set_option maxHeartbeats 400000 in
/-- Nothing is coded there: nothing turns. -/
theorem reach_none (T : Nat) (q : Nat) (S : Nat → Value) (w : World) (pa : Option Addr) (n pc : Nat) (u : Int) (V : Nat → Value) (U : Nat → Int) (pend : Int) (hT : w.rowIs T 47 17 S) (hS : St S pa n pc u V U pend) (hq : q ≤ 9223372036854775807) (h0 : U (q % 6) = 0) :
    Calls Try.prog 18 #[.pointer (some ⟨T, 0, none⟩), .int .i64 q] w fun e w' => e = .returned (.tuple #[]) ∧ w' = w := by
  have hc : w.cell? ⟨T, 9 + q % 6, none⟩ = some (.int .i64 0) := by rw [hT.cell (by omega), hS.codedUsed _ (by omega), h0]
  go_enter Try.func18, Try.ntmps18
  go_wp2
  exact bodyPost_ret (results_none rfl _ _ _) rfl ⟨rfl, rfl⟩

/-- Of all blocks, those alone that P names may have turned. -/
structure Oth (P : Nat → Prop) (w w' : World) : Prop where
  os : w'.os = w.os
  tape : w'.tape = w.tape
  output : w'.output = w.output
  size : w'.heap.size = w.heap.size
  block : ∀ k, ¬ P k → w'.heap[k]? = w.heap[k]?

theorem Oth.refl (P : Nat → Prop) (w : World) : Oth P w w := ⟨rfl, rfl, rfl, rfl, fun _ _ => rfl⟩
theorem Oth.setCell {P : Nat → Prop} {w w' : World} (h : Oth P w w') {a : Addr} (ha : P a.block) (v : Value) : Oth P w (w'.setCell a v) :=
  ⟨h.os, h.tape, h.output, by simpa using h.size, fun k hk => (heap_setCell_other w' a k v (fun e => hk (e ▸ ha))).trans (h.block k hk)⟩
theorem Oth.drew {P : Nat → Prop} {w w' : World} (h : Oth P w w') : Oth P w w'.drew := ⟨h.os, h.tape, h.output, h.size, h.block⟩
theorem Oth.below {P : Nat → Prop} {w w' : World} (h : Oth P w w') {B : Nat} (hB : ∀ k, P k → B ≤ k) : Below B w w' :=
  ⟨h.os, h.tape, h.output, by rw [h.size]; exact Nat.le_refl _, fun k hk => h.block k (fun hp => by have := hB k hp; omega)⟩

/-- The loop's relation behind k rounds. -/
structure RRel (T gp gc n m : Nat) (S : Nat → Value) (f h : Nat → Int) (w : World) (k : Nat) (wr : World) : Prop where
  st : wr.rowIs T 47 17 S
  parts : wr.rowIs gp 27 n (fun i => .int .u64 (if i < k then bits .or .u64 (f i) (h i) else f i))
  code : wr.rowIs gc 27 m (fun i => .int .u64 (if i < k then 0 else h i))
  oth : Oth (fun b => b = T ∨ b = gp ∨ b = gc) w wr

theorem RRel.step {T gp gc n m : Nat} {S : Nat → Value} {f h : Nat → Int} {w wr : World} {k : Nat} (r : RRel T gp gc n m S f h w k wr) (h1 : gp ≠ T) (h2 : gc ≠ T) (h3 : gp ≠ gc) :
    RRel T gp gc n m S f h w (k + 1) ((wr.setCell ⟨gp, k, none⟩ (.int .u64 (bits .or .u64 (f k) (h k)))).setCell ⟨gc, k, none⟩ (.int .u64 0)) := by
  refine ⟨(r.st.setOther (fun e => h1 e.symm) _).setOther (fun e => h2 e.symm) _, ((r.parts.set k _).setOther h3 _).congr fun i hi => ?_, ((r.code.setOther (fun e => h3 e.symm) _).set k _).congr fun i hi => ?_, (r.oth.setCell (Or.inr (Or.inl rfl)) _).setCell (Or.inr (Or.inr rfl)) _⟩
  · by_cases e : i = k
    · subst e; simp
    · by_cases e' : i < k
      · have : i < k + 1 := by omega
        simp [e, e', this]
      · have : ¬ i < k + 1 := by omega
        simp [e, e', this]
  · by_cases e : i = k
    · subst e; simp
    · by_cases e' : i < k
      · have : i < k + 1 := by omega
        simp [e, e', this]
      · have : ¬ i < k + 1 := by omega
        simp [e, e', this]

/-- What reach leaves where n words are coded at its place. -/
structure Reached (T gp gc n m N at_ : Nat) (S : Nat → Value) (f h : Nat → Int) (u pend : Int) (w : World) (e : Ending) (w' : World) : Prop where
  ret : e = .returned (.tuple #[])
  st : w'.rowIs T 47 17 (fun i => if i = 15 then .int .i64 (pend - 1) else if i = 9 + at_ then .int .i64 0 else if i = 2 then .int .i64 (max u N) else S i)
  parts : w'.rowIs gp 27 n (fun i => .int .u64 (if i < N then bits .or .u64 (f i) (h i) else f i))
  code : w'.rowIs gc 27 m (fun i => .int .u64 (if i < N then 0 else h i))
  oth : Oth (fun b => b = T ∨ b = gp ∨ b = gc) w w'

theorem RRel.done {T gp gc n m N at_ : Nat} {S : Nat → Value} {f h : Nat → Int} {w wr : World} {u pend x : Int} (r : RRel T gp gc n m S f h w N wr) (h1 : gp ≠ T) (h2 : gc ≠ T) (hx : x = max u N) :
    Reached T gp gc n m N at_ S f h u pend w (.returned (.tuple #[])) (((wr.setCell ⟨T, 2, none⟩ (.int .i64 x)).setCell ⟨T, 9 + at_, none⟩ (.int .i64 0)).setCell ⟨T, 15, none⟩ (.int .i64 (pend - 1))) := by
  refine ⟨rfl, (((r.st.set 2 _).set (9 + at_) _).set 15 _).congr fun i hi => by rw [hx], ((r.parts.setOther h1 _).setOther h1 _).setOther h1 _, ((r.code.setOther h2 _).setOther h2 _).setOther h2 _, ((r.oth.setCell (Or.inl rfl) _).setCell (Or.inl rfl) _).setCell (Or.inl rfl) _⟩

set_option maxHeartbeats 400000 in
theorem reach_some (T gp gc q : Nat) (S : Nat → Value) (w : World) (n pc m mc N : Nat) (u : Int) (V : Nat → Value) (U : Nat → Int) (pend : Int) (f h : Nat → Int) (hT : w.rowIs T 47 17 S) (hS : St S (some ⟨gp, 0, none⟩) n pc u V U pend) (hq : q ≤ 9223372036854775807)
    (hU : U (q % 6) = N) (hN : 0 < N) (hNn : N ≤ n) (hNm : N ≤ m) (hn : n ≤ 1048576) (hm : m ≤ mc) (hV : V (q % 6) = .slice (some ⟨gc, 0, none⟩) m mc) (hp : w.rowIs gp 27 n (fun i => .int .u64 (f i))) (hc : w.rowIs gc 27 m (fun i => .int .u64 (h i))) (h1 : gp ≠ T) (h2 : gc ≠ T) (h3 : gp ≠ gc)
    (hp0 : 0 ≤ pend) (hp1 : pend ≤ 6) :
    Calls Try.prog 18 #[.pointer (some ⟨T, 0, none⟩), .int .i64 q] w fun e w' => Reached T gp gc n m N (q % 6) S f h u pend w e w' := by
  have hc9 : w.cell? ⟨T, 9 + q % 6, none⟩ = some (.int .i64 N) := by rw [hT.cell (by omega), hS.codedUsed _ (by omega), hU]
  have hc3 : w.cell? ⟨T, 3 + q % 6, none⟩ = some (.slice (some ⟨gc, 0, none⟩) m mc) := by rw [hT.cell (by omega), hS.coded _ (by omega), hV]
  have hb : ((N : Int) == 0) = false := beq_eq_false_iff_ne.2 (by omega)
  have HU : Hid (U (q % 6) = N) := hU
  have HV : Hid (V (q % 6) = .slice (some ⟨gc, 0, none⟩) m mc) := hV
  have h31 := h3.symm
  have h11 := h1.symm
  have h21 := h2.symm
  clear hU hV
  go_enter Try.func18, Try.ntmps18
  go_wp2
  go_loopw [27] (fun i wr => ∃ k : Nat, k ≤ N ∧ i = .int .i64 k ∧ RRel T gp gc n m S f h w k wr) (fun i _ => N - (intOf i).toNat)
  case atStart => exact ⟨0, Nat.zero_le _, rfl, hT, hp, hc, Oth.refl _ _⟩
  case round =>
    obtain ⟨k, hk, rfl, hR⟩ := hrel
    clear hc9 hc3
    by_cases hlt : k < N
    · have r1 : wr.cell? ⟨T, 1, none⟩ = some (.slice (some ⟨gp, 0, none⟩) n pc) := by rw [hR.st.cell (by omega), hS.parts]
      have r3 : wr.cell? ⟨T, 3 + q % 6, none⟩ = some (.slice (some ⟨gc, 0, none⟩) m mc) := by rw [hR.st.cell (by omega), hS.coded _ (by omega), HV.out]
      have rp : wr.cell? ⟨gp, k, none⟩ = some (.int .u64 (f k)) := by rw [hR.parts.cell (by omega)]; simp
      have rc : wr.cell? ⟨gc, k, none⟩ = some (.int .u64 (h k)) := by rw [hR.code.cell (by omega)]; simp
      have fp : wr.frozen? ⟨gp, k, none⟩ = false := hR.parts.frozen k
      have fc : wr.frozen? ⟨gc, k, none⟩ = false := hR.code.frozen k
      have hS' := hR.step h1 h2 h3
      go_wp2
      go_roundw
      case rel => exact ⟨k + 1, by omega, by go_num, hS'⟩
      case measure => simp [intOf]; omega
    · have hkN : k = N := by omega
      rw [hkN] at hR
      have r2 : wr.cell? ⟨T, 2, none⟩ = some (.int .i64 u) := by rw [hR.st.cell (by omega), hS.used]
      have r9 : wr.cell? ⟨T, 9 + q % 6, none⟩ = some (.int .i64 N) := by rw [hR.st.cell (by omega), hS.codedUsed _ (by omega), HU.out]
      have r15 : wr.cell? ⟨T, 15, none⟩ = some (.int .i64 pend) := by rw [hR.st.cell (by omega), hS.pending]
      have rf : ∀ j, wr.frozen? ⟨T, j, none⟩ = false := fun j => hR.st.frozen j
      have n1 : (15 : Nat) ≠ 9 + q % 6 := by omega
      have n2 : 9 + q % 6 ≠ (15 : Nat) := by omega
      have n3 : (2 : Nat) ≠ 9 + q % 6 := by omega
      have n4 : 9 + q % 6 ≠ (2 : Nat) := by omega
      clear hkN
      go_wp2
      all_goals
        go_end0
        exact hR.done h1 h2 (by omega)
end Go.Proofs.Qxb6603698a
