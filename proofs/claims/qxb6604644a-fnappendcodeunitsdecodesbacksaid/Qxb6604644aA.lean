import Derived.Test.Qxb6604644aRows
import Derived.WalkKit
import Derived.WalkSpells
import Derived.WalkLawsBesides
import Derived.Deep.OwnRows
import Derived.Lib.AppendStr
import Derived.BigQuiet
import Derived.Deep.QuietTactic
namespace Go.Proofs.Qxb6604644a
open Go.RowKit
set_option linter.unusedVariables false

/-- Bytes as cells. -/
def bcells (l : List UInt8) : List Value := l.map fun b => Value.int .u8 b.toNat

theorem bcells_length (l : List UInt8) : (bcells l).length = l.length := by simp [bcells]
theorem bcells_append (l m : List UInt8) : bcells (l ++ m) = bcells l ++ bcells m := by simp [bcells]
theorem bcells_get (l : List UInt8) (i : Nat) (h : i < l.length) : (bcells l)[i]? = some (.int .u8 l[i].toNat) := by simp [bcells, h]
theorem bcells_one (l : List UInt8) : ∀ u ∈ bcells l, u.oneCell' = true := by
  intro u hu
  obtain ⟨b, _, rfl⟩ := List.mem_map.1 hu
  rfl
theorem strCells_eq (s : ByteArray) : Lib.strCells s = bcells s.data.toList := rfl
theorem size_eq (s : ByteArray) : s.data.toList.length = s.size := by rw [Array.length_toList]; rfl

/-- A slice of bytes without spare room, below block B. -/
def FullAt (B : Nat) (w : World) (ov : Value) (ol : List UInt8) : Prop :=
  (ov = .slice none 0 0 ∧ ol = []) ∨ ∃ g, g < B ∧ ov = .slice (some ⟨g, 0, none⟩) ol.length ol.length ∧ w.heap[g]? = some (.cells (bcells ol).toArray 5 (0, 0))

theorem FullAt.below {B : Nat} {w w' : World} {ov : Value} {ol : List UInt8} (h : FullAt B w ov ol) (hb : Below B w w') : FullAt B w' ov ol := by
  rcases h with h | ⟨g, hg, hv, hr⟩
  · exact Or.inl h
  · exact Or.inr ⟨g, hg, hv, (hb.block g hg).trans hr⟩

/-- WHAT IS APPENDED TO: 'v' holds l; it is 'ov' still, to which nothing has been appended, or it lies in the call's own blocks, from B on; 'ov' is as it was. -/
structure AS (B : Nat) (ov : Value) (ol : List UInt8) (w : World) (v : Value) (l : List UInt8) : Prop where
  size : B ≤ w.heap.size
  out : FullAt B w ov ol
  cur : (v = ov ∧ l = ol) ∨ w.ownsRow B 5 1 v l.length (bcells l)

theorem AS.alloc {B : Nat} {ov v : Value} {ol l : List UInt8} {w : World} (h : AS B ov ol w v l) (o : Obj) : AS B ov ol (w.alloc o) v l := by
  have hs := h.size
  refine ⟨by simp; omega, h.out.below ((Below.refl _ _).alloc h.size o), ?_⟩
  rcases h.cur with hc | hc
  · exact Or.inl hc
  · exact Or.inr (hc.alloc o)

theorem AS.form {B : Nat} {ov v : Value} {ol l : List UInt8} {w : World} (h : AS B ov ol w v l) : ∃ a c, v = .slice a l.length c := by
  rcases h.cur with ⟨rfl, rfl⟩ | hc
  · rcases h.out with ⟨rfl, rfl⟩ | ⟨g, _, rfl, _⟩
    · exact ⟨none, 0, rfl⟩
    · exact ⟨_, _, rfl⟩
  · rcases hc.2 with ⟨rfl, h0⟩ | ⟨g, cap, _, rfl, _⟩
    · exact ⟨none, 0, by rw [h0]⟩
    · exact ⟨_, _, rfl⟩

/-- Every byte can be read. -/
theorem AS.read {B : Nat} {ov v : Value} {ol l : List UInt8} {w : World} (h : AS B ov ol w v l) (h0 : 0 < l.length) : ∃ g c, v = .slice (some ⟨g, 0, none⟩) l.length c ∧ ∀ (i : Nat) (hi : i < l.length), w.cell? ⟨g, i, none⟩ = some (.int .u8 l[i].toNat) := by
  rcases h.cur with ⟨rfl, rfl⟩ | hc
  · rcases h.out with ⟨rfl, rfl⟩ | ⟨g, _, rfl, hr⟩
    · simp at h0
    · refine ⟨g, _, rfl, fun i hi => ?_⟩
      rw [cell_of_row w g i _ 5 _ hr]
      simpa using bcells_get _ i hi
  · rcases hc.2 with ⟨rfl, h1⟩ | ⟨g, cap, cur, rfl, _, hr, _, _, _, ht⟩
    · omega
    · refine ⟨g, cap, rfl, fun i hi => ?_⟩
      rw [cell_of_row w g i _ 5 _ hr]
      have hb := bcells_get l i hi
      rw [← ht, List.getElem?_take, Nat.mul_one, if_pos hi] at hb
      simpa using hb

theorem Try.info5 : (Try.prog.info? 5).map (fun i => (i.zero, i.size, i.bytes)) = some (some (.int .u8 0), 1, 1) := by kernel_rfl

theorem below_grown {B : Nat} {w w' : World} {v : Value} {n : Nat} {xs : List Value} (hs : B ≤ w.heap.size) (ho : w.ownsRow B 5 1 v n xs) (hg : w.grownBy w' v.ownBlock) : Below B w w' :=
  (Below.refl B w).grown hg hs (fun k hk => (ho.lt k hk).1)

/-- The new row behind an append that grows. -/
theorem grown_as {B : Nat} {ov : Value} {ol : List UInt8} {w : World} (hs : B ≤ w.heap.size) (ho : FullAt B w ov ol) (l m : List UInt8) (old : Nat) (hm : l.length + m.length ≤ maxLen) :
    AS B ov ol (w.drew.alloc (.cells ((bcells l).toArray ++ (bcells m).toArray ++ Builtin.zeroCells (Value.int .u8 0).cells (grownCap w (l.length + m.length) old 5 - (l.length + m.length))) 5))
      (.slice (some ⟨w.heap.size, 0, none⟩) (l.length + m.length) (grownCap w (l.length + m.length) old 5)) (l ++ m) ∧
    Below B w (w.drew.alloc (.cells ((bcells l).toArray ++ (bcells m).toArray ++ Builtin.zeroCells (Value.int .u8 0).cells (grownCap w (l.length + m.length) old 5 - (l.length + m.length))) 5)) := by
  have hge := grownCap_ge w (l.length + m.length) old 5
  have hcm : grownCap w (l.length + m.length) old 5 ≤ maxLen := grownCap_le_maxLen w (l.length + m.length) old 5 hm
  have hb : Below B w (w.drew.alloc (.cells ((bcells l).toArray ++ (bcells m).toArray ++ Builtin.zeroCells (Value.int .u8 0).cells (grownCap w (l.length + m.length) old 5 - (l.length + m.length))) 5)) := ((Below.refl B w).drew).alloc hs _
  refine ⟨⟨Nat.le_trans hs hb.size, ho.below hb, Or.inr ⟨by simp [bcells_length], Or.inr ⟨w.heap.size, _, _, by rw [List.length_append], hs, heap_alloc_new w.drew _, by rw [List.length_append]; exact hge, hcm, ?_, ?_⟩⟩⟩, hb⟩
  · have hz1 : (Value.int IntKind.u8 0).cells.size = 1 := rfl
    simp only [Array.size_append, List.size_toArray, size_zeroCells, hz1, bcells_length]
    omega
  · rw [Nat.mul_one, bcells_append]
    simp only [Array.toList_append]
    rw [show (l ++ m).length = (bcells l ++ bcells m).length from by simp [bcells_length]]
    exact List.take_left

/-- ONE BYTE APPENDED. -/
theorem as_one {B : Nat} {ov v : Value} {ol l : List UInt8} {w : World} (h : AS B ov ol w v l) (a : Addr) (b : UInt8) (ty : TypeId) (hc : w.cell? a = some (.int .u8 b.toNat)) (hl : l.length ≤ 16777216) :
    ∃ v' w', (Builtin.append_ #[29, 29] ty #[v, .slice (some a) 1 1]).run Try.prog w = .ok v' w' ∧ AS B ov ol w' v' (l ++ [b]) ∧ Below B w w' := by
  obtain ⟨i, hi, hz0, hz1, hz2⟩ := info_parts Try.info5
  have hnews : ∀ j u, (bcells [b])[j]? = some u → w.cell? (a.add j) = some u := by
    intro j u hj
    match j, hj with
    | 0, hj =>
      simp [bcells] at hj
      subst hj
      exact hc
  have hs := h.size
  rcases h.cur with ⟨rfl, rfl⟩ | ho
  · rcases h.out with ⟨rfl, rfl⟩ | ⟨g, hg, rfl, hr⟩
    · have hown := World.ownsRow_nil w B 5 1
      obtain ⟨v', w', h1, h2, h3, _⟩ := run_append_own (P := Try.prog) w B 29 ty 5 i (.int .u8 0) 1 1 Try.underlying29 hi hz0 hz1 hz2 rfl (by decide) _ _ _ hown a 1 1 (bcells [b]) rfl hnews (bcells_one _) (by unfold maxLen; omega) (by omega) hs
      have hb := below_grown hs hown h3
      exact ⟨v', w', h1, ⟨Nat.le_trans hs hb.size, Or.inl ⟨rfl, rfl⟩, Or.inr h2⟩, hb⟩
    · have holds : ∀ j u, (bcells l)[j]? = some u → w.cell? ((⟨g, 0, none⟩ : Addr).add j) = some u := by
        intro j u hj
        have hadd : (⟨g, 0, none⟩ : Addr).add j = ⟨g, j, none⟩ := by unfold Addr.add; split <;> simp_all
        rw [hadd, cell_of_row w g j _ 5 _ hr]
        simpa using hj
      have hrun := run_append_grow (P := Try.prog) w 29 ty 5 i (.int .u8 0) Try.underlying29 hi hz0 ⟨g, 0, none⟩ l.length l.length (bcells l) (by rw [hz1, bcells_length, Nat.mul_one]) holds a 1 1 (bcells [b]) (by rw [hz1]; rfl) hnews (by omega) (by omega) (by rw [hz2]; exact growslice_fits (by omega) (by omega))
      have hga := grown_as hs h.out l [b] l.length (by unfold maxLen; simp; omega)
      exact ⟨_, _, hrun, hga.1, hga.2⟩
  · obtain ⟨v', w', h1, h2, h3, _⟩ := run_append_own (P := Try.prog) w B 29 ty 5 i (.int .u8 0) 1 1 Try.underlying29 hi hz0 hz1 hz2 rfl (by decide) _ _ _ ho a 1 1 (bcells [b]) rfl hnews (bcells_one _) (by unfold maxLen; omega) (by omega) hs
    have hb := below_grown hs ho h3
    refine ⟨v', w', h1, ⟨Nat.le_trans hs hb.size, h.out.below hb, Or.inr ?_⟩, hb⟩
    rw [bcells_append, List.length_append]
    exact h2

/-- A STRING's BYTES APPENDED. -/
theorem as_str {B : Nat} {ov v : Value} {ol l : List UInt8} {w : World} (h : AS B ov ol w v l) (s : ByteArray) (ty : TypeId) (hl : l.length ≤ 16777216) (hsz : s.size ≤ 16777216) :
    ∃ v' w', (Builtin.append_ #[29, 9] ty #[v, .string s]).run Try.prog w = .ok v' w' ∧ AS B ov ol w' v' (l ++ s.data.toList) ∧ Below B w w' := by
  obtain ⟨i, hi, hz0, hz1, hz2⟩ := info_parts Try.info5
  have hs := h.size
  have hse := size_eq s
  rcases h.cur with ⟨rfl, rfl⟩ | ho
  · rcases h.out with ⟨rfl, rfl⟩ | ⟨g, hg, rfl, hr⟩
    · have hown := World.ownsRow_nil w B 5 1
      obtain ⟨v', w', h1, h2, h3, _⟩ := Lib.run_append_own_string (P := Try.prog) w B 29 9 ty 5 i Try.underlying29 Try.underlying9 hi hz0 hz1 hz2 _ _ _ hown s (by unfold maxLen; omega) (by omega) hs
      have hb := below_grown hs hown h3
      refine ⟨v', w', h1, ⟨Nat.le_trans hs hb.size, Or.inl ⟨rfl, rfl⟩, Or.inr ?_⟩, hb⟩
      rw [List.nil_append, hse]
      simpa [strCells_eq] using h2
    · by_cases h0 : s.size = 0
      · have hnil : s.data.toList = [] := List.eq_nil_of_length_eq_zero (by omega)
        have hrun := Lib.run_append_room_string (P := Try.prog) w 29 9 ty 5 i Try.underlying29 Try.underlying9 hi hz1 g l.length l.length (bcells l).toArray hr s (by omega) (by simp [bcells_length]; omega)
        have hcs : (List.take l.length (bcells l).toArray.toList ++ Lib.strCells s ++ List.drop (l.length + s.size) (bcells l).toArray.toList).toArray = (bcells l).toArray := by
          rw [strCells_eq, hnil, h0]
          simp [bcells]
        rw [hcs, h0] at hrun
        have hb : Below B w (w.setRow g (bcells l).toArray) := by
          refine ⟨rfl, rfl, rfl, by simp, fun k hk => ?_⟩
          by_cases e : k = g
          · subst e; rw [setRow_heap w k _ _ 5 _ hr, hr]
          · exact setRow_other w g k _ e
        exact ⟨_, _, hrun, ⟨Nat.le_trans hs hb.size, h.out.below hb, Or.inl ⟨rfl, by rw [hnil, List.append_nil]⟩⟩, hb⟩
      · have holds : ∀ j u, (bcells l)[j]? = some u → w.cell? ((⟨g, 0, none⟩ : Addr).add j) = some u := by
          intro j u hj
          have hadd : (⟨g, 0, none⟩ : Addr).add j = ⟨g, j, none⟩ := by unfold Addr.add; split <;> simp_all
          rw [hadd, cell_of_row w g j _ 5 _ hr]
          simpa using hj
        have hrun := Lib.run_append_grow_string (P := Try.prog) w 29 9 ty 5 i (.int .u8 0) Try.underlying29 Try.underlying9 hi hz0 ⟨g, 0, none⟩ l.length l.length (bcells l) (by rw [hz1, bcells_length, Nat.mul_one]) holds s (by omega) (by omega) (by rw [hz2]; exact growslice_fits (by omega) (by omega))
        have hga := grown_as hs h.out l s.data.toList l.length (by unfold maxLen; omega)
        rw [hse] at hga
        exact ⟨_, _, hrun, hga.1, hga.2⟩
  · obtain ⟨v', w', h1, h2, h3, _⟩ := Lib.run_append_own_string (P := Try.prog) w B 29 9 ty 5 i Try.underlying29 Try.underlying9 hi hz0 hz1 hz2 _ _ _ ho s (by unfold maxLen; omega) (by omega) hs
    have hb := below_grown hs ho h3
    refine ⟨v', w', h1, ⟨Nat.le_trans hs hb.size, h.out.below hb, Or.inr ?_⟩, hb⟩
    rw [bcells_append, List.length_append, hse]
    exact h2

/-- .. at the operation, for the walk. -/
theorem wpList_as_one {ops : Array Oper} {rest : List Oper} {o : Oper} {a : Act} {Q : Exit → Act → World → Prop} {w : World} (hgd : o.guard = none) (sl x : Operand) (ho : o.op = .call { callee := .builtin .append, args := #[sl, x], argTypes := #[29, 29] })
    (B : Nat) (ov : Value) (ol : List UInt8) (v : Value) (l : List UInt8) (b : UInt8) (ad : Addr) (hs : a.eval sl = v) (hx : a.eval x = .slice (some ad) 1 1) (has : AS B ov ol w v l) (hc : w.cell? ad = some (.int .u8 b.toNat)) (hl : l.length ≤ 16777216)
    (h : ∀ v' w', AS B ov ol w' v' (l ++ [b]) → Below B w w' → wpList Try.prog ops Q rest (a.put o.dst v') w') : wpList Try.prog ops Q (o :: rest) a w := by
  refine wpList_plain hgd fun K hK => ?_
  obtain ⟨v', w', hr, h2, h3⟩ := as_one has ad b o.type hc hl
  unfold Oper.wp execOp
  simp only [ho, resolve, invoke, builtin, Sem.run_bind, Sem.run_pure, Result.andThen_ok, List.map_toArray, List.map_cons, List.map_nil, hs, hx, hr]
  exact hK _ _ (h v' w' h2 h3)

theorem wpList_as_str {ops : Array Oper} {rest : List Oper} {o : Oper} {a : Act} {Q : Exit → Act → World → Prop} {w : World} (hgd : o.guard = none) (sl x : Operand) (ho : o.op = .call { callee := .builtin .append, args := #[sl, x], argTypes := #[29, 9] })
    (B : Nat) (ov : Value) (ol : List UInt8) (v : Value) (l : List UInt8) (s : ByteArray) (hs : a.eval sl = v) (hx : a.eval x = .string s) (has : AS B ov ol w v l) (hl : l.length ≤ 16777216) (hsz : s.size ≤ 16777216)
    (h : ∀ v' w', AS B ov ol w' v' (l ++ s.data.toList) → Below B w w' → wpList Try.prog ops Q rest (a.put o.dst v') w') : wpList Try.prog ops Q (o :: rest) a w := by
  refine wpList_plain hgd fun K hK => ?_
  obtain ⟨v', w', hr, h2, h3⟩ := as_str has s o.type hl hsz
  unfold Oper.wp execOp
  simp only [ho, resolve, invoke, builtin, Sem.run_bind, Sem.run_pure, Result.andThen_ok, List.map_toArray, List.map_cons, List.map_nil, hs, hx, hr]
  exact hK _ _ (h v' w' h2 h3)
end Go.Proofs.Qxb6604644a
