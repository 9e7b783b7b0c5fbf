import Derived.Test.Qxb6603715aC
namespace Go.Proofs.Qxb6603715a
open Go.RowKit
set_option linter.unusedVariables false

theorem seven_at (V : Nat → Value) (k : Nat) (hk : k < 7) : (#[V 0, V 1, V 2, V 3, V 4, V 5, V 6] : Array Value)[k]? = some (V k) := by
  match k, hk with
  | 0, _ => rfl
  | 1, _ => rfl
  | 2, _ => rfl
  | 3, _ => rfl
  | 4, _ => rfl
  | 5, _ => rfl
  | 6, _ => rfl

theorem row7 {w : World} {g : Nat} {t : TypeId} {V : Nat → Value} (h : w.rowIs g t 7 V) : w.heap[g]? = some (.cells #[V 0, V 1, V 2, V 3, V 4, V 5, V 6] t (0, 0)) := by
  obtain ⟨c, hb, hn, hc⟩ := h
  rw [hb]
  congr 2
  apply Array.ext_getElem?
  intro i
  by_cases hi : i < 7
  · rw [hc i hi, seven_at V i hi]
  · rw [Array.getElem?_eq_none (by omega), Array.getElem?_eq_none (by simp; omega)]

/-- Seven stores that fill a row of seven cells. -/
theorem store7 {w : World} {g : Nat} {t : TypeId} {V : Nat → Value} (X : Nat → Value) (h : w.rowIs g t 7 V) :
    ∃ W, W = ((((((w.setCell ⟨g, 0, none⟩ (X 0)).setCell ⟨g, 1, none⟩ (X 1)).setCell ⟨g, 2, none⟩ (X 2)).setCell ⟨g, 3, none⟩ (X 3)).setCell ⟨g, 4, none⟩ (X 4)).setCell ⟨g, 5, none⟩ (X 5)).setCell ⟨g, 6, none⟩ (X 6) ∧
      W.rowIs g t 7 X ∧ ∀ B w0, Below B w0 w → B ≤ g → Below B w0 W := by
  refine ⟨_, rfl, ?_, ?_⟩
  · refine (((((((h.set 0 (X 0)).set 1 (X 1)).set 2 (X 2)).set 3 (X 3)).set 4 (X 4)).set 5 (X 5)).set 6 (X 6)).congr fun i hi => ?_
    match i, hi with
    | 0, _ => rfl
    | 1, _ => rfl
    | 2, _ => rfl
    | 3, _ => rfl
    | 4, _ => rfl
    | 5, _ => rfl
    | 6, _ => rfl
  · intro B w0 hb hg
    exact ((((((hb.setCell (p := ⟨g, 0, none⟩) hg _).setCell (p := ⟨g, 1, none⟩) hg _).setCell (p := ⟨g, 2, none⟩) hg _).setCell (p := ⟨g, 3, none⟩) hg _).setCell (p := ⟨g, 4, none⟩) hg _).setCell (p := ⟨g, 5, none⟩) hg _).setCell (p := ⟨g, 6, none⟩) hg _

/-- The seven fields, by their index. -/
def fld (s : ByteArray) (p1 p2 p3 p4 : Int) (b5 b6 : Bool) : Nat → Value
  | 0 => .string s
  | 1 => .int .i64 p1
  | 2 => .int .i64 p2
  | 3 => .int .i64 p3
  | 4 => .int .i64 p4
  | 5 => .bool b5
  | _ => .bool b6

/-- What ZZVersion leaves. -/
structure ZV (s : ByteArray) (pos : Nat) (p2 p3 p4 : Int) (b5 b6 : Bool) (w : World) (e : Ending) (w' : World) : Prop where
  ret : (∃ dot, No s pos dot ∧ e = .returned (.tuple #[.string ⟨#[]⟩, .bool false, .agg #[.string s, .int .i64 pos, .int .i64 p2, .int .i64 p3, .int .i64 p4, .bool b5, .bool b6]])) ∨
    ∃ dot en : Nat, Yes s pos dot en ∧ e = .returned (.tuple #[.string (s.extract pos en), .bool true, .agg #[.string s, .int .i64 en, .int .i64 p2, .int .i64 p3, .int .i64 p4, .bool b5, .bool b6]])
  below : Below w.heap.size w w'

theorem boxes (s : ByteArray) (p1 p2 p3 p4 : Int) (b5 b6 : Bool) (w : World) : ∃ W, W = (w.alloc (.cells #[.string ⟨#[]⟩, .int .i64 0, .int .i64 0, .int .i64 0, .int .i64 0, .bool false, .bool false] 24)).alloc (.cells #[.string s, .int .i64 p1, .int .i64 p2, .int .i64 p3, .int .i64 p4, .bool b5, .bool b6] 33) ∧
    Below w.heap.size w W ∧ W.heap.size = w.heap.size + 2 ∧ W.rowIs w.heap.size 24 7 (fld ⟨#[]⟩ 0 0 0 0 false false) ∧ W.rowIs (w.heap.size + 1) 33 7 (fld s p1 p2 p3 p4 b5 b6) := by
  refine ⟨_, rfl, ((Below.refl _ _).alloc (Nat.le_refl _) _).alloc (by simp) _, by simp, (World.rowIs_alloc w _ 24 _ (fun i hi => seven_at (fld ⟨#[]⟩ 0 0 0 0 false false) i hi)).alloc _, ?_⟩
  have h := World.rowIs_alloc (w.alloc (.cells #[.string ⟨#[]⟩, .int .i64 0, .int .i64 0, .int .i64 0, .int .i64 0, .bool false, .bool false] 24)) #[.string s, .int .i64 p1, .int .i64 p2, .int .i64 p3, .int .i64 p4, .bool b5, .bool b6] 33 (fld s p1 p2 p3 p4 b5 b6) (fun i hi => seven_at (fld s p1 p2 p3 p4 b5 b6) i hi)
  simpa using h

set_option maxHeartbeats 400000 in
theorem zzversion_any (s : ByteArray) (pos : Nat) (p2 p3 p4 : Int) (b5 b6 : Bool) (w : World) (hs : s.size ≤ maxLen) (hp : pos ≤ s.size) :
    Calls Try.prog 6 #[.string s, .int .i64 pos, .int .i64 p2, .int .i64 p3, .int .i64 p4, .bool b5, .bool b6] w fun e w' => ZV s pos p2 p3 p4 b5 b6 w e w' := by
  obtain ⟨W, hW, hB, hsz, hr1, hr2⟩ := boxes s pos p2 p3 p4 b5 b6 w
  have HW : Hid (W = (w.alloc (.cells #[.string ⟨#[]⟩, .int .i64 0, .int .i64 0, .int .i64 0, .int .i64 0, .bool false, .bool false] 24)).alloc (.cells #[.string s, .int .i64 pos, .int .i64 p2, .int .i64 p3, .int .i64 p4, .bool b5, .bool b6] 33)) := hW
  clear hW
  go_enter Try.func6, Try.ntmps6
  go_wp2_with fail
  rw [← HW.out]
  clear HW
  refine (version_any (w.heap.size + 1) s pos W hs hp (hr2.cell (by omega)) (hr2.cell (by omega)) (hr2.frozen 1)).mono ?_
  rintro e w1 ⟨⟨dot, hno, rfl, hw1⟩ | ⟨dot, en, hyes, rfl, hw1⟩⟩
  · have k1 : w1.rowIs w.heap.size 24 7 (fld ⟨#[]⟩ 0 0 0 0 false false) := by rw [hw1]; exact hr1
    have k2 : w1.rowIs (w.heap.size + 1) 33 7 (fld s pos p2 p3 p4 b5 b6) := by rw [hw1]; exact hr2
    have kB : Below w.heap.size w w1 := by rw [hw1]; exact hB
    clear hw1 hr1 hr2 hB hsz
    go_wp2_with fail
    refine (readerOf_any (w.heap.size + 1) s pos p2 p3 p4 b5 b6 w1 (k2.cell (i := 0) (by omega)) (k2.cell (i := 1) (by omega)) (k2.cell (i := 2) (by omega)) (k2.cell (i := 3) (by omega)) (k2.cell (i := 4) (by omega)) (k2.cell (i := 5) (by omega)) (k2.cell (i := 6) (by omega)) k2.lt).mono ?_
    rintro e w2 ⟨rfl, hB2⟩
    have hr := k1.of_block (hB2.block _ k1.lt)
    have hBw := kB.trans (hB2.mono (by have := k1.lt; omega))
    obtain ⟨W2, hW2, hrow, hBB⟩ := store7 (fld s pos p2 p3 p4 b5 b6) hr
    have HW2 : Hid (W2 = ((((((w2.setCell ⟨w.heap.size, 0, none⟩ (.string s)).setCell ⟨w.heap.size, 1, none⟩ (.int .i64 pos)).setCell ⟨w.heap.size, 2, none⟩ (.int .i64 p2)).setCell ⟨w.heap.size, 3, none⟩ (.int .i64 p3)).setCell ⟨w.heap.size, 4, none⟩ (.int .i64 p4)).setCell ⟨w.heap.size, 5, none⟩ (.bool b5)).setCell ⟨w.heap.size, 6, none⟩ (.bool b6)) := hW2
    clear hW2
    have d0 : w2.cell? ⟨w.heap.size, 0, none⟩ = some (.string ⟨#[]⟩) := hr.cell (i := 0) (by omega)
    have d1 : w2.cell? ⟨w.heap.size, 1, none⟩ = some (.int .i64 0) := hr.cell (i := 1) (by omega)
    have d2 : w2.cell? ⟨w.heap.size, 2, none⟩ = some (.int .i64 0) := hr.cell (i := 2) (by omega)
    have d3 : w2.cell? ⟨w.heap.size, 3, none⟩ = some (.int .i64 0) := hr.cell (i := 3) (by omega)
    have d4 : w2.cell? ⟨w.heap.size, 4, none⟩ = some (.int .i64 0) := hr.cell (i := 4) (by omega)
    have d5 : w2.cell? ⟨w.heap.size, 5, none⟩ = some (.bool false) := hr.cell (i := 5) (by omega)
    have d6 : w2.cell? ⟨w.heap.size, 6, none⟩ = some (.bool false) := hr.cell (i := 6) (by omega)
    have dz : ∀ j, w2.frozen? ⟨w.heap.size, j, none⟩ = false := fun j => hr.frozen j
    go_wp2
    rw [← HW2.out]
    have hload := run_loadVar_row (P := Try.prog) W2 w.heap.size 24 24 _ (0, 0) _ (row7 hrow) Try.underlying24 rfl Try.size24
    exact bodyPost_ret (v := .tuple #[.string ⟨#[]⟩, .bool false, .agg #[.string s, .int .i64 pos, .int .i64 p2, .int .i64 p3, .int .i64 p4, .bool b5, .bool b6]]) (by simp [results, Try.results6, asAddr, hload, fld]) rfl ⟨Or.inl ⟨dot, hno, rfl⟩, hBB _ _ hBw (Nat.le_refl _)⟩
  · have k1 : w1.rowIs w.heap.size 24 7 (fld ⟨#[]⟩ 0 0 0 0 false false) := by rw [hw1]; exact hr1.setOther (by show _ ≠ w.heap.size + 1; omega) _
    have k2 : w1.rowIs (w.heap.size + 1) 33 7 (fld s en p2 p3 p4 b5 b6) := by
      rw [hw1]
      refine (hr2.set 1 _).congr fun i hi => ?_
      match i, hi with
      | 0, _ => rfl
      | 1, _ => rfl
      | 2, _ => rfl
      | 3, _ => rfl
      | 4, _ => rfl
      | 5, _ => rfl
      | 6, _ => rfl
    have kB : Below w.heap.size w w1 := by rw [hw1]; exact hB.setCell (by show _ ≤ w.heap.size + 1; omega) _
    clear hw1 hr1 hr2 hB hsz
    go_wp2_with fail
    refine (readerOf_any (w.heap.size + 1) s en p2 p3 p4 b5 b6 w1 (k2.cell (i := 0) (by omega)) (k2.cell (i := 1) (by omega)) (k2.cell (i := 2) (by omega)) (k2.cell (i := 3) (by omega)) (k2.cell (i := 4) (by omega)) (k2.cell (i := 5) (by omega)) (k2.cell (i := 6) (by omega)) k2.lt).mono ?_
    rintro e w2 ⟨rfl, hB2⟩
    have hr := k1.of_block (hB2.block _ k1.lt)
    have hBw := kB.trans (hB2.mono (by have := k1.lt; omega))
    obtain ⟨W2, hW2, hrow, hBB⟩ := store7 (fld s en p2 p3 p4 b5 b6) hr
    have HW2 : Hid (W2 = ((((((w2.setCell ⟨w.heap.size, 0, none⟩ (.string s)).setCell ⟨w.heap.size, 1, none⟩ (.int .i64 en)).setCell ⟨w.heap.size, 2, none⟩ (.int .i64 p2)).setCell ⟨w.heap.size, 3, none⟩ (.int .i64 p3)).setCell ⟨w.heap.size, 4, none⟩ (.int .i64 p4)).setCell ⟨w.heap.size, 5, none⟩ (.bool b5)).setCell ⟨w.heap.size, 6, none⟩ (.bool b6)) := hW2
    clear hW2
    have d0 : w2.cell? ⟨w.heap.size, 0, none⟩ = some (.string ⟨#[]⟩) := hr.cell (i := 0) (by omega)
    have d1 : w2.cell? ⟨w.heap.size, 1, none⟩ = some (.int .i64 0) := hr.cell (i := 1) (by omega)
    have d2 : w2.cell? ⟨w.heap.size, 2, none⟩ = some (.int .i64 0) := hr.cell (i := 2) (by omega)
    have d3 : w2.cell? ⟨w.heap.size, 3, none⟩ = some (.int .i64 0) := hr.cell (i := 3) (by omega)
    have d4 : w2.cell? ⟨w.heap.size, 4, none⟩ = some (.int .i64 0) := hr.cell (i := 4) (by omega)
    have d5 : w2.cell? ⟨w.heap.size, 5, none⟩ = some (.bool false) := hr.cell (i := 5) (by omega)
    have d6 : w2.cell? ⟨w.heap.size, 6, none⟩ = some (.bool false) := hr.cell (i := 6) (by omega)
    have dz : ∀ j, w2.frozen? ⟨w.heap.size, j, none⟩ = false := fun j => hr.frozen j
    go_wp2
    rw [← HW2.out]
    have hload := run_loadVar_row (P := Try.prog) W2 w.heap.size 24 24 _ (0, 0) _ (row7 hrow) Try.underlying24 rfl Try.size24
    exact bodyPost_ret (v := .tuple #[.string (s.extract pos en), .bool true, .agg #[.string s, .int .i64 en, .int .i64 p2, .int .i64 p3, .int .i64 p4, .bool b5, .bool b6]]) (by simp [results, Try.results6, asAddr, hload, fld]) rfl ⟨Or.inr ⟨dot, en, hyes, rfl⟩, hBB _ _ hBw (Nat.le_refl _)⟩
end Go.Proofs.Qxb6603715a
