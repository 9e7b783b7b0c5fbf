import Derived.Test.Qxb6604644aB
namespace Go.Proofs.Qxb6604644a
open Go.RowKit
set_option linter.unusedVariables false

/-- A slice of bytes that reads l. -/
def RdB (w : World) (a : Option Addr) (l : List UInt8) : Prop :=
  l = [] ∨ ∃ b off, a = some ⟨b, off, none⟩ ∧ ∀ i, i < l.length → w.cell? ⟨b, off + i, none⟩ = some (.int .u8 (l.getD i 0).toNat)

theorem cell_lt {w : World} {p : Addr} {v : Value} (h : w.cell? p = some v) : p.block < w.heap.size := block_lt_of_cell h

structure ClonePost (l : List UInt8) (w : World) (e : Ending) (w' : World) : Prop where
  ret : ∃ ov, e = .returned ov ∧ FullAt w'.heap.size w' ov l
  below : Below w.heap.size w w'

structure CLoop (l : List UInt8) (w : World) (k : Nat) (wr : World) : Prop where
  row : wr.rowIs w.heap.size 5 l.length (fun i => if i < k then .int .u8 (l.getD i 0).toNat else .int .u8 0)
  below : Below w.heap.size w wr

theorem CLoop.step {l : List UInt8} {w wr : World} {k : Nat} (h : CLoop l w k wr) : CLoop l w (k + 1) (wr.setCell ⟨w.heap.size, k, none⟩ (.int .u8 (l.getD k 0).toNat)) := by
  refine ⟨(h.row.set k _).congr fun i hi => ?_, h.below.setCell (Nat.le_refl _) _⟩
  by_cases e : i = k
  · subst e; simp
  · by_cases e' : i < k
    · have : i < k + 1 := by omega
      simp [e, e', this]
    · have : ¬ i < k + 1 := by omega
      simp [e, e', this]

theorem row_cells {w : World} {g : Nat} {l : List UInt8} (h : w.rowIs g 5 l.length (fun i => .int .u8 (l.getD i 0).toNat)) : w.heap[g]? = some (.cells (bcells l).toArray 5 (0, 0)) := by
  obtain ⟨c, hb, hn, hc⟩ := h
  rw [hb]
  congr 2
  apply Array.ext_getElem?
  intro i
  by_cases hi : i < l.length
  · rw [hc i hi]
    simp [bcells, hi]
  · rw [Array.getElem?_eq_none (by omega), Array.getElem?_eq_none (by simp [bcells]; omega)]

set_option maxHeartbeats 400000 in
theorem clone_any (a : Option Addr) (c : Nat) (l : List UInt8) (w : World) (hn : l.length ≤ 1048576) (hz : a = none → l = []) (hr : RdB w a l) :
    Calls Try.prog 9 #[.slice a l.length c] w fun e w' => ClonePost l w e w' := by
  have HR : Hid (RdB w a l) := hr
  clear hr
  have heq := fun w => Lib.run_eql_slice_nil (P := Try.prog) w 29 5 a l.length c 0 0 Try.underlying29
  cases a with
  | none =>
    obtain rfl := hz rfl
    have heq0 := fun w => Lib.run_eql_slice_nil (P := Try.prog) w 29 5 none 0 c 0 0 Try.underlying29
    clear heq
    go_enter Try.func9, Try.ntmps9
    go_wp2
    go_ret
    exact ⟨⟨_, rfl, Or.inl ⟨rfl, rfl⟩⟩, Below.refl _ _⟩
  | some ad =>
    clear hz
    have hmk := run_make_row' (P := Try.prog) 29 5 (.int .u8 0) 1 Try.underlying29 Try.info5 rfl .i64 .i64 l.length (by omega) (by omega)
    obtain ⟨W, HW⟩ : ∃ W, Hid (W = w.alloc (.cells (madeCells #[Value.int .u8 0] l.length) 5)) := ⟨_, rfl⟩
    have hC : CLoop l w 0 W := by
      rw [HW.out]
      exact ⟨(World.rowIs_made w (.int .u8 0) l.length 5).congr fun i hi => rfl, (Below.refl _ _).alloc (Nat.le_refl _) _⟩
    go_enter Try.func9, Try.ntmps9
    go_wp2
    rw [← HW.out]
    clear HW
    go_loopw [4] (fun i wr => ∃ k : Nat, k ≤ l.length ∧ i = .int .i64 k ∧ CLoop l w k wr) (fun i _ => l.length - (intOf i).toNat)
    case atStart => exact ⟨0, Nat.zero_le _, rfl, hC⟩
    case round =>
      clear hC
      obtain ⟨k, hk, rfl, hC⟩ := hrel
      by_cases hlt : k < l.length
      · rcases HR.out with h | ⟨b, off, hb, hc⟩
        · rw [h] at hlt; simp at hlt
        injection hb with hb
        subst hb
        have hck : wr.cell? ⟨b, off + k, none⟩ = some (.int .u8 (l.getD k 0).toNat) := (hC.below.cell (p := ⟨b, off + k, none⟩) (cell_lt (hc k hlt))).trans (hc k hlt)
        have hcw : wr.cell? ⟨w.heap.size, k, none⟩ = some (.int .u8 0) := by rw [hC.row.cell hlt]; simp
        have hfz := hC.row.frozen k
        have hS := hC.step
        generalize l.getD k 0 = x at *
        clear hc
        go_wp2
        go_roundw
        case rel => exact ⟨k + 1, by omega, by go_num, hS⟩
        case measure => simp [intOf]; omega
      · go_wp2
        go_ret
        refine ⟨⟨_, rfl, Or.inr ⟨w.heap.size, hC.row.lt, rfl, row_cells (hC.row.congr fun i hi => if_pos (by omega))⟩⟩, hC.below⟩

/-- What the bound on the lengths leaves. -/
structure BytesPost (n p d : Nat) (w : World) (e : Ending) (w' : World) : Prop where
  ret : ∃ b, e = .returned (.bool b) ∧ (b = true → n ≤ 1048576 ∧ p ≤ 1048576 ∧ d ≤ 1048576)
  same : w = w'

set_option maxHeartbeats 400000 in
theorem bytes8 (a : Option Addr) (n c : Nat) (pre d : ByteArray) (x : Int) (w : World) (h1 : n ≤ maxLen) (h2 : pre.size ≤ maxLen) (h3 : d.size ≤ maxLen) :
    Calls Try.prog 8 #[.slice a n c, .string pre, .int .i32 x, .string d] w fun e w' => BytesPost n pre.size d.size w e w' := by
  unfold maxLen at h1 h2 h3
  go_enter Try.func8, Try.ntmps8
  go_wp2
  all_goals
    go_ret
    exact ⟨⟨_, rfl, by first | (intro _; omega) | simp⟩, rfl⟩

set_option maxHeartbeats 400000 in
theorem bytes11 (a : Option Addr) (n c : Nat) (pre d : ByteArray) (x : Int) (w : World) (h1 : n ≤ maxLen) (h2 : pre.size ≤ maxLen) (h3 : d.size ≤ maxLen) :
    Calls Try.prog 11 #[.slice a n c, .string pre, .int .i32 x, .string d] w fun e w' => BytesPost n pre.size d.size w e w' := by
  unfold maxLen at h1 h2 h3
  go_enter Try.func11, Try.ntmps11
  go_wp2
  all_goals
    go_ret
    exact ⟨⟨_, rfl, by first | (intro _; omega) | simp⟩, rfl⟩
end Go.Proofs.Qxb6604644a
