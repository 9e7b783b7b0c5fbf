import Derived.Test.Qxb6603698aRows
import Derived.WalkKit
import Derived.WalkSpells
import Derived.WalkLawsBesides
import Derived.Deep.OwnRows
import Derived.Deep.LoopGhost
import Derived.Laws.CopyOwn
import Derived.BigQuiet
import Derived.Deep.QuietTactic
namespace Go.Proofs.Qxb6603698a
open Go.RowKit

/-- Six values, by their index, as a block of six cells. -/
theorem six_at (V : Nat → Value) (k : Nat) (hk : k < 6) : (#[V 0, V 1, V 2, V 3, V 4, V 5] : Array Value)[k]? = some (V k) := by
  match k, hk with
  | 0, _ => rfl
  | 1, _ => rfl
  | 2, _ => rfl
  | 3, _ => rfl
  | 4, _ => rfl
  | 5, _ => rfl

/-- One box of six cells. -/
theorem box1 (V : Nat → Value) (t : TypeId) (w : World) : ∃ W, W = w.alloc (.cells #[V 0, V 1, V 2, V 3, V 4, V 5] t) ∧ Below w.heap.size w W ∧ W.heap.size = w.heap.size + 1 ∧ W.rowIs w.heap.size t 6 V :=
  ⟨_, rfl, (Below.refl _ _).alloc (Nat.le_refl _) _, by simp, World.rowIs_alloc w _ t V (fun i hi => six_at V i hi)⟩

/-- Two boxes of six cells each. -/
theorem box2 (V Y : Nat → Value) (t s : TypeId) (w : World) : ∃ W, W = (w.alloc (.cells #[V 0, V 1, V 2, V 3, V 4, V 5] t)).alloc (.cells #[Y 0, Y 1, Y 2, Y 3, Y 4, Y 5] s) ∧ Below w.heap.size w W ∧ W.heap.size = w.heap.size + 2 ∧ W.rowIs w.heap.size t 6 V ∧ W.rowIs (w.heap.size + 1) s 6 Y := by
  refine ⟨_, rfl, ((Below.refl _ _).alloc (Nat.le_refl _) _).alloc (by simp) _, by simp, (World.rowIs_alloc w _ t V (fun i hi => six_at V i hi)).alloc _, ?_⟩
  have h := World.rowIs_alloc (w.alloc (.cells #[V 0, V 1, V 2, V 3, V 4, V 5] t)) #[Y 0, Y 1, Y 2, Y 3, Y 4, Y 5] s Y (fun i hi => six_at Y i hi)
  simpa using h

/-- What zzBytes leaves: a bool; true only where every length is small. -/
structure BytesPost (len0 : Nat) (L : Nat → Nat) (w : World) (e : Ending) (w' : World) : Prop where
  ret : ∃ b, e = .returned (.bool b) ∧ (b = true → len0 ≤ 1048576 ∧ ∀ i, i < 6 → L i ≤ 1048576)
  below : Below w.heap.size w w'

set_option maxHeartbeats 400000 in
theorem bytes_any (a0 : Option Addr) (len0 cap0 : Nat) (u : Int) (V Y : Nat → Value) (A : Nat → Option Addr) (L C : Nat → Nat) (pend p : Int) (w : World) (h0 : len0 ≤ maxLen) (hV : ∀ i, i < 6 → V i = .slice (A i) (L i) (C i)) (hL : ∀ i, i < 6 → L i ≤ maxLen) :
    Calls Try.prog 6 #[.slice a0 len0 cap0, .int .i64 u, .agg #[V 0, V 1, V 2, V 3, V 4, V 5], .agg #[Y 0, Y 1, Y 2, Y 3, Y 4, Y 5], .int .i64 pend, .int .i64 p] w fun e w' => BytesPost len0 L w e w' := by
  unfold maxLen at h0 hL
  have HV : Hid (∀ i, i < 6 → V i = .slice (A i) (L i) (C i)) := hV
  clear hV
  by_cases hl : len0 ≤ 1048576
  · have hl' : (decide ((1048576 : Int) < (len0 : Int))) = false := by simp; omega
    obtain ⟨W, hW, hB, hsz, hr1, hr2⟩ := box2 V Y 23 24 w
    go_enter Try.func6, Try.ntmps6
    go_wp2
    rw [← hW]
    clear hW
    go_loop [13, 14] (fun t i => ∃ k s : Nat, k ≤ 6 ∧ i = .int .i64 k ∧ t = .int .i64 s ∧ s ≤ 1048576 ∧ ∀ j, j < k → L j ≤ 1048576) (fun _ i => 6 - (intOf i).toNat)
    case atStart => exact ⟨0, len0, Nat.zero_le _, rfl, rfl, hl, fun j hj => absurd hj (Nat.not_lt_zero j)⟩
    case round =>
      obtain ⟨k, s, hk, rfl, rfl, hs, hj⟩ := hrel
      by_cases hlt : k < 6
      · have hc : W.cell? ⟨w.heap.size, k, none⟩ = some (.slice (A k) (L k) (C k)) := by rw [hr1.cell hlt, HV.out k hlt]
        have hLk := hL k hlt
        go_wp2
        · go_ret
          exact ⟨⟨false, rfl, by simp⟩, hB⟩
        · go_ret
          exact ⟨⟨false, rfl, by simp⟩, hB⟩
        · go_round
          case rel => exact ⟨k + 1, s + L k, by omega, by go_num, by go_num, by omega, fun j hj' => by rcases Nat.lt_succ_iff_lt_or_eq.1 hj' with h | h; exact hj j h; rw [h]; omega⟩
          case measure => simp [intOf]; omega
      · go_wp2
        go_ret
        exact ⟨⟨true, rfl, fun _ => ⟨hl, fun i hi => hj i (by omega)⟩⟩, hB⟩
  · have hl' : (decide ((1048576 : Int) < (len0 : Int))) = true := by simp; omega
    go_enter Try.func6, Try.ntmps6
    go_wp2
    go_ret
    exact ⟨⟨false, rfl, by simp⟩, ((Below.refl _ _).alloc (Nat.le_refl _) _).alloc (by simp) _⟩

/-- Some int comes back; nothing that was there has turned. -/
structure SomeInt (w : World) (e : Ending) (w' : World) : Prop where
  ret : ∃ t, e = .returned (.int .i64 t)
  below : Below w.heap.size w w'

set_option maxHeartbeats 400000 in
theorem words_any (a0 : Option Addr) (len0 cap0 : Nat) (V : Nat → Value) (A : Nat → Option Addr) (L C : Nat → Nat) (w : World) (hV : ∀ i, i < 6 → V i = .slice (A i) (L i) (C i)) :
    Calls Try.prog 7 #[.slice a0 len0 cap0, .agg #[V 0, V 1, V 2, V 3, V 4, V 5]] w fun e w' => SomeInt w e w' := by
  have HV : Hid (∀ i, i < 6 → V i = .slice (A i) (L i) (C i)) := hV
  clear hV
  obtain ⟨W, hW, hB, hsz, hr1⟩ := box1 V 23 w
  go_enter Try.func7, Try.ntmps7
  go_wp2
  rw [← hW]
  clear hW
  go_loop [5, 6] (fun t i => ∃ (k : Nat) (s : Int), k ≤ 6 ∧ i = .int .i64 k ∧ t = .int .i64 s) (fun _ i => 6 - (intOf i).toNat)
  case atStart => exact ⟨0, len0, Nat.zero_le _, rfl, rfl⟩
  case round =>
    obtain ⟨k, s, hk, rfl, rfl⟩ := hrel
    by_cases hlt : k < 6
    · have hc : W.cell? ⟨w.heap.size, k, none⟩ = some (.slice (A k) (L k) (C k)) := by rw [hr1.cell hlt, HV.out k hlt]
      go_wp2
      go_round
      case rel => exact ⟨k + 1, _, by omega, by go_num, rfl⟩
      case measure => simp [intOf]; omega
    · go_wp2
      go_ret
      exact ⟨⟨_, rfl⟩, hB⟩

/-- A slice of n words that reads f: it has no element; or it begins at an address and word i lies there. -/
def Rd (w : World) (a : Option Addr) (n : Nat) (f : Nat → Int) : Prop :=
  n = 0 ∨ ∃ b off, a = some ⟨b, off, none⟩ ∧ ∀ i, i < n → w.cell? ⟨b, off + i, none⟩ = some (.int .u64 (f i))

/-- A slice of n words that reads f and lies in a block of the call's own, numbered from B on. -/
def Own (B : Nat) (w : World) (a : Option Addr) (n : Nat) (f : Nat → Int) : Prop :=
  n = 0 ∨ ∃ g, a = some ⟨g, 0, none⟩ ∧ B ≤ g ∧ w.rowIs g 27 n (fun i => .int .u64 (f i))

/-- What a clone leaves. -/
structure Cloned (n : Nat) (f : Nat → Int) (w : World) (e : Ending) (w' : World) : Prop where
  ret : ∃ a c, e = .returned (.slice a n c) ∧ n ≤ c ∧ Own w.heap.size w' a n f
  below : Below w.heap.size w w'

theorem Try.info27 : (Try.prog.info? 27).map (fun i => (i.zero, i.size, i.bytes)) = some (some (.int .u64 0), 1, 8) := by kernel_rfl
theorem Try.size27 : (Try.prog.info? 27).map (·.size) = some 1 := by kernel_rfl

theorem cell_lt {w : World} {p : Addr} {v : Value} (h : w.cell? p = some v) : p.block < w.heap.size := by
  unfold World.cell? at h
  split at h
  · rename_i heq
    exact (Array.getElem?_eq_some_iff.1 heq).1
  · cases h

/-- 'c := make([]uint64, n); copy(c, s)': the copy's run, behind the make. -/
theorem copy_made (ad : Addr) (n c : Nat) (f : Nat → Int) (w : World) (hr : Rd w (some ad) n f) :
    ∃ w2, (Builtin.copy_ #[22, 22] 3 #[.slice (some ⟨w.heap.size, 0, none⟩) n n, .slice (some ad) n c]).run Try.prog (w.alloc (.cells (madeCells #[Value.int .u64 0] n) 27)) = .ok (.int .i64 n) w2 ∧
      Below w.heap.size w w2 ∧ Own w.heap.size w2 (some ⟨w.heap.size, 0, none⟩) n f := by
  have hlen : ((List.range n).map (fun i => Value.int .u64 (f i))).length = n := by simp
  have hrun := run_copy_row (P := Try.prog) (w.alloc (.cells (madeCells #[Value.int .u64 0] n) 27)) 22 22 3 27 w.heap.size 0 n n ad n c (madeCells #[Value.int .u64 0] n) 27 ((List.range n).map (fun i => Value.int .u64 (f i)))
    Try.underlying22 Try.size27 (heap_alloc_new _ _) (by rw [hlen]; simp) ?_ (by rw [hlen, size_madeCells]; omega) ?_
  · rw [hlen] at hrun
    refine ⟨_, hrun, below_setRow ((Below.refl _ _).alloc (Nat.le_refl _) _) (Nat.le_refl _) _, Or.inr ⟨w.heap.size, rfl, Nat.le_refl _, _, setRow_heap _ _ _ _ 27 _ (heap_alloc_new _ _), ?_, ?_⟩⟩
    · simp [size_madeCells]
    · intro i hi
      have hd : List.drop n (madeCells #[Value.int .u64 0] n).toList = [] := List.drop_eq_nil_of_le (by simp [size_madeCells])
      simp [hd, hi]
  · intro j v hj
    have hjn : j < n := by
      have := (List.getElem?_eq_some_iff.1 hj).1
      omega
    rcases hr with h0 | ⟨b, off, hb, hc⟩
    · omega
    · injection hb with hb
      subst hb
      have hv : v = .int .u64 (f j) := by
        simp [hjn] at hj
        exact hj.symm
      have h1 := hc j hjn
      have hlt : b < w.heap.size := cell_lt h1
      have ha : (⟨b, off, none⟩ : Addr).add j = ⟨b, off + j, none⟩ := by
        unfold Addr.add
        by_cases h0 : j = 0
        · subst h0; rfl
        · rw [if_neg h0]
      rw [ha, hv, ← h1]
      exact World.cell?_of_block (w := w) (a := ⟨b, off + j, none⟩) (Below.heap_alloc w _ b hlt)
  · intro v hv
    obtain ⟨i, _, rfl⟩ := List.mem_map.1 hv
    rfl

set_option maxHeartbeats 400000 in
theorem clone_any (a : Option Addr) (n c : Nat) (f : Nat → Int) (w : World) (hn : n ≤ 1048576) (hz : a = none → n = 0) (hr : Rd w a n f) :
    Calls Try.prog 8 #[.slice a n c] w fun e w' => Cloned n f w e w' := by
  have HR : Hid (Rd w a n f) := hr
  clear hr
  have heq := fun w => Lib.run_eql_slice_nil (P := Try.prog) w 22 27 a n c 0 0 Try.underlying22
  cases a with
  | none =>
    obtain rfl := hz rfl
    go_enter Try.func8, Try.ntmps8
    go_wp2
    go_ret
    exact ⟨⟨none, 0, rfl, Nat.le_refl _, Or.inl rfl⟩, Below.refl _ _⟩
  | some ad =>
    clear hz
    have hmk := run_make_row' (P := Try.prog) 22 27 (.int .u64 0) 8 Try.underlying22 Try.info27 rfl .i64 .i64 n (by omega) (by omega)
    obtain ⟨w2, hrun, HB, HO⟩ := copy_made ad n c f w HR.out
    go_enter Try.func8, Try.ntmps8
    go_wp2
    go_ret
    exact ⟨⟨_, _, rfl, Nat.le_refl _, HO⟩, HB⟩
end Go.Proofs.Qxb6603698a
