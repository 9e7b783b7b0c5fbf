import Derived.Test.Qxb6603715aB
import Derived.BigRegion
namespace Go.Proofs.Qxb6603715a
open Go.RowKit
set_option linter.unusedVariables false

theorem Try.size24 : (Try.prog.info? 24).map (·.size) = some 7 := by kernel_rfl
theorem Try.size33 : (Try.prog.info? 33).map (·.size) = some 7 := by kernel_rfl

/-- What zzB1ReaderOf leaves: the seven fields; nothing that was there has turned. -/
structure RdPost (s : ByteArray) (p1 p2 p3 p4 : Int) (b5 b6 : Bool) (w : World) (e : Ending) (w' : World) : Prop where
  ret : e = .returned (.agg #[.string s, .int .i64 p1, .int .i64 p2, .int .i64 p3, .int .i64 p4, .bool b5, .bool b6])
  below : Below w.heap.size w w'

set_option maxHeartbeats 400000 in
theorem readerOf_any (T : Nat) (s : ByteArray) (p1 p2 p3 p4 : Int) (b5 b6 : Bool) (w : World)
    (h0 : w.cell? ⟨T, 0, none⟩ = some (.string s)) (h1 : w.cell? ⟨T, 1, none⟩ = some (.int .i64 p1)) (h2 : w.cell? ⟨T, 2, none⟩ = some (.int .i64 p2)) (h3 : w.cell? ⟨T, 3, none⟩ = some (.int .i64 p3)) (h4 : w.cell? ⟨T, 4, none⟩ = some (.int .i64 p4)) (h5 : w.cell? ⟨T, 5, none⟩ = some (.bool b5)) (h6 : w.cell? ⟨T, 6, none⟩ = some (.bool b6)) (hT : T < w.heap.size) :
    Calls Try.prog 12 #[.pointer (some ⟨T, 0, none⟩)] w fun e w' => RdPost s p1 p2 p3 p4 b5 b6 w e w' := by
  go_enter Try.func12, Try.ntmps12
  go_wp2
  go_region
  go_wp2
  exact bodyPost_ret (v := .agg #[.string s, .int .i64 p1, .int .i64 p2, .int .i64 p3, .int .i64 p4, .bool b5, .bool b6]) (results_cell_row (p := 2) (ty := 24) rfl _ _ w.heap.size 24 _ (0, 0) _ rfl (heap_alloc_new w _) Try.underlying24 rfl Try.size24) rfl ⟨rfl, ((Below.refl _ _).alloc (Nat.le_refl _) _).drew⟩
end Go.Proofs.Qxb6603715a
