import Derived.Test.Qxb6604644aC
import Derived.OpenShut
namespace Go.Proofs.Qxb6604644a
open Go.RowKit
set_option linter.unusedVariables false

/-- A slice of bytes that came in: nil; or a row of 'cap' cells, the numbers zs. -/
theorem row_bytes {w : World} {a : Option Addr} {len cap : Nat} {zs : List Int}
    (h : (a = none ∧ len = 0 ∧ cap = 0 ∧ zs = []) ∨ ∃ x, a = some x ∧ len ≤ cap ∧ cap ≤ maxLen ∧ zs.length = cap ∧ (∀ i, i < zs.length → w.cell? (x.add i) = some (.int .u8 (zs.getD i 0))) ∧ ∀ n ∈ zs, (Lit.int .u8 n).wf = true) :
    ∃ l : List UInt8, l.length = len ∧ len ≤ maxLen ∧ (a = none → l = []) ∧ RdB w a l := by
  rcases h with ⟨rfl, rfl, rfl, rfl⟩ | ⟨x, rfl, hl, hm, hz, hc, hw⟩
  · exact ⟨[], rfl, Nat.zero_le _, fun _ => rfl, Or.inl rfl⟩
  · refine ⟨(zs.take len).map fun n => UInt8.ofNat n.toNat, by simp; omega, Nat.le_trans hl hm, fun h => absurd h (by simp), ?_⟩
    by_cases h0 : len = 0
    · subst h0; exact Or.inl rfl
    · obtain ⟨b, off, rfl, hcell⟩ := ints_at hc (by omega)
      refine Or.inr ⟨b, off, rfl, fun i hi => ?_⟩
      have hi0 : i < min len zs.length := by simpa using hi
      have hi' : i < len := by omega
      have hiz : i < zs.length := by omega
      rw [hcell i hiz]
      have hb := bounds_u8 (hw zs[i] (List.getElem_mem hiz))
      have e1 : zs.getD i 0 = zs[i] := by simp [List.getD, hiz]
      have e2 : ((zs.take len).map fun n => UInt8.ofNat n.toNat).getD i 0 = UInt8.ofNat zs[i].toNat := by simp [List.getD, hi', hiz]
      rw [e1, e2]
      congr 2
      rw [UInt8.toNat_ofNat']
      omega
end Go.Proofs.Qxb6604644a
