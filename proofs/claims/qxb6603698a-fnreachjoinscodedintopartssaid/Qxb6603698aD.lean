import Derived.Test.Qxb6603698aC
namespace Go.Proofs.Qxb6603698a
open Go.RowKit
set_option linter.unusedVariables false

/-- What parts hold behind reach. -/
def newParts (N : Nat) (f h : Nat → Int) (i : Nat) : Int := if i < N then bits .or .u64 (f i) (h i) else f i
/-- What the coded sets hold behind reach. -/
def newCoded (at_ N : Nat) (F : Nat → Nat → Int) (i j : Nat) : Int := if i = at_ ∧ j < N then 0 else F i j
/-- What the counts are behind reach. -/
def newUsed (at_ : Nat) (U : Nat → Int) (i : Nat) : Int := if i = at_ then 0 else U i
def newPend (N : Nat) (pend : Int) : Int := if N = 0 then pend else pend - 1

structure After (T H Bp Bc at_ N : Nat) (pa : Option Addr) (n pc : Nat) (u : Int) (V : Nat → Value) (U : Nat → Int) (pend : Int) (A : Nat → Option Addr) (L : Nat → Nat) (F : Nat → Nat → Int) (f : Nat → Int) (w : World) (e : Ending) (w' : World) : Prop where
  ret : e = .returned (.tuple #[])
  st : ∃ S, w'.rowIs T 47 17 S ∧ St S pa n pc (max u N) V (newUsed at_ U) (newPend N pend)
  parts : Own Bp w' pa n (newParts N f (F at_))
  fam : OwnFam Bc w' A L (newCoded at_ N F) 6
  oth : Oth (fun b => b = T ∨ (Bp ≤ b ∧ b < H)) w w'

theorem Own.congr {B : Nat} {w : World} {a : Option Addr} {n : Nat} {f g : Nat → Int} (h : Own B w a n f) (e : ∀ i, i < n → f i = g i) : Own B w a n g := by
  rcases h with h | ⟨b, ha, hB, hr⟩
  · exact Or.inl h
  · exact Or.inr ⟨b, ha, hB, hr.congr fun i hi => by rw [e i hi]⟩

theorem reach_any (T H Bp Bc q : Nat) (S : Nat → Value) (w : World) (pa : Option Addr) (n pc N : Nat) (u : Int) (V : Nat → Value) (U : Nat → Int) (pend : Int) (A : Nat → Option Addr) (L C : Nat → Nat) (F : Nat → Nat → Int) (f : Nat → Int)
    (hT : w.rowIs T 47 17 S) (hS : St S pa n pc u V U pend) (hq : q ≤ 9223372036854775807) (hV : ∀ i, i < 6 → V i = .slice (A i) (L i) (C i)) (hC : ∀ i, i < 6 → L i ≤ C i) (hU : U (q % 6) = N) (hNn : N ≤ n) (hNm : N ≤ L (q % 6)) (hn : n ≤ 1048576) (hu : 0 ≤ u) (hp0 : 0 ≤ pend) (hp1 : pend ≤ 6)
    (hP : Own Bp w pa n f) (hPc : ∀ g, 0 < n → pa = some ⟨g, 0, none⟩ → g < Bc) (hF : OwnFam Bc w A L F 6) (hFH : ∀ i g, i < 6 → 0 < L i → A i = some ⟨g, 0, none⟩ → g < H) (hBB : Bp ≤ Bc) (hBH : Bc ≤ H) (hHT : H ≤ T) :
    Calls Try.prog 18 #[.pointer (some ⟨T, 0, none⟩), .int .i64 q] w fun e w' => After T H Bp Bc (q % 6) N pa n pc u V U pend A L F f w e w' := by
  have ha : q % 6 < 6 := Nat.mod_lt _ (by omega)
  by_cases h0 : N = 0
  · subst h0
    refine (reach_none T q S w pa n pc u V U pend hT hS hq hU).mono ?_
    rintro e w' ⟨rfl, rfl⟩
    refine ⟨rfl, ⟨S, hT, hS.parts, ?_, hS.coded, ?_, ?_⟩, hP.congr fun i _ => ?_, ⟨fun i hi => (hF.own i hi).congr fun j _ => ?_, hF.apart⟩, Oth.refl _ _⟩
    · rw [hS.used]; congr 1; omega
    · intro i hi
      rw [hS.codedUsed i hi]
      unfold newUsed
      split
      · rename_i e; rw [e, hU]; rfl
      · rfl
    · rw [hS.pending]; rfl
    · simp [newParts]
    · simp [newCoded]
  · rcases hP with hP | ⟨gp, rfl, hgp, hrp⟩
    · omega
    rcases hF.own (q % 6) ha with hc | ⟨gc, hA, hgc, hrc⟩
    · omega
    have hg1 : gp < Bc := hPc gp (by omega) rfl
    have hg2 : gc < H := hFH (q % 6) gc ha (by omega) hA
    refine (reach_some T gp gc q S w n pc (L (q % 6)) (C (q % 6)) N u V U pend f (F (q % 6)) hT hS hq hU (by omega) hNn hNm hn (hC _ ha) (by rw [hV _ ha, hA]) hrp hrc (by omega) (by omega) (by omega) hp0 hp1).mono ?_
    rintro e w' ⟨rfl, h1, h2, h3, h4⟩
    refine ⟨rfl, ⟨_, h1, ?_, ?_, ?_, ?_, ?_⟩, Or.inr ⟨gp, rfl, hgp, h2⟩, ⟨?_, hF.apart⟩, ⟨h4.os, h4.tape, h4.output, h4.size, fun k hk => h4.block k ?_⟩⟩
    · have : (1 : Nat) ≠ 9 + q % 6 := by omega
      simp [this, hS.parts]
    · have : (2 : Nat) ≠ 9 + q % 6 := by omega
      simp [this]
    · intro i hi
      have e1 : 3 + i ≠ 15 := by omega
      have e2 : 3 + i ≠ 9 + q % 6 := by omega
      have e3 : 3 + i ≠ 2 := by omega
      simp only [if_neg e1, if_neg e2, if_neg e3]
      exact hS.coded i hi
    · intro i hi
      have e1 : 9 + i ≠ 15 := by omega
      have e3 : 9 + i ≠ 2 := by omega
      simp only [if_neg e1, if_neg e3]
      unfold newUsed
      by_cases e : i = q % 6
      · rw [if_pos (by omega), if_pos e]
      · rw [if_neg (by omega), if_neg e]; exact hS.codedUsed i hi
    · simp [newPend, h0]
    · intro i hi
      by_cases e : i = q % 6
      · subst e
        refine Or.inr ⟨gc, hA, hgc, h3.congr fun j _ => ?_⟩
        simp [newCoded]
      · have e' : ∀ j, newCoded (q % 6) N F i j = F i j := fun j => if_neg (fun h => e h.1)
        rcases hF.own i hi with h | ⟨g, hg, hBg, hr⟩
        · exact Or.inl h
        · by_cases hL : L i = 0
          · exact Or.inl hL
          · have hne : g ≠ gc := fun h => hF.apart i (q % 6) hi ha e (by omega) (by omega) (by rw [hg, hA, h])
            have hgH : g < H := hFH i g hi (by omega) hg
            refine Or.inr ⟨g, hg, hBg, (hr.of_block (h4.block g ?_)).congr fun j _ => by rw [e' j]⟩
            rintro (h | h | h) <;> omega
    · rintro (h | h | h)
      · exact hk (Or.inl h)
      · exact hk (Or.inr ⟨by omega, by omega⟩)
      · exact hk (Or.inr ⟨by omega, by omega⟩)

/-- The four boxes that ZZReach lays ahead of the call. -/
theorem boxR (pa : Option Addr) (n pc : Nat) (u : Int) (V : Nat → Value) (U : Nat → Int) (pend : Int) (w : World) : ∃ (W : World) (S : Nat → Value),
    W = (((w.alloc (.cells #[V 0, V 1, V 2, V 3, V 4, V 5] 23)).alloc (.cells #[.int .i64 (U 0), .int .i64 (U 1), .int .i64 (U 2), .int .i64 (U 3), .int .i64 (U 4), .int .i64 (U 5)] 24)).alloc (.cells #[.int .i64 0, .int .i64 0, .int .i64 0, .int .i64 0, .int .i64 0, .int .i64 0] 24)).alloc
      (.cells #[.pointer none, .slice pa n pc, .int .i64 u, V 0, V 1, V 2, V 3, V 4, V 5, .int .i64 (U 0), .int .i64 (U 1), .int .i64 (U 2), .int .i64 (U 3), .int .i64 (U 4), .int .i64 (U 5), .int .i64 pend, .slice none 0 0] 47) ∧
    Below w.heap.size w W ∧ W.heap.size = w.heap.size + 4 ∧ W.rowIs (w.heap.size + 2) 24 6 (fun _ => .int .i64 0) ∧ W.rowIs (w.heap.size + 3) 47 17 S ∧ St S pa n pc u V U pend := by
  refine ⟨_, fun i => (#[Value.pointer none, .slice pa n pc, .int .i64 u, V 0, V 1, V 2, V 3, V 4, V 5, .int .i64 (U 0), .int .i64 (U 1), .int .i64 (U 2), .int .i64 (U 3), .int .i64 (U 4), .int .i64 (U 5), .int .i64 pend, .slice none 0 0] : Array Value).getD i undef, rfl, ((((Below.refl _ _).alloc (Nat.le_refl _) _).alloc (by simp) _).alloc (by simp; omega) _).alloc (by simp; omega) _, by simp, ?_, ?_, rfl, rfl, ?_, ?_, rfl⟩
  · have h := World.rowIs_alloc ((w.alloc (.cells #[V 0, V 1, V 2, V 3, V 4, V 5] 23)).alloc (.cells #[.int .i64 (U 0), .int .i64 (U 1), .int .i64 (U 2), .int .i64 (U 3), .int .i64 (U 4), .int .i64 (U 5)] 24)) #[Value.int .i64 0, .int .i64 0, .int .i64 0, .int .i64 0, .int .i64 0, .int .i64 0] 24 (fun _ => .int .i64 0) (fun i hi => six_at (fun _ => .int .i64 0) i hi)
    have h' := h.alloc (.cells #[.pointer none, .slice pa n pc, .int .i64 u, V 0, V 1, V 2, V 3, V 4, V 5, .int .i64 (U 0), .int .i64 (U 1), .int .i64 (U 2), .int .i64 (U 3), .int .i64 (U 4), .int .i64 (U 5), .int .i64 pend, .slice none 0 0] 47)
    simpa using h'
  · have h := World.rowIs_alloc (((w.alloc (.cells #[V 0, V 1, V 2, V 3, V 4, V 5] 23)).alloc (.cells #[.int .i64 (U 0), .int .i64 (U 1), .int .i64 (U 2), .int .i64 (U 3), .int .i64 (U 4), .int .i64 (U 5)] 24)).alloc (.cells #[.int .i64 0, .int .i64 0, .int .i64 0, .int .i64 0, .int .i64 0, .int .i64 0] 24))
      #[.pointer none, .slice pa n pc, .int .i64 u, V 0, V 1, V 2, V 3, V 4, V 5, .int .i64 (U 0), .int .i64 (U 1), .int .i64 (U 2), .int .i64 (U 3), .int .i64 (U 4), .int .i64 (U 5), .int .i64 pend, .slice none 0 0] 47
      (fun i => (#[Value.pointer none, .slice pa n pc, .int .i64 u, V 0, V 1, V 2, V 3, V 4, V 5, .int .i64 (U 0), .int .i64 (U 1), .int .i64 (U 2), .int .i64 (U 3), .int .i64 (U 4), .int .i64 (U 5), .int .i64 pend, .slice none 0 0] : Array Value).getD i undef)
      (fun i hi => by rw [Array.getElem?_eq_getElem hi, Array.getD, dif_pos hi]; rfl)
    have e : (((w.alloc (.cells #[V 0, V 1, V 2, V 3, V 4, V 5] 23)).alloc (.cells #[.int .i64 (U 0), .int .i64 (U 1), .int .i64 (U 2), .int .i64 (U 3), .int .i64 (U 4), .int .i64 (U 5)] 24)).alloc (.cells #[.int .i64 0, .int .i64 0, .int .i64 0, .int .i64 0, .int .i64 0, .int .i64 0] 24)).heap.size = w.heap.size + 3 := by simp
    rw [e] at h
    exact h
  · intro i hi
    match i, hi with
    | 0, _ => rfl
    | 1, _ => rfl
    | 2, _ => rfl
    | 3, _ => rfl
    | 4, _ => rfl
    | 5, _ => rfl
  · intro i hi
    match i, hi with
    | 0, _ => rfl
    | 1, _ => rfl
    | 2, _ => rfl
    | 3, _ => rfl
    | 4, _ => rfl
    | 5, _ => rfl

/-- What ZZReach leaves. -/
structure ZR (Bp Bc Bf at_ N : Nat) (pa : Option Addr) (n : Nat) (u : Int) (U : Nat → Int) (pend : Int) (A : Nat → Option Addr) (L : Nat → Nat) (F : Nat → Nat → Int) (f : Nat → Int) (w : World) (e : Ending) (w' : World) : Prop where
  ret : e = .returned (.tuple #[.int .i64 (max u N), .agg #[.int .i64 (newUsed at_ U 0), .int .i64 (newUsed at_ U 1), .int .i64 (newUsed at_ U 2), .int .i64 (newUsed at_ U 3), .int .i64 (newUsed at_ U 4), .int .i64 (newUsed at_ U 5)], .int .i64 (newPend N pend)])
  parts : Own Bp w' pa n (newParts N f (F at_))
  fam : OwnFam Bc w' A L (newCoded at_ N F) 6
  below : Below Bp w w'
  size : w.heap.size ≤ w'.heap.size
  kept : ∀ k, Bf ≤ k → k < w.heap.size → w'.heap[k]? = w.heap[k]?

set_option maxHeartbeats 400000 in
theorem zzreach_any (Bp Bc Bf q : Nat) (w : World) (pa : Option Addr) (n pc N : Nat) (u : Int) (V : Nat → Value) (U : Nat → Int) (pend : Int) (A : Nat → Option Addr) (L C : Nat → Nat) (F : Nat → Nat → Int) (f : Nat → Int)
    (hq : q ≤ 9223372036854775807) (hV : ∀ i, i < 6 → V i = .slice (A i) (L i) (C i)) (hC : ∀ i, i < 6 → L i ≤ C i) (hU : U (q % 6) = N) (hNn : N ≤ n) (hNm : N ≤ L (q % 6)) (hn : n ≤ 1048576) (hu : 0 ≤ u) (hp0 : 0 ≤ pend) (hp1 : pend ≤ 6)
    (hP : Own Bp w pa n f) (hPc : ∀ g, 0 < n → pa = some ⟨g, 0, none⟩ → g < Bc) (hF : OwnFam Bc w A L F 6) (hFB : ∀ i g, i < 6 → 0 < L i → A i = some ⟨g, 0, none⟩ → g < Bf) (hBB : Bp ≤ Bc) (hBf : Bc ≤ Bf) (hfH : Bf ≤ w.heap.size) :
    Calls Try.prog 10 #[.slice pa n pc, .int .i64 u, .agg #[V 0, V 1, V 2, V 3, V 4, V 5], .agg #[.int .i64 (U 0), .int .i64 (U 1), .int .i64 (U 2), .int .i64 (U 3), .int .i64 (U 4), .int .i64 (U 5)], .int .i64 pend, .int .i64 q] w fun e w' => ZR Bp Bc Bf (q % 6) N pa n u U pend A L F f w e w' := by
  obtain ⟨W, S, hW, hB, hsz, hres, hT, hS⟩ := boxR pa n pc u V U pend w
  have hBH : Bc ≤ w.heap.size := Nat.le_trans hBf hfH
  have hFH : ∀ i g, i < 6 → 0 < L i → A i = some ⟨g, 0, none⟩ → g < w.heap.size := fun i g h1 h2 h3 => Nat.lt_of_lt_of_le (hFB i g h1 h2 h3) hfH
  have hcall := reach_any (w.heap.size + 3) Bf Bp Bc q S W pa n pc N u V U pend A L C F f hT hS hq hV hC hU hNn hNm hn hu hp0 hp1 (hP.below hB) hPc ⟨fun i hi => (hF.own i hi).below hB, hF.apart⟩ hFB hBB hBf (by omega)
  have HC : Hid (Calls Try.prog 18 #[.pointer (some ⟨w.heap.size + 3, 0, none⟩), .int .i64 q] W fun e w' => After (w.heap.size + 3) Bf Bp Bc (q % 6) N pa n pc u V U pend A L F f W e w') := hcall
  have HW : Hid (W = (((w.alloc (.cells #[V 0, V 1, V 2, V 3, V 4, V 5] 23)).alloc (.cells #[.int .i64 (U 0), .int .i64 (U 1), .int .i64 (U 2), .int .i64 (U 3), .int .i64 (U 4), .int .i64 (U 5)] 24)).alloc (.cells #[.int .i64 0, .int .i64 0, .int .i64 0, .int .i64 0, .int .i64 0, .int .i64 0] 24)).alloc
      (.cells #[.pointer none, .slice pa n pc, .int .i64 u, V 0, V 1, V 2, V 3, V 4, V 5, .int .i64 (U 0), .int .i64 (U 1), .int .i64 (U 2), .int .i64 (U 3), .int .i64 (U 4), .int .i64 (U 5), .int .i64 pend, .slice none 0 0] 47)) := hW
  have HPa : Hid (∀ g, 0 < n → pa = some ⟨g, 0, none⟩ → g < w.heap.size) := fun g h1 h2 => Nat.lt_of_lt_of_le (hPc g h1 h2) hBH
  have HFa : Hid (∀ i g, i < 6 → 0 < L i → A i = some ⟨g, 0, none⟩ → g < w.heap.size) := hFH
  have HBp : Hid (Bp ≤ w.heap.size) := Nat.le_trans hBB hBH
  clear hW hcall hFH hFB hF hP hPc hV hC hU hS hT
  go_enter Try.func10, Try.ntmps10
  go_wp2_with fail
  rw [← HW.out, show w.heap.size + 1 + 1 + 1 = w.heap.size + 3 from rfl]
  refine HC.out.mono ?_
  rintro e w1 ⟨rfl, ⟨S1, hT1, hS1⟩, hparts, hfam, hoth⟩
  have hres1 : w1.rowIs (w.heap.size + 2) 24 6 (fun _ => .int .i64 0) := hres.of_block (hoth.block _ (by omega))
  have hbel : Below Bp w w1 := (hB.mono (by omega)).trans (hoth.below (by omega))
  have hsz1 : w.heap.size + 4 ≤ w1.heap.size := by rw [hoth.size, hsz]; omega
  have t2 : w1.cell? ⟨w.heap.size + 3, 2, none⟩ = some (.int .i64 (max u N)) := by rw [hT1.cell (by omega), hS1.used]
  have t9 : w1.cell? ⟨w.heap.size + 3, 9, none⟩ = some (.int .i64 (newUsed (q % 6) U 0)) := by rw [hT1.cell (by omega), ← hS1.codedUsed 0 (by omega)]
  have t10 : w1.cell? ⟨w.heap.size + 3, 10, none⟩ = some (.int .i64 (newUsed (q % 6) U 1)) := by rw [hT1.cell (by omega), ← hS1.codedUsed 1 (by omega)]
  have t11 : w1.cell? ⟨w.heap.size + 3, 11, none⟩ = some (.int .i64 (newUsed (q % 6) U 2)) := by rw [hT1.cell (by omega), ← hS1.codedUsed 2 (by omega)]
  have t12 : w1.cell? ⟨w.heap.size + 3, 12, none⟩ = some (.int .i64 (newUsed (q % 6) U 3)) := by rw [hT1.cell (by omega), ← hS1.codedUsed 3 (by omega)]
  have t13 : w1.cell? ⟨w.heap.size + 3, 13, none⟩ = some (.int .i64 (newUsed (q % 6) U 4)) := by rw [hT1.cell (by omega), ← hS1.codedUsed 4 (by omega)]
  have t14 : w1.cell? ⟨w.heap.size + 3, 14, none⟩ = some (.int .i64 (newUsed (q % 6) U 5)) := by rw [hT1.cell (by omega), ← hS1.codedUsed 5 (by omega)]
  have t15 : w1.cell? ⟨w.heap.size + 3, 15, none⟩ = some (.int .i64 (newPend N pend)) := by rw [hT1.cell (by omega), hS1.pending]
  have d0 : w1.cell? ⟨w.heap.size + 2, 0, none⟩ = some (.int .i64 0) := hres1.cell (by omega)
  have d1 : w1.cell? ⟨w.heap.size + 2, 1, none⟩ = some (.int .i64 0) := hres1.cell (by omega)
  have d2 : w1.cell? ⟨w.heap.size + 2, 2, none⟩ = some (.int .i64 0) := hres1.cell (by omega)
  have d3 : w1.cell? ⟨w.heap.size + 2, 3, none⟩ = some (.int .i64 0) := hres1.cell (by omega)
  have d4 : w1.cell? ⟨w.heap.size + 2, 4, none⟩ = some (.int .i64 0) := hres1.cell (by omega)
  have d5 : w1.cell? ⟨w.heap.size + 2, 5, none⟩ = some (.int .i64 0) := hres1.cell (by omega)
  have dz : ∀ j, w1.frozen? ⟨w.heap.size + 2, j, none⟩ = false := fun j => hres1.frozen j
  have HK : Hid (∀ k, Bf ≤ k → k < w.heap.size → w1.heap[k]? = w.heap[k]?) := fun k h1 h2 => (hoth.block k (by omega)).trans (hB.block k h2)
  clear hres hB hsz hoth hT1 hS1 HC HW hBH hBB hBf hfH hNm hNn hn hu hp0 hp1
  clear W S S1
  generalize hu' : max u (N : Int) = u1 at *
  generalize hp' : newPend N pend = p1 at *
  generalize hU0 : newUsed (q % 6) U 0 = x0 at *
  generalize hU1 : newUsed (q % 6) U 1 = x1 at *
  generalize hU2 : newUsed (q % 6) U 2 = x2 at *
  generalize hU3 : newUsed (q % 6) U 3 = x3 at *
  generalize hU4 : newUsed (q % 6) U 4 = x4 at *
  generalize hU5 : newUsed (q % 6) U 5 = x5 at *
  have HH : Hid (max u (N : Int) = u1 ∧ newPend N pend = p1 ∧ newUsed (q % 6) U 0 = x0 ∧ newUsed (q % 6) U 1 = x1 ∧ newUsed (q % 6) U 2 = x2 ∧ newUsed (q % 6) U 3 = x3 ∧ newUsed (q % 6) U 4 = x4 ∧ newUsed (q % 6) U 5 = x5) := ⟨hu', hp', hU0, hU1, hU2, hU3, hU4, hU5⟩
  clear hu' hp' hU0 hU1 hU2 hU3 hU4 hU5
  go_wp2_with fail
  go_region
  go_wp2
  obtain ⟨rfl, rfl, rfl, rfl, rfl, rfl, rfl, rfl⟩ := HH.out
  obtain ⟨W2, hW2, hrow2, hsz2, hoth2, hB2⟩ := store6 (fun i => Value.int .i64 (newUsed (q % 6) U i)) hres1
  rw [show w.heap.size + 1 + 1 = w.heap.size + 2 from rfl, ← hW2]
  clear hW2
  have hload := run_loadVar_row (P := Try.prog) W2.drew (w.heap.size + 2) 24 24 _ (0, 0) _ (row6 hrow2) Try.underlying24 rfl Try.size24
  refine bodyPost_ret (v := .tuple #[.int .i64 (max u N), .agg #[.int .i64 (newUsed (q % 6) U 0), .int .i64 (newUsed (q % 6) U 1), .int .i64 (newUsed (q % 6) U 2), .int .i64 (newUsed (q % 6) U 3), .int .i64 (newUsed (q % 6) U 4), .int .i64 (newUsed (q % 6) U 5)], .int .i64 (newPend N pend)]) (by simp [results, Try.results10, asAddr, hload]) rfl ?_
  have hbp := HBp.out
  refine ⟨rfl, ?_, ⟨fun i hi => ?_, hfam.apart⟩, (hB2 _ _ hbel (by omega)).drew, by show _ ≤ W2.heap.size; omega, fun k h1 h2 => (hoth2 k (by omega)).trans (HK.out k h1 h2)⟩
  · rcases hparts with h | ⟨g, hg, hBg, hr⟩
    · exact Or.inl h
    · by_cases h0 : n = 0
      · exact Or.inl h0
      · have := HPa.out g (by omega) hg
        exact Or.inr ⟨g, hg, hBg, hr.of_block (hoth2 g (by omega))⟩
  · rcases hfam.own i hi with h | ⟨g, hg, hBg, hr⟩
    · exact Or.inl h
    · by_cases h0 : L i = 0
      · exact Or.inl h0
      · have := HFa.out i g hi (by omega) hg
        exact Or.inr ⟨g, hg, hBg, hr.of_block (hoth2 g (by omega))⟩
end Go.Proofs.Qxb6603698a
