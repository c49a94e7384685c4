import Derived.Test.YbulkajbaSuccs
import Derived.Deep.DrawnRows
namespace Go.Proofs.Ybulkajba
open Go.RowKit
open Rel
set_option linter.unusedVariables false

/-- Where the search lies, and what does not turn. -/
structure Lay where
  bS : Nat
  bC : Nat
  bW : Nat
  bP : Nat
  bL : Nat
  bV : Nat
  bR : Nat
  bF : Nat
  bU : Nat
  ax : Option Addr
  cx : Nat
  N : Nat
  T : Nat
  E : List (Nat × Nat)
  w0 : Nat → Int
  r0 : Nat

structure Stat (L : Lay) (w : World) : Prop where
  s0 : w.cell? ⟨L.bS, 0, none⟩ = some (.pointer (some ⟨L.bC, 0, none⟩))
  s1 : w.cell? ⟨L.bS, 1, none⟩ = some (.slice (some ⟨L.bW, 0, none⟩) L.N L.N)
  s2 : w.cell? ⟨L.bS, 2, none⟩ = some (.slice (some ⟨L.bP, 0, none⟩) L.N L.N)
  s5 : w.cell? ⟨L.bS, 5, none⟩ = some (.slice (some ⟨L.bL, 0, none⟩) L.T L.T)
  s10 : w.cell? ⟨L.bS, 10, none⟩ = some (.slice (some ⟨L.bV, 0, none⟩) 1 1)
  c0 : w.cell? ⟨L.bC, 0, none⟩ = some (.slice L.ax L.T L.cx)
  c3 : w.cell? ⟨L.bC, 3, none⟩ = some (.slice (some ⟨L.bF, 0, none⟩) (L.N + 1) (L.N + 1))
  c4 : w.cell? ⟨L.bC, 4, none⟩ = some (.slice (some ⟨L.bU, 0, none⟩) L.E.length L.E.length)
  v0 : w.cell? ⟨L.bV, 0, none⟩ = some (.slice (some ⟨L.bR, 0, none⟩) 1 1)
  loc : ∀ i, i < L.T → w.cell? ⟨L.bL, i, none⟩ = some (.int .i32 i)
  fst : ∀ i, i ≤ L.N → w.cell? ⟨L.bF, i, none⟩ = some (.int .i64 (firstC L.E i))
  suc : ∀ u, u < L.N → ∀ i (h : i < (sucs L.E u).length), w.cell? ⟨L.bU, firstC L.E u + i, none⟩ = some (.int .i32 (sucs L.E u)[i])
  lb : ∀ b, b = L.bS ∨ b = L.bC ∨ b = L.bV ∨ b = L.bL ∨ b = L.bF ∨ b = L.bU → b < w.heap.size

structure Fits (L : Lay) : Prop where
  nW : ∀ b, b = L.bS ∨ b = L.bC ∨ b = L.bV ∨ b = L.bL ∨ b = L.bF ∨ b = L.bU ∨ b = L.bP ∨ b = L.bR → b ≠ L.bW
  nP : ∀ b, b = L.bS ∨ b = L.bC ∨ b = L.bV ∨ b = L.bL ∨ b = L.bF ∨ b = L.bU ∨ b = L.bR → b ≠ L.bP
  nR : ∀ b, b = L.bS ∨ b = L.bC ∨ b = L.bV ∨ b = L.bL ∨ b = L.bF ∨ b = L.bU → b ≠ L.bR
  T1 : 1 ≤ L.T
  T2 : L.T ≤ 6
  TN : L.T ≤ L.N
  N2 : L.N ≤ 10
  E1 : ∀ p ∈ L.E, p.1 < p.2 ∧ p.2 < L.N
  E2 : L.E.length ≤ 24
  w1 : ∀ x, -128 ≤ L.w0 x ∧ L.w0 x ≤ 127
  r1 : L.r0 < 18446744073709551616

def Lay.turns (L : Lay) : Nat → Prop := fun k => k = L.bW ∨ k = L.bP ∨ k = L.bR

theorem Stat.kept {L : Lay} {w w' : World} (h : Stat L w) (f : Fits L) (k : Kept L.turns w w') : Stat L w' := by
  have ne : ∀ b, b = L.bS ∨ b = L.bC ∨ b = L.bV ∨ b = L.bL ∨ b = L.bF ∨ b = L.bU → ¬ L.turns b := by
    intro b hb ht
    rcases ht with e | e | e
    · exact f.nW b (by omega) e
    · exact f.nP b (by omega) e
    · exact f.nR b (by omega) e
  have go : ∀ b o v, (b = L.bS ∨ b = L.bC ∨ b = L.bV ∨ b = L.bL ∨ b = L.bF ∨ b = L.bU) → w.cell? ⟨b, o, none⟩ = some v → w'.cell? ⟨b, o, none⟩ = some v :=
    fun b o v hb hc => (k.cell (p := ⟨b, o, none⟩) (h.lb b hb) (ne b hb)).trans hc
  exact ⟨go _ _ _ (by omega) h.s0, go _ _ _ (by omega) h.s1, go _ _ _ (by omega) h.s2, go _ _ _ (by omega) h.s5, go _ _ _ (by omega) h.s10, go _ _ _ (by omega) h.c0, go _ _ _ (by omega) h.c3, go _ _ _ (by omega) h.c4, go _ _ _ (by omega) h.v0,
    fun i hi => go _ _ _ (by omega) (h.loc i hi), fun i hi => go _ _ _ (by omega) (h.fst i hi), fun u hu i hi => go _ _ _ (by omega) (h.suc u hu i hi), fun b hb => Nat.lt_of_lt_of_le (h.lb b hb) k.size⟩

def waitL (L : Lay) (c : Nat → Nat) : List Int := (List.range L.N).map fun x => L.w0 x - (c x : Int)
def placeL (L : Lay) (c : Nat → Nat) : List Value := (List.range L.N).map fun x => .bool (decide (L.T ≤ x ∧ 0 < trig (L.w0 x) (c x)))

structure Dyn (L : Lay) (w : World) (c : Nat → Nat) : Prop where
  wt : rowIs w L.bW 21 ((waitL L c).map (.int .i32))
  pl : rowIs w L.bP 4 (placeL L c)
  rd : ∃ R : Nat, R < 18446744073709551616 ∧ rowIs w L.bR 26 [.int .u64 R] ∧ ∀ i, R.testBit i = (L.r0.testBit i || decide (i < L.T ∧ 0 < trig (L.w0 i) (c i)))

theorem range_set {α : Type} (g : Nat → α) (N x : Nat) (y : α) : ((List.range N).map g).set x y = (List.range N).map fun i => if i = x then y else g i := by
  apply List.ext_getElem
  · simp
  · intro i h1 h2
    simp only [List.getElem_set, List.getElem_map, List.getElem_range]
    by_cases h : x = i
    · subst h; simp
    · rw [if_neg h, if_neg (fun e => h e.symm)]

theorem waitL_at (L : Lay) (c : Nat → Nat) (x : Nat) (h : x < L.N) : (waitL L c).getD x 0 = L.w0 x - (c x : Int) := by
  simp [waitL, h]
theorem waitL_length (L : Lay) (c : Nat → Nat) : (waitL L c).length = L.N := by simp [waitL]
theorem waitL_bump (L : Lay) (c : Nat → Nat) (x : Nat) : (waitL L c).set x (L.w0 x - (c x : Int) - 1) = waitL L (bump c x) := by
  unfold waitL
  rw [range_set]
  refine List.map_congr_left fun i _ => ?_
  by_cases h : i = x
  · subst h; rw [if_pos rfl, bump_self]; omega
  · rw [if_neg h, bump_other c x i h]

theorem trig_bump_pos (w : Int) (d : Nat) : 0 < trig w (d + 1) ↔ ¬ 0 < w - ((d + 1 : Nat) : Int) := by
  rw [trig_pos]; omega
theorem trig_mono (w : Int) (d : Nat) (h : 0 < trig w d) : 0 < trig w (d + 1) := by
  rw [trig_pos] at *; omega

/-- Not yet released: nothing but the count turns. -/
theorem place_same (L : Lay) (c : Nat → Nat) (x : Nat) (h : 0 < L.w0 x - ((c x + 1 : Nat) : Int) ∨ x < L.T) : placeL L c = placeL L (bump c x) := by
  unfold placeL
  refine List.map_congr_left fun i _ => ?_
  by_cases hi : i = x
  · subst hi
    rw [bump_self]
    congr 2
    simp only [eq_iff_iff]
    rcases h with h | h
    · have h1 : ¬ 0 < trig (L.w0 i) (c i + 1) := by rw [trig_bump_pos]; omega
      have h2 : ¬ 0 < trig (L.w0 i) (c i) := fun e => h1 (trig_mono _ _ e)
      simp only [h1, h2]
    · omega
  · rw [bump_other c x i hi]
theorem place_set (L : Lay) (c : Nat → Nat) (x : Nat) (hT : L.T ≤ x) (h : ¬ 0 < L.w0 x - ((c x + 1 : Nat) : Int)) : (placeL L c).set x (.bool true) = placeL L (bump c x) := by
  unfold placeL
  rw [range_set]
  refine List.map_congr_left fun i _ => ?_
  by_cases hi : i = x
  · subst hi
    rw [if_pos rfl, bump_self]
    have h1 : 0 < trig (L.w0 i) (c i + 1) := (trig_bump_pos _ _).2 h
    simp only [hT, h1, and_self, decide_true]
  · rw [if_neg hi, bump_other c x i hi]
theorem ready_same (L : Lay) (c : Nat → Nat) (x : Nat) (h : 0 < L.w0 x - ((c x + 1 : Nat) : Int) ∨ L.T ≤ x) (i : Nat) : decide (i < L.T ∧ 0 < trig (L.w0 i) (c i)) = decide (i < L.T ∧ 0 < trig (L.w0 i) (bump c x i)) := by
  by_cases hi : i = x
  · subst hi
    rw [bump_self]
    congr 1
    simp only [eq_iff_iff]
    rcases h with h | h
    · have h1 : ¬ 0 < trig (L.w0 i) (c i + 1) := by rw [trig_bump_pos]; omega
      have h2 : ¬ 0 < trig (L.w0 i) (c i) := fun e => h1 (trig_mono _ _ e)
      simp only [h1, h2]
    · omega
  · rw [bump_other c x i hi]
theorem ready_set (L : Lay) (c : Nat → Nat) (x R : Nat) (hT : x < L.T) (h : ¬ 0 < L.w0 x - ((c x + 1 : Nat) : Int)) (hR : ∀ i, R.testBit i = (L.r0.testBit i || decide (i < L.T ∧ 0 < trig (L.w0 i) (c i)))) :
    ∀ i, (R ||| 2 ^ x).testBit i = (L.r0.testBit i || decide (i < L.T ∧ 0 < trig (L.w0 i) (bump c x i))) := by
  intro i
  rw [Nat.testBit_or, hR i]
  by_cases hi : i = x
  · subst hi
    rw [bump_self]
    have h1 : 0 < trig (L.w0 i) (c i + 1) := (trig_bump_pos _ _).2 h
    simp [hT, h1]
  · rw [bump_other c x i hi]
    have : (2 ^ x).testBit i = false := by rw [Nat.testBit_two_pow]; simp; omega
    rw [this, Bool.or_false]

theorem take_fold (L : Lay) (f v k : Nat) (c : Nat → Nat) (h : k < (sucs L.E v).length) : ((sucs L.E v).take (k + 1)).foldl (stepC L.w0 L.T (relC L.E L.w0 L.T f)) c =
    stepC L.w0 L.T (relC L.E L.w0 L.T f) (((sucs L.E v).take k).foldl (stepC L.w0 L.T (relC L.E L.w0 L.T f)) c) (sucs L.E v)[k] := by
  rw [List.take_succ_eq_append_getElem h, List.foldl_append]; rfl
end Go.Proofs.Ybulkajba
