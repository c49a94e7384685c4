import Derived.Test.YbulkajbaAdd
namespace Go.Proofs.Ybulkajba
open Go.RowKit
open Rel
set_option linter.unusedVariables false

/-- How many edges come from nodes ahead of u. -/
def firstC (E : List (Nat × Nat)) (u : Nat) : Nat := (E.filter fun p => decide (p.1 < u)).length

theorem firstC_succ (E : List (Nat × Nat)) (u : Nat) : firstC E (u + 1) = firstC E u + (sucs E u).length := by
  unfold firstC sucs
  rw [List.length_map]
  induction E with
  | nil => rfl
  | cons p E ih =>
    simp only [List.filter_cons]
    by_cases h1 : p.1 < u
    · have : p.1 < u + 1 := by omega
      have h3 : (p.1 == u) = false := by simp; omega
      simp only [h1, this, h3, decide_true, if_true, List.length_cons, Bool.false_eq_true, if_false]
      omega
    · by_cases h2 : p.1 = u
      · have : p.1 < u + 1 := by omega
        have h3 : (p.1 == u) = true := by simp [h2]
        simp only [h1, this, h3, decide_true, decide_false, if_true, List.length_cons, Bool.false_eq_true, if_false]
        omega
      · have : ¬ p.1 < u + 1 := by omega
        have h3 : (p.1 == u) = false := by simp [h2]
        simp only [h1, this, h3, decide_false, Bool.false_eq_true, if_false]
        omega
theorem firstC_le (E : List (Nat × Nat)) (u : Nat) : firstC E u ≤ E.length := List.length_filter_le _ _

set_option maxHeartbeats 1000000 in
theorem succs_any (bC bF bU N v : Nat) (E : List (Nat × Nat)) (w : World) (hv : v < N) (hN : N ≤ 100) (hE : E.length ≤ 24) (c3 : w.cell? ⟨bC, 3, none⟩ = some (.slice (some ⟨bF, 0, none⟩) (N + 1) (N + 1)))
    (c4 : w.cell? ⟨bC, 4, none⟩ = some (.slice (some ⟨bU, 0, none⟩) E.length E.length)) (hf : ∀ i, i ≤ N → w.cell? ⟨bF, i, none⟩ = some (.int .i64 (firstC E i))) :
    Calls Yba.prog 13 #[.pointer (some ⟨bC, 3, none⟩), .int .i32 v] w fun e w' => ∃ ad cap, e = .returned (.slice ad (sucs E v).length cap) ∧ (0 < (sucs E v).length → ad = some ⟨bU, firstC E v, none⟩) ∧ ∃ n, w' = w.drewN n := by
  have f0 := hf v (by omega)
  have f1 := hf (v + 1) (by omega)
  rw [firstC_succ] at f1
  have l1 := firstC_le E (v + 1)
  rw [firstC_succ] at l1
  generalize (sucs E v).length = k at *
  generalize firstC E v = a at *
  generalize E.length = m at *
  have i0 : (0 : Int) ≤ (v : Int) := by omega
  have i1 : (v : Int) < ((N + 1 : Nat) : Int) := by omega
  have i2 : (v : Int) + 1 < ((N + 1 : Nat) : Int) := by omega
  have b0 : (0 : Int) ≤ (a : Int) := by omega
  have b1 : (a : Int) ≤ (a : Int) + (k : Int) := by omega
  have b2 : (a : Int) + (k : Int) ≤ (m : Int) := by omega
  have hw : IntKind.i32.wrap ((v : Int) + 1) = (v : Int) + 1 := by rw [IntKind.wrap_i32]; omega
  clear hf
  by_cases ham : a < m
  · go_enter Yba.func13, Yba.ntmps13
    go_wp2_with fail
    go_quiet (fail)
    go_wp2_with fail
    go_ret
    exact ⟨some ⟨bU, a, none⟩, m - a, by rw [Nat.add_sub_cancel_left]; rfl, fun _ => rfl, nq, rfl⟩
  · obtain rfl : a = m := by omega
    obtain rfl : k = 0 := by omega
    go_enter Yba.func13, Yba.ntmps13
    go_wp2_with fail
    go_quiet (fail)
    go_wp2_with fail
    go_ret
    exact ⟨_, _, rfl, fun h => absurd h (by omega), nq, rfl⟩
end Go.Proofs.Ybulkajba
