import Derived.Test.YbulkajbaMem
namespace Go.Proofs.Ybulkajba
open Go.RowKit

def inB (V : List Int) (i : Int) : Bool := decide (i ∈ V)

theorem contains_false_of (V : List Int) (i : Int) (h : ∀ j, j < V.length → V.getD j 0 ≠ i) : inB V i = false := by
  unfold inB
  simp only [decide_eq_false_iff_not]
  intro hm
  obtain ⟨j, hj, he⟩ := List.getElem_of_mem hm
  exact h j hj (by simpa [List.getElem?_eq_getElem hj] using he)

theorem contains_true_of (V : List Int) (i : Int) (j : Nat) (hj : j < V.length) (h : V.getD j 0 = i) : inB V i = true := by
  unfold inB
  simp only [decide_eq_true_eq]
  rw [← h]
  simp [List.getElem?_eq_getElem hj]

theorem ret_bool {a b : Bool} (h : a = b) : Ending.returned (.bool a) = .returned (.bool b) := by rw [h]

set_option maxHeartbeats 400000 in
theorem ain_any (V : List Int) (b n cap : Nat) (i : Int) (w : World) (hn : V.length = n) (hc : ∀ j, j < n → w.cell? ⟨b, j, none⟩ = some (.int .i32 (V.getD j 0))) (hV : n ≤ 1024)
    (hlo : ∀ j, j < n → -2147483648 ≤ V.getD j 0 ∧ V.getD j 0 ≤ 2147483647) :
    Calls Yba.prog 6 #[.slice (some ⟨b, 0, none⟩) n cap, .int .i64 i] w fun e w' => e = .returned (.bool (inB V i)) ∧ w' = w := by
  have HN : Hid (V.length = n) := hn
  have HC : Hid (∀ j, j < n → w.cell? ⟨b, j, none⟩ = some (.int .i32 (V.getD j 0))) := hc
  have HL : Hid (∀ j, j < n → -2147483648 ≤ V.getD j 0 ∧ V.getD j 0 ≤ 2147483647) := hlo
  clear hn hc hlo
  go_enter Yba.func6, Yba.ntmps6
  go_wp2_with fail
  go_loop [9] (fun q => ∃ k : Nat, k ≤ n ∧ q = .int .i64 k ∧ Hid (∀ j, j < k → V.getD j 0 ≠ i)) (fun q => n - (intOf q).toNat)
  case atStart => exact ⟨0, Nat.zero_le _, rfl, fun j hj => by omega⟩
  case round =>
    obtain ⟨k, hk, rfl, hno⟩ := hrel
    by_cases hlt : k < n
    · have hc := HC.out k hlt
      obtain ⟨l1, l2⟩ := HL.out k hlt
      obtain ⟨x, hx⟩ : ∃ x, x = V.getD k 0 := ⟨_, rfl⟩
      rw [← hx] at hc l1 l2
      have HX : Hid (x = V.getD k 0) := hx
      clear hx
      by_cases he : x = i
      · subst he
        go_wp2_with fail
        go_ret
        exact ⟨ret_bool (contains_true_of V x k (by rw [HN.out]; exact hlt) HX.out.symm).symm, rfl⟩
      · have heb : (x == i) = false := by simp [he]
        go_wp2_with fail
        go_round
        case rel =>
          refine ⟨k + 1, by omega, by go_num, fun j hj => ?_⟩
          by_cases hjk : j < k
          · exact hno.out j hjk
          · obtain rfl : j = k := by omega
            rw [← HX.out]; exact he
        case measure => simp [intOf]; omega
    · go_wp2_with fail
      go_ret
      exact ⟨ret_bool (contains_false_of V i (fun j hj => hno.out j (by rw [HN.out] at hj; omega))).symm, rfl⟩
end Go.Proofs.Ybulkajba
