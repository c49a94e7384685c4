import Derived.Test.YbulkajccApp
import Derived.Lib.AppendZeros
namespace Go.Proofs.Ybulkajcc
open Go.RowKit
set_option linter.unusedVariables false

theorem Yba.info5 : (Yba.prog.info? 5).map (fun i => (i.zero, i.size, i.bytes)) = some (some (.int .u8 0), 1, 1) := by kernel_rfl

theorem grow_any (n : Nat) (w : World) (h0 : 0 < n) (h : n ≤ 10000000) : Calls Yba.prog 14 #[.slice none 0 0, .int .i64 n] w fun e w' => ∃ g cap, e = .returned (.slice (some ⟨g, 0, none⟩) 0 cap) ∧ w'.ownsRow w.heap.size 5 1 (.slice (some ⟨g, 0, none⟩) 0 cap) 0 [] ∧ Kept (fun _ => False) w w' := by
  have h0' : (0 : Int) < (n : Int) := by omega
  obtain ⟨i5, h5, z0, z1, z2⟩ := info_parts Yba.info5
  have hu23 := Yba.underlying23
  have hu3 := Yba.underlying3
  have hu5 := Yba.underlying5
  go_enter Yba.func14, Yba.ntmps14
  go_wp2_with (at_builtin; refine Lib.wpList_append_run _ rfl _ _ _ _ rfl _ _ rfl rfl _ _ (Lib.run_append_nil_zeros _ _ _ _ 5 i5 (.int .u8 0) .i64 .i64 (by assumption) (by assumption) h5 z0 n h0 (by rw [z1]; omega) (by omega) (by rw [z2]; omega)) ?_)
  go_ret
  have hge := grownCap_ge w n 0 5
  have hle := grownCap_le_maxLen w n 0 5 (by unfold maxLen; omega)
  refine ⟨w.heap.size, grownCap w n 0 5, rfl, ⟨by simp, .inr ⟨w.heap.size, grownCap w n 0 5, _, rfl, Nat.le_refl _, heap_alloc_new w _, Nat.zero_le _, hle, ?_, by simp⟩⟩, ((Kept.refl _ w).alloc _).drew⟩
  simp [size_zeroCells]
  omega
end Go.Proofs.Ybulkajcc
