import Derived.Test.YbulkaizkRPut
namespace Go.Proofs.YbulkaizkR
open Go.RowKit

theorem cells3 {w : World} {b : Nat} {x y z : Value} {t : TypeId} (h : w.heap[b]? = some (.cells #[x, y, z] t (0, 0))) :
    w.cell? ⟨b, 0, none⟩ = some x ∧ w.cell? ⟨b, 1, none⟩ = some y ∧ w.cell? ⟨b, 2, none⟩ = some z ∧ w.frozen? ⟨b, 0, none⟩ = false ∧ w.frozen? ⟨b, 1, none⟩ = false ∧ w.frozen? ⟨b, 2, none⟩ = false ∧ b < w.heap.size :=
  ⟨by rw [cell_of_row w b 0 _ t _ h]; rfl, by rw [cell_of_row w b 1 _ t _ h]; rfl, by rw [cell_of_row w b 2 _ t _ h]; rfl, frozen_of_row w b 0 _ t h, frozen_of_row w b 1 _ t h, frozen_of_row w b 2 _ t h, lt_of_block h⟩

set_option maxHeartbeats 400000 in
theorem basic_any (t v : Int) (w : World) (h0 : 0 ≤ v) (h1 : v ≤ 65535) :
    Calls Yba.prog 6 #[.int .u16 t, .int .u16 v] w fun e w' => ∃ g cap, e = .returned (.agg #[.int .u16 t, .bool true, .slice (some ⟨g, 0, none⟩) 2 cap]) ∧
      w'.ownsRow w.heap.size 5 1 (.slice (some ⟨g, 0, none⟩) 2 cap) 2 [.int .u8 (v / 256), .int .u8 (v % 256)] ∧ Below w.heap.size w w' := by
  go_enter Yba.func6, Yba.ntmps6
  go_wp2_with (go_at_call 8; refine (be_any (w.heap.size + 1) 0 v _ [] _ h0 h1 (World.ownsRow_nil _ _ _ _) (by simp) (by omega)).mono ?_; rintro e w1 ⟨g, cap, rfl, hown, hgrow⟩; obtain ⟨hc0, hc1, hc2, hf0, hf1, hf2, hlt⟩ := cells3 ((hgrow.block w.heap.size (by simp) (by simp [Value.ownBlock])).trans (heap_alloc_new w _)); have HB : Hid (Below w.heap.size w w1) := (((Below.refl _ w).alloc (Nat.le_refl _) _).grown hgrow (by simp) (by simp [Value.ownBlock])); clear hgrow)
  refine bodyPost_ret (v := .agg #[.int .u16 t, .bool true, .slice (some ⟨g, 0, none⟩) 2 cap]) (by simp [results, Yba.results6, go_sem, hc0, hc1, hc2]) rfl ⟨g, cap, rfl, ?_, ?_⟩
  · exact ownsRow_mono (ownsRow_setCell_below (ownsRow_setCell_below (ownsRow_setCell_below hown (by simp) _) (by simp) _) (by simp) _) (Nat.le_succ _)
  · exact ((HB.out.setCell (by simp) _).setCell (by simp) _).setCell (by simp) _
end Go.Proofs.YbulkaizkR
