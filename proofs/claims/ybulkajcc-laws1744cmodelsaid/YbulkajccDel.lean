import Derived.Test.YbulkajccMem
import Derived.Test.YbulkajccShelf
import Derived.WalkLawsBesides
namespace Go.Proofs.Ybulkajcc
open Go.RowKit Go.Lib Go.Sort Go.Shelf
set_option linter.unusedVariables false

/-- A slice's three words. -/
def encS (x : Option Addr × Nat × Nat) : Value := .slice x.1 x.2.1 x.2.2
def isNil (x : Option Addr × Nat × Nat) : Bool := x.1.isNone

theorem eqNil23 (a : Option Addr) (n c : Nat) (w : World) : (binOp .eql 23 (.slice a n c) (.slice none 0 0)).run Yba.prog w = .ok (.bool a.isNone) w := Lib.run_eql_slice_nil w 23 5 a n c 0 0 Yba.underlying23
theorem eqNil22 (a : Option Addr) (n c : Nat) (w : World) : (binOp .eql 22 (.slice a n c) (.slice none 0 0)).run Yba.prog w = .ok (.bool a.isNone) w := Lib.run_eql_slice_nil w 22 23 a n c 0 0 Yba.underlying22

theorem gives10 (x : Option Addr × Nat × Nat) (W : World) : FnGives Yba.prog 10 #[] #[encS x] (.bool (isNil x)) W := by
  show Calls Yba.prog 10 #[encS x] W _
  obtain ⟨a, n, c⟩ := x
  unfold encS isNil
  have h := eqNil23
  dsimp only
  go_enter Yba.func10, Yba.ntmps10
  go_wp2_with fail
  go_ret
  exact ⟨rfl, 0, rfl⟩

theorem del_any (blk cap : Nat) (ds : List (Option Addr × Nat × Nat)) (w : World) (hr : rowIs w blk 23 (ds.map encS)) (hl : ds.length ≤ 1024) (hc : ds.length ≤ cap) :
    Calls Yba.prog 9 #[.slice (some ⟨blk, 0, none⟩) ds.length cap, .func (.func 10) #[] #[]] w fun e w' => e = .returned (.slice (some ⟨blk, 0, none⟩) (ds.filter fun x => !isNil x).length cap) ∧
      (∀ i x, (ds.filter fun x => !isNil x)[i]? = some x → w'.cell? ⟨blk, i, none⟩ = some (encS x)) ∧ Kept (fun k => k = blk) w w' := by
  have eg : ∀ args w, (callFunc 10 args).run Yba.prog w = .ok (.enter 10 args) w := enters_of Yba.func10 (by kernel_rfl) rfl
  have hH : Holds encS w blk 0 ds.toArray := fun j hj => by
    have hj' : j < ds.length := by simpa using hj
    refine ⟨?_, by rw [Nat.zero_add]; exact hr.free j⟩
    rw [Nat.zero_add, hr.cell, List.getElem?_map, List.getElem?_eq_getElem hj']
    simp [getElem!_pos, hj']
  have hcon := AnyE.slices_DeleteFunc Yba.laysDel encS (fun _ => rfl) isNil 10 #[] eg (none, 0, 0) Yba.zeroValue23 blk 0 cap ds.toArray w (fun W x _ => gives10 x W) (fun n os dk x _ => gives10 x _) hH (by simp; omega) (by simpa using hc)
  change Calls Yba.prog 9 _ _ _ at hcon
  simp only [List.size_toArray] at hcon
  refine hcon.mono ?_
  rintro e w' ⟨rfl, q, rfl⟩
  have hle : (ds.filter fun x => !isNil x).length ≤ ds.length := List.length_filter_le _ _
  generalize (ds.filter fun x => !isNil x) = ks at *
  refine ⟨rfl, fun i x hx => ?_, ?_⟩
  · have hi : i < ks.length := (List.getElem?_eq_some_iff.1 hx).1
    have hh := holds_putRow encS (Sort.ahead w q) blk 0 ds.toArray (ks ++ List.replicate (ds.length - ks.length) (none, 0, 0)).toArray (holds_ahead encS w q blk 0 ds.toArray hH) (by simp; omega) i (by simp; omega)
    rw [Nat.zero_add] at hh
    rw [hh.1]
    have hi2 : i < (ks ++ List.replicate (ds.length - ks.length) ((none, 0, 0) : Option Addr × Nat × Nat)).toArray.size := by simp; omega
    rw [getElem!_pos _ i hi2]
    simp only [List.getElem_toArray, List.getElem_append_left hi, (List.getElem?_eq_some_iff.1 hx).2]
  · refine ⟨rfl, rfl, rfl, by rw [size_putRow]; exact Nat.le_refl _, fun k hk hn => ?_⟩
    show (mapBlock _ _ _).heap[k]? = _
    unfold mapBlock
    simp only [Array.getElem?_modify]
    rw [if_neg (fun e => hn e.symm)]
    rfl
end Go.Proofs.Ybulkajcc
