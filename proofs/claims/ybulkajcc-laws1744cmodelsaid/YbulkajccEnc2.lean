import Derived.Test.YbulkajccSingle
namespace Go.Proofs.Ybulkajcc
open Go.RowKit
open Go.Lib (HoldsBytes PartsAt)
set_option linter.unusedVariables false

theorem enc_none (blk cap : Nat) (ps : List ((Option Addr × Nat × Nat) × List UInt8)) (w : World) (hr : rowIs w blk 23 ((ps.map (·.1)).map encS)) (hl : ps.length ≤ 1024) (hc : ps.length ≤ cap) (hk : keep ps = []) :
    Calls Yba.prog 6 #[.slice (some ⟨blk, 0, none⟩) ps.length cap] w fun e w' => e = .returned (.slice none 0 0) ∧ Kept (fun k => k = blk) w w' := by
  have hd := del_any blk cap (ps.map (·.1)) w hr (by simpa using hl) (by simpa using hc)
  rw [List.length_map, keep_map, List.length_map, hk] at hd
  have HD := (show Hid (Calls _ _ _ _ _) from hd)
  clear hd hr hk
  generalize ps.length = n at *
  go_enter Yba.func6, Yba.ntmps6
  go_wp2_with fail
  refine HD.out.mono ?_
  rintro e w1 ⟨rfl, hc1, hk1⟩
  have HK1 := (show Hid (Kept _ _ _) from hk1)
  clear HD hc1 hk1
  simp only [List.length_nil]
  go_wp2_with fail
  go_ret
  exact ⟨rfl, HK1.out⟩

theorem idx_nil (w : World) (f : Value) : Calls Yba.prog 13 #[.slice none 0 0, f] w fun e w' => e = .returned (.int .i64 (-1)) ∧ w' = w := by
  go_enter Yba.func13, Yba.ntmps13
  go_wp2_with fail
  refine wp_loop_rounds 1 ?_
  rw [rounds_succ]
  go_wp2_with fail
  go_ret
  exact ⟨rfl, rfl⟩

theorem del_nil (w : World) (f : Value) : Calls Yba.prog 9 #[.slice none 0 0, f] w fun e w' => e = .returned (.slice none 0 0) ∧ w' = w := by
  go_enter Yba.func9, Yba.ntmps9
  go_wp2_with fail
  refine (idx_nil w f).mono ?_
  rintro e w1 ⟨rfl, rfl⟩
  go_wp2_with fail
  go_ret
  exact ⟨rfl, rfl⟩

theorem enc_nil (w : World) : Calls Yba.prog 6 #[.slice none 0 0] w fun e w' => e = .returned (.slice none 0 0) ∧ w' = w := by
  go_enter Yba.func6, Yba.ntmps6
  go_wp2_with fail
  refine (del_nil w _).mono ?_
  rintro e w1 ⟨rfl, rfl⟩
  go_wp2_with fail
  go_ret
  exact ⟨rfl, rfl⟩

/-- What is left, as bytes. -/
def keepL (ps : List ((Option Addr × Nat × Nat) × List UInt8)) : List (List UInt8) := (keep ps).map (·.2)
/-- An answer as far as its bytes go. -/
def sig (p : (Option Addr × Nat × Nat) × List UInt8) : Bool × List UInt8 := (isNil p.1, p.2)
theorem keepL_sig (ps : List ((Option Addr × Nat × Nat) × List UInt8)) : keepL ps = ((ps.map sig).filter fun q => !q.1).map (·.2) := by
  unfold keepL keep
  rw [List.filter_map, List.map_map]; rfl
theorem keepL_nil (ps : List ((Option Addr × Nat × Nat) × List UInt8)) : keepL ps = [] ↔ keep ps = [] := by unfold keepL; simp
theorem keepL_snoc (ps : List ((Option Addr × Nat × Nat) × List UInt8)) (k : Nat) (h : k < ps.length) : keepL (ps.take (k + 1)) = keepL (ps.take k) ++ if isNil ps[k].1 then [] else [ps[k].2] := by
  unfold keepL keep
  rw [List.take_succ_eq_append_getElem h, List.filter_append, List.map_append]
  cases hn : isNil ps[k].1 <;> simp [hn]

/-- The model's buffer. -/
def pre (ls : List (List UInt8)) : List UInt8 := if ls = [] then [] else 91 :: Lib.join ls [44]
theorem pre_nil : pre [] = [] := rfl
theorem pre_one (l : List UInt8) : pre ([] ++ [l]) = [91] ++ l := by simp [pre, Lib.join_one]
theorem pre_snoc (ls : List (List UInt8)) (l : List UInt8) (h : ls ≠ []) : pre (ls ++ [l]) = pre ls ++ [44] ++ l := by
  cases ls with
  | nil => exact absurd rfl h
  | cons x r =>
    simp only [pre, List.cons_append, reduceCtorEq, if_false, Lib.join_cons, Lib.joinTail, List.map_append, List.flatten_append, List.map_cons, List.map_nil, List.flatten_cons, List.flatten_nil]
    simp
theorem pre_enc (ls : List (List UInt8)) (h : ls ≠ []) : pre ls ++ [93] = enc ls := by
  simp [pre, enc, h]
theorem pre_le (ls : List (List UInt8)) (h : ∀ l ∈ ls, l.length ≤ 4096) : (pre ls).length ≤ 4097 * ls.length + 1 := by
  unfold pre
  split
  · simp
  · have := join_le ls h
    simp; omega
end Go.Proofs.Ybulkajcc
