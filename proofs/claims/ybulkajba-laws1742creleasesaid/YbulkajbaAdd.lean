import Derived.Test.YbulkajbaMem
import Derived.Test.YbulkajbaPlainC
import Derived.Deep.QuietTactic
import Derived.BigQuiet
import Derived.Deep.RegionHeld3
import Derived.Laws.BitsAllLaws
namespace Go.Proofs.Ybulkajba
open Go.RowKit
set_option linter.unusedVariables false

theorem shl_u64 (i : Nat) (h : i < 64) : IntKind.u64.wrap (2 ^ i) = ((2 ^ i : Nat) : Int) := by
  rw [IntKind.wrap_u64]
  have : (2 : Nat) ^ i < 2 ^ 64 := Nat.pow_lt_pow_right (by omega) h
  have e : ((2 : Int) ^ i) = ((2 ^ i : Nat) : Int) := by simp
  rw [e]
  generalize 2 ^ i = y at *
  omega

theorem or_lt (R i : Nat) (hR : R < 18446744073709551616) (h : i < 64) : R ||| 2 ^ i < 18446744073709551616 := by
  have : (2 : Nat) ^ i < 2 ^ 64 := Nat.pow_lt_pow_right (by omega) h
  have := Nat.or_lt_two_pow (x := R) (y := 2 ^ i) (n := 64) (by omega) this
  omega

set_option maxHeartbeats 1000000 in
theorem add_any (b o bV bR i R : Nat) (w : World) (hi : i < 10) (hR : R < 18446744073709551616) (h1 : w.cell? ⟨b, o, none⟩ = some (.slice (some ⟨bV, 0, none⟩) 1 1)) (h2 : w.cell? ⟨bV, 0, none⟩ = some (.slice (some ⟨bR, 0, none⟩) 1 1))
    (h3 : rowIs w bR 26 [.int .u64 R]) :
    Calls Yba.prog 14 #[.pointer (some ⟨b, o, none⟩), .int .i64 i] w fun e w' => e = .returned (.tuple #[]) ∧ rowIs w' bR 26 [.int .u64 ((R ||| 2 ^ i : Nat) : Int)] ∧ Kept (fun k => k = bR) w w' := by
  have c3 := h3.cell 0
  have f3 := h3.free 0
  have HR := (show Hid (rowIs _ _ _ _) from h3)
  simp only [List.getElem?_cons_zero] at c3
  have hq : (i : Int) / 64 = 0 := by omega
  have hr : (i : Int) % 64 = (i : Int) := by omega
  have hr' : (i : Int).tmod 64 = (i : Int) := by rw [Int.tmod_eq_emod_of_nonneg (by omega)]; exact hr
  have hi0 : (0 : Int) ≤ (i : Int) := by omega
  have hi1 : (i : Int) ≤ 64 := by omega
  clear h3
  have HV : Hid (bits BinOp.or IntKind.u64 (R : Int) (IntKind.u64.wrap (2 ^ i)) = ((R ||| 2 ^ i : Nat) : Int)) := by
    show _ = _
    rw [shl_u64 i (by omega), u64_or_nat R (2 ^ i) hR (by have : (2 : Nat) ^ i < 2 ^ 64 := Nat.pow_lt_pow_right (by omega) (by omega); omega)]
  cases hb : ((R : Int) != 0) with
  | true =>
    go_enter Yba.func14, Yba.ntmps14
    go_wp2_with fail
    refine wp_loop_rounds 2 ?_
    rw [rounds_succ]
    go_wp2_with fail
    go_region
    go_wp2_with fail
    refine bodyPost_ret (v := .tuple #[]) (by simp [results, Yba.results14]) rfl ?_
    rw [HV.out]
    exact ⟨rfl, HR.out.set 0 _, ((Kept.refl (fun k => k = bR) w).setCell (p := ⟨bR, 0, none⟩) (fun _ => rfl) _).drew⟩
  | false =>
    go_enter Yba.func14, Yba.ntmps14
    go_wp2_with fail
    refine wp_loop_rounds 2 ?_
    rw [rounds_succ]
    go_wp2_with fail
    go_region
    go_wp2_with fail
    rw [rounds_succ]
    go_wp2_with fail
    go_end0
    rw [HV.out]
    exact ⟨rfl, HR.out.set 0 _, ((Kept.refl (fun k => k = bR) w).setCell (p := ⟨bR, 0, none⟩) (fun _ => rfl) _).drew⟩
end Go.Proofs.Ybulkajba
