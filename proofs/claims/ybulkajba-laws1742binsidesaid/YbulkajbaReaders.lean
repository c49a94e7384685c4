import Derived.Test.YbulkajbaMem
import Derived.Deep.QuietTactic
import Derived.BigQuiet
import Derived.Deep.RegionHeld3
namespace Go.Proofs.Ybulkajba
open Go.RowKit
set_option linter.unusedVariables false

set_option maxHeartbeats 400000 in
theorem readers_any (b o bB n x len c : Nat) (y : Option Addr) (w : World) (h : w.cell? ⟨b, o, none⟩ = some (.slice (some ⟨bB, 0, none⟩) n n)) (hx : x < n) (hn : n ≤ 2000)
    (hc : w.cell? ⟨bB, x, none⟩ = some (.slice y len c)) :
    Calls Yba.prog 12 #[.pointer (some ⟨b, o, none⟩), .int .i32 x] w fun e w' => e = .returned (.slice y len c) ∧ w' = w := by
  go_enter Yba.func12, Yba.ntmps12
  go_wp2_with fail
  go_ret
  exact ⟨rfl, rfl⟩

/-- Some write has more open intervals on its item than its own count. -/
def moreB (K : List Nat) (L : List (Nat × Int)) : Bool := L.any fun p => decide (p.2 < ((K.getD p.1 0 : Nat) : Int))

theorem moreB_take (K : List Nat) (L : List (Nat × Int)) (k : Nat) (h : k < L.length) : moreB K (L.take (k + 1)) = (moreB K (L.take k) || decide (L[k].2 < ((K.getD L[k].1 0 : Nat) : Int))) := by
  unfold moreB
  rw [List.take_succ_eq_append_getElem h, List.any_append]
  simp

theorem moreB_true_of (K : List Nat) (L : List (Nat × Int)) (k : Nat) (h : k < L.length) (hm : L[k].2 < ((K.getD L[k].1 0 : Nat) : Int)) : moreB K L = true := by
  unfold moreB
  rw [List.any_eq_true]
  exact ⟨L[k], List.getElem_mem h, decide_eq_true hm⟩

set_option maxHeartbeats 1000000 in
theorem inside_any (bS bC bI bB bw n m cap q : Nat) (K : List Nat) (L : List (Nat × Int)) (w : World) (hn : K.length = n) (hn2 : n ≤ 2000) (hm : L.length = m) (hm2 : m ≤ 1024) (hq : q < 2)
    (s0 : w.cell? ⟨bS, 0, none⟩ = some (.pointer (some ⟨bC, 0, none⟩))) (s3 : w.cell? ⟨bS, 3, none⟩ = some (.slice (some ⟨bB, 0, none⟩) n n))
    (c9 : w.cell? ⟨bC, 9, none⟩ = some (.slice (some ⟨bI, 0, none⟩) 2 2)) (hI : w.cell? ⟨bI, q * 3 + 2, none⟩ = some (.slice (some ⟨bw, 0, none⟩) m cap))
    (hB : ∀ j, j < n → ∃ y c, w.cell? ⟨bB, j, none⟩ = some (.slice y (K.getD j 0) c)) (hK : ∀ j, j < n → K.getD j 0 ≤ 10)
    (hW : ∀ j (h : j < L.length), w.cell? ⟨bw, j * 2, none⟩ = some (.int .i32 L[j].1) ∧ w.cell? ⟨bw, j * 2 + 1, none⟩ = some (.int .i32 L[j].2) ∧ L[j].1 < n) :
    Calls Yba.prog 9 #[.pointer (some ⟨bS, 0, none⟩), .int .i32 q] w fun e w' => e = .returned (.bool (moreB K L)) ∧ Below w.heap.size w w' := by
  have HB := (show Hid (∀ j, j < n → ∃ y c, w.cell? ⟨bB, j, none⟩ = some (.slice y (K.getD j 0) c)) from hB)
  have HK := (show Hid (∀ j, j < n → K.getD j 0 ≤ 10) from hK)
  have HW := (show Hid (∀ j (h : j < L.length), w.cell? ⟨bw, j * 2, none⟩ = some (.int .i32 L[j].1) ∧ w.cell? ⟨bw, j * 2 + 1, none⟩ = some (.int .i32 L[j].2) ∧ L[j].1 < n) from hW)
  have HM : Hid (L.length = m) := hm
  have lS : bS < w.heap.size := World.block_lt_of_cell? w _ s0
  clear hB hK hW hm hn
  go_enter Yba.func9, Yba.ntmps9
  go_wp2_with fail
  go_loopw [19] (fun i wr => ∃ k : Nat, k ≤ m ∧ i = .int .i64 k ∧ Hid (moreB K (L.take k) = false) ∧ Below w.heap.size w wr) (fun i _ => m - (intOf i).toNat)
  case atStart => exact ⟨0, Nat.zero_le _, rfl, rfl, Below.refl _ _⟩
  case round =>
    obtain ⟨k, hk, rfl, hno, hb⟩ := hrel
    by_cases hlt : k < m
    · have hlt' : k < L.length := by rw [HM.out]; exact hlt
      obtain ⟨w0, w1, l0⟩ := HW.out k hlt'
      have HT := (show Hid _ from moreB_take K L k hlt')
      have lw : bw < w.heap.size := World.block_lt_of_cell? w _ w0
      have hno' : moreB K (L.take (k + 1)) = decide (L[k].2 < ((K.getD L[k].1 0 : Nat) : Int)) := by rw [HT.out, hno.out]; rfl
      have HTR := (show Hid _ from moreB_true_of K L k hlt')
      obtain ⟨y, c, hy⟩ := HB.out L[k].1 l0
      have hk10 := HK.out L[k].1 l0
      have lB : bB < w.heap.size := World.block_lt_of_cell? w _ hy
      have HN := (show Hid _ from hno')
      clear hno' HT
      generalize K.getD L[k].1 0 = kx at *
      generalize L[k].1 = it at *
      generalize L[k].2 = ow at *
      have r0 := (hb.cell (p := ⟨bw, k * 2, none⟩) lw).trans w0
      have r1 := (hb.cell (p := ⟨bw, k * 2 + 1, none⟩) lw).trans w1
      have r2 := (hb.cell (p := ⟨bS, 3, none⟩) lS).trans s3
      have r3 := (hb.cell (p := ⟨bB, it, none⟩) lB).trans hy
      have hs := hb.size
      have HBL := (show Hid (Below _ _ _) from hb)
      have RD := fun (wx : World) (h1 : wx.cell? ⟨bS, 3, none⟩ = some (.slice (some ⟨bB, 0, none⟩) n n)) (h2 : wx.cell? ⟨bB, it, none⟩ = some (.slice y kx c)) => readers_any bS 3 bB n it kx c y wx h1 l0 hn2 h2
      have HRD := (show Hid _ from RD)
      have lw' : bw < wr.heap.size := by omega
      have lS' : bS < wr.heap.size := by omega
      have lB' : bB < wr.heap.size := by omega
      clear w0 w1 hy hb RD
      have A2 : Hid ((wr.alloc (Obj.cells #[Value.int IntKind.i32 it, Value.int IntKind.i32 ow] 100)).cell? ⟨bS, 3, none⟩ = some (.slice (some ⟨bB, 0, none⟩) n n)) := (((Kept.refl (fun _ => False) wr).alloc _).cell (p := ⟨bS, 3, none⟩) lS' id).trans r2
      have A3 : Hid ((wr.alloc (Obj.cells #[Value.int IntKind.i32 it, Value.int IntKind.i32 ow] 100)).cell? ⟨bB, it, none⟩ = some (.slice y kx c)) := (((Kept.refl (fun _ => False) wr).alloc _).cell (p := ⟨bB, it, none⟩) lB' id).trans r3
      by_cases hgt : ow < (kx : Int)
      · go_wp2_with fail
        go_quiet ((go_at_call 12; exact Calls.quiet_of_same (HRD.out _ A2.out A3.out)))
        go_wp2_with fail
        go_ret
        exact ⟨ret_bool (HTR.out hgt).symm, below_drewN (HBL.out.alloc hs _) _⟩
      · have hgf : decide (ow < (kx : Int)) = false := by simpa using hgt
        have HGF := (show Hid _ from hgf)
        clear hgf
        go_wp2_with fail
        go_quiet ((go_at_call 12; exact Calls.quiet_of_same (HRD.out _ A2.out A3.out)))
        go_wp2_with fail
        go_roundw
        case rel =>
          exact ⟨k + 1, by omega, by go_num, HN.out.trans HGF.out, below_drewN (HBL.out.alloc hs _) _⟩
        case measure => simp [intOf]; omega
    · obtain rfl : k = m := by omega
      have HBL := (show Hid (Below _ _ _) from hb)
      clear hb
      go_wp2_with fail
      go_ret
      refine ⟨?_, HBL.out⟩
      have := hno.out
      rw [List.take_of_length_le (by rw [HM.out]; exact Nat.le_refl _)] at this
      exact ret_bool this.symm
end Go.Proofs.Ybulkajba
