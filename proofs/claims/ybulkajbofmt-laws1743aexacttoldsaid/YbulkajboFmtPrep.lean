/- The walks of zzs1743acrashed, zzs1743abuild, NewDetectorSchedule, zzs1743aschedule. -/
import Derived.Test.YbulkajboFmtApart
import Derived.Test.YbulkajboFmtCrash
namespace Go.Proofs.YbulkajboFmt
open Go.RowKit
set_option linter.unusedVariables false
attribute [local go_sem ↓] Go.wp_at_zero Go.wp_at_succ

theorem Ybaf.info4 : (Ybaf.prog.info? 4).map (fun i => (i.zero, i.size, i.bytes)) = some (some (.bool false), 1, 1) := by kernel_rfl
theorem made_bools (n : Nat) : (madeCells (Value.bool false).cells (n * 1)).toList = (List.replicate n false).map Value.bool := by
  rw [show (Value.bool false).cells = #[Value.bool false] from rfl, toList_madeCells_one]; simp

/-- Whether process p crashes, by what came in. -/
def crOf (C : List Bool) (p : Nat) : Bool := C.getD p false

/-- What is known of a slice of bools that came in. -/
def boolsIn (w : World) (al : Option Addr) (C : List Bool) : Prop := ∀ t (h : t < C.length), ∃ b off, al = some ⟨b, off, none⟩ ∧ b < w.heap.size ∧ w.cell? ⟨b, off + t, none⟩ = some (.bool C[t])

set_option maxRecDepth 100000 in
set_option maxHeartbeats 4000000 in
theorem crashed_any (n : Nat) (al : Option Addr) (cap : Nat) (C : List Bool) (h1 : 1 ≤ n) (h9 : n ≤ 9) (hC : C.length ≤ 1024) (w : World) (hin : boolsIn w al C) :
    Calls Ybaf.prog 5 #[.int .i64 n, .slice al C.length cap] w fun e w' => e = .returned (.slice (some ⟨w.heap.size, 0, none⟩) n n) ∧ rowIs w' w.heap.size 4 (((List.range n).map (crOf C)).map Value.bool) ∧ Kept (fun _ => False) w w' := by
  obtain ⟨i0, hi, hz0, hz1, hz2⟩ := info_parts Ybaf.info4
  have hu22 := Ybaf.underlying22
  have HIN := (show Hid (boolsIn _ _ _) from hin)
  clear hin
  go_enter Ybaf.func5, Ybaf.ntmps5
  go_wp2_with (at_make; refine wpList_make_full _ rfl _ _ 22 rfl w.heap.size 4 i0 (.bool false) 1 hu22 hi hz0 hz1 .i64 .i64 _ _ n rfl rfl rfl rfl (by rw [hz2]; omega) (by unfold maxLen; omega) (Nat.le_refl _) ?_; intro w1 hown1 hgrow1; have HO1 := (show Hid (rowIs w1 w.heap.size 4 ((List.replicate n false).map Value.bool)) from by rw [← made_bools]; exact owned_whole hown1); have HK1 := (show Hid (Kept (fun _ => False) w w1) from (Kept.ofGrown hgrow1).mono (fun _ _ h => by simp at h)); clear hown1 hgrow1)
  go_loopw [6] (fun q wr => ∃ p : Nat, p ≤ n ∧ q = .int .i64 p ∧ rowIs wr w.heap.size 4 (((List.range n).map (fun x => if x < p then crOf C x else false)).map Value.bool) ∧ Kept (fun _ => False) w wr) (fun q _ => n - (intOf q).toNat)
  case atStart =>
    refine ⟨0, by omega, rfl, ?_, HK1.out⟩
    have e : (List.range n).map (fun x => if x < 0 then crOf C x else false) = List.replicate n false := by
      apply List.ext_getElem <;> simp
    rw [e]; exact HO1.out
  case round =>
    clear HO1 HK1
    obtain ⟨p, hp, rfl, hrow, hkp⟩ := hrel
    have HR := (show Hid (rowIs _ _ _ _) from hrow)
    have HP := (show Hid (Kept _ _ _) from hkp)
    by_cases hpn : p < n
    · have f0 := hrow.free p
      obtain ⟨ob, hob⟩ : ∃ ob : Bool, wr.cell? ⟨w.heap.size, p, none⟩ = some (.bool ob) := ⟨false, by rw [hrow.cell]; simp [hpn]⟩
      have step : ∀ b, b = crOf C p → ((List.range n).map (fun x => if x < p then crOf C x else false)).set p b = (List.range n).map (fun x => if x < p + 1 then crOf C x else false) := by
        intro b hb
        apply List.ext_getElem
        · simp
        · intro i h1' h2'
          simp only [List.getElem_set, List.getElem_map, List.getElem_range]
          by_cases e : p = i
          · subst e; simp [hb]
          · rw [if_neg e]
            by_cases h : i < p
            · simp [h, show i < p + 1 by omega]
            · simp [h, show ¬ i < p + 1 by omega]
      have STEP := (show Hid (∀ b, _ → _) from step)
      clear hrow hkp step
      by_cases hlt : p < C.length
      · obtain ⟨b, off, rfl, hb, c0⟩ := HIN.out p hlt
        have c1 := (HP.out.cell (p := ⟨b, off + p, none⟩) hb (by simp)).trans c0
        have HC := (show Hid (C[p] = crOf C p) from (show C[p] = crOf C p by unfold crOf; rw [List.getD_eq_getElem?_getD, List.getElem?_eq_getElem hlt]; rfl))
        clear c0
        generalize C[p] = cb at *
        have hd : decide ((p : Int) < (C.length : Int)) = true := by simp; omega
        have hd2 : decide (p < C.length) = true := by simpa using hlt
        go_wp2_with fail
        go_roundw
        case rel =>
          refine ⟨p + 1, by omega, by go_num, ?_, HP.out.setCell (p := ⟨w.heap.size, p, none⟩) (fun h => absurd h (by simp)) _⟩
          rw [← STEP.out cb HC.out, List.map_set]
          exact HR.out.set p _
        case measure => go_light; simp [intOf]; omega
      · have hd : decide ((p : Int) < (C.length : Int)) = false := by simp; omega
        have hd2 : decide (p < C.length) = false := by simpa using hlt
        have HC := (show Hid (false = crOf C p) from (show false = crOf C p by unfold crOf; rw [List.getD_eq_getElem?_getD, List.getElem?_eq_none (by omega)]; rfl))
        go_wp2_with fail
        go_roundw
        case rel =>
          refine ⟨p + 1, by omega, by go_num, ?_, HP.out.setCell (p := ⟨w.heap.size, p, none⟩) (fun h => absurd h (by simp)) _⟩
          rw [← STEP.out false HC.out, List.map_set]
          exact HR.out.set p _
        case measure => go_light; simp [intOf]; omega
    · obtain rfl : p = n := by omega
      clear hrow hkp
      go_wp2_with fail
      go_ret
      refine ⟨rfl, ?_, HP.out⟩
      have := HR.out
      have e : (List.range p).map (fun x => if x < p then crOf C x else false) = (List.range p).map (crOf C) := by
        apply List.map_congr_left
        intro x hx
        rw [if_pos (List.mem_range.1 hx)]
      rw [e] at this
      exact this
end Go.Proofs.YbulkajboFmt
