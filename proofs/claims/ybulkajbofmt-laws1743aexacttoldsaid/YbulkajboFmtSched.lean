/- The walks of newEventSchedule, NewDetectorSchedule, zzs1743aschedule. -/
import Derived.Test.YbulkajboFmtPrep
namespace Go.Proofs.YbulkajboFmt
open Go.RowKit
set_option linter.unusedVariables false
attribute [local go_sem ↓] Go.wp_at_zero Go.wp_at_succ

theorem Ybaf.info39 : (Ybaf.prog.info? 39).map (fun i => (i.zero, i.size, i.bytes)) = some (some (.pointer none), 1, 8) := by kernel_rfl
theorem made_ptrs (n : Nat) : (madeCells (Value.pointer none).cells (n * 1)).toList = List.replicate n (Value.pointer none) := by
  rw [show (Value.pointer none).cells = #[Value.pointer none] from rfl, toList_madeCells_one]; simp

set_option maxRecDepth 100000 in
set_option maxHeartbeats 4000000 in
theorem newEvent_any (n : Nat) (h1 : 1 ≤ n) (h9 : n ≤ 9) (w : World) :
    Calls Ybaf.prog 24 #[.int .i64 n] w fun e w' => ∃ bC b1 b2, e = .returned (.agg #[.int .i64 n, .slice (some ⟨bC, 0, none⟩) n n, .map (some b1), .map (some b2)]) ∧ w.heap.size ≤ bC ∧ rowIs w' bC 39 (List.replicate n (Value.pointer none)) ∧ Kept (fun _ => False) w w' := by
  obtain ⟨i0, hi, hz0, hz1, hz2⟩ := info_parts Ybaf.info39
  have hu44 := Ybaf.underlying44
  have hmm := @run_makeMap Ybaf.prog
  go_enter Ybaf.func24, Ybaf.ntmps24
  go_wp2_with (at_make; refine wpList_make_full _ rfl _ _ 44 rfl w.heap.size 39 i0 (.pointer none) 1 hu44 hi hz0 hz1 .i64 .i64 _ _ n rfl rfl rfl rfl (by rw [hz2]; omega) (by unfold maxLen; omega) (by simp) ?_; intro w1 hown1 hgrow1; have R0 := (rowIs_new w [Value.int IntKind.i64 0, Value.slice none 0 0, Value.map none, Value.map none] 48).grown hgrow1 (by simp); have hl := R0.lt; have f0 := R0.free 0; have f1 := R0.free 1; have f2 := R0.free 2; have f3 := R0.free 3; have c0 : w1.cell? ⟨w.heap.size, 0, none⟩ = some (.int .i64 0) := (by rw [R0.cell]; rfl); have c1 : w1.cell? ⟨w.heap.size, 1, none⟩ = some (.slice none 0 0) := (by rw [R0.cell]; rfl); have c2 : w1.cell? ⟨w.heap.size, 2, none⟩ = some (.map none) := (by rw [R0.cell]; rfl); have c3 : w1.cell? ⟨w.heap.size, 3, none⟩ = some (.map none) := (by rw [R0.cell]; rfl); have HO := (show Hid (World.ownsRow _ _ _ _ _ _ _) from hown1); have HG := (show Hid (World.grownBy _ _ _) from hgrow1); clear hown1 hgrow1 R0)
  refine bodyPost_ret (v := .agg #[.int .i64 n, .slice (some ⟨w.heap.size + 1, 0, none⟩) n n, .map (some w1.heap.size), .map (some (w1.heap.size + 1))]) (by simp [results, Ybaf.results24]; go_simp) rfl ?_
  refine ⟨_, _, _, rfl, by omega, ?_, ?_⟩
  · have r := owned_whole HO.out
    rw [made_ptrs, World.size_alloc] at r
    exact (((((r.other (p := ⟨w.heap.size, 0, none⟩) (by simp) _).other (p := ⟨w.heap.size, 1, none⟩) (by simp) _).other (p := ⟨w.heap.size, 2, none⟩) (by simp) _).other (p := ⟨w.heap.size, 3, none⟩) (by simp) _).alloc _).alloc _
  · have k0 : Kept (fun _ => False) w w1 := ((Kept.refl (fun _ => False) w).alloc _).grown HG.out (fun k e _ => by simp at e)
    exact (((((k0.setCell (p := ⟨w.heap.size, 0, none⟩) (fun h => absurd h (by simp)) _).setCell (p := ⟨w.heap.size, 1, none⟩) (fun h => absurd h (by simp)) _).setCell (p := ⟨w.heap.size, 2, none⟩) (fun h => absurd h (by simp)) _).setCell (p := ⟨w.heap.size, 3, none⟩) (fun h => absurd h (by simp)) _).alloc _).alloc _

set_option maxRecDepth 100000 in
set_option maxHeartbeats 1000000 in
theorem newDet_any (n : Nat) (h1 : 1 ≤ n) (h9 : n ≤ 9) (w : World) :
    Calls Ybaf.prog 10 #[.int .i64 n] w fun e w' => ∃ bS bC b1 b2, e = .returned (.pointer (some ⟨bS, 0, none⟩)) ∧ w.heap.size ≤ bC ∧ w.heap.size ≤ bS ∧ bC ≠ bS ∧ rowIs w' bC 39 (List.replicate n (Value.pointer none)) ∧
      rowIs w' bS 51 [.int .i64 n, .slice (some ⟨bC, 0, none⟩) n n, .map (some b1), .map (some b2), .slice none 0 0, .slice none 0 0] ∧ Kept (fun _ => False) w w' := by
  go_enter Ybaf.func10, Ybaf.ntmps10
  go_wp2_with (go_at_call 24; refine Calls.mono (newEvent_any n h1 h9 _) ?_; rintro e w1 ⟨bC, b1, b2, rfl, hC, hr, hk⟩; have HR := (show Hid (rowIs _ _ _ _) from hr); have HK := (show Hid (Kept _ _ _) from hk); clear hr hk)
  go_ret
  have hlt := HR.out.lt
  have hs := HK.out.size
  exact ⟨w1.heap.size, bC, b1, b2, rfl, hC, hs, by omega, HR.out.alloc _, rowIs_new _ _ _, HK.out.alloc _⟩

/-- A schedule of n processes of which those crash that cr names. -/
def schedAt (w : World) (bS bC n : Nat) (cr : Nat → Bool) : Prop := w.cell? ⟨bS, 0, none⟩ = some (.int .i64 n) ∧ w.cell? ⟨bS, 1, none⟩ = some (.slice (some ⟨bC, 0, none⟩) n n) ∧ crashAt w bC n cr

def crashTo (w1 wr : World) (bC n p : Nat) (cr : Nat → Bool) : Prop := ∃ X : List Value, rowIs wr bC 39 X ∧ X.length = n ∧ ∀ x, x < n →
  (x < p ∧ cr x = true ∧ ∃ g m, X[x]? = some (.pointer (some ⟨g, 0, none⟩)) ∧ w1.heap.size ≤ g ∧ g < wr.heap.size ∧ wr.cell? ⟨g, 0, none⟩ = some (.int .i64 1) ∧ wr.cell? ⟨g, 1, none⟩ = some (.map (some m))) ∨
  (¬ (x < p ∧ cr x = true) ∧ X[x]? = some (.pointer none))
theorem crashTo.skip {w1 wr : World} {bC n p : Nat} {cr : Nat → Bool} (h : crashTo w1 wr bC n p cr) (hc : cr p = false) : crashTo w1 wr bC n (p + 1) cr := by
  obtain ⟨X, h1, h2, h3⟩ := h
  refine ⟨X, h1, h2, fun x hx => ?_⟩
  rcases h3 x hx with ⟨a, b, c⟩ | ⟨a, b⟩
  · exact .inl ⟨by omega, b, c⟩
  · refine .inr ⟨fun ⟨e1, e2⟩ => a ⟨?_, e2⟩, b⟩
    rcases Nat.lt_or_ge x p with h | h
    · exact h
    · rw [show x = p by omega, hc] at e2; cases e2
theorem crashTo.step {w1 wr : World} {bC n p : Nat} {cr : Nat → Bool} (h : crashTo w1 wr bC n p cr) (hp : p < n) (hc : cr p = true) (hb : bC < w1.heap.size) (hw : w1.heap.size ≤ wr.heap.size) (o : Obj) (m : Nat) :
    crashTo w1 (((wr.setCell ⟨bC, p, none⟩ (.pointer (some ⟨wr.heap.size + 1, 0, none⟩))).alloc o).alloc (.cells #[.int .i64 1, .map (some m)] 42)) bC n (p + 1) cr := by
  obtain ⟨X, h1, h2, h3⟩ := h
  have hsz : (wr.setCell ⟨bC, p, none⟩ (.pointer (some ⟨wr.heap.size + 1, 0, none⟩))).heap.size = wr.heap.size := by simp [World.setCell]
  have r1 := ((h1.set p (.pointer (some ⟨wr.heap.size + 1, 0, none⟩))).alloc o).alloc (.cells #[.int .i64 1, .map (some m)] 42)
  have r2 := rowIs_new ((wr.setCell ⟨bC, p, none⟩ (.pointer (some ⟨wr.heap.size + 1, 0, none⟩))).alloc o) [.int .i64 1, .map (some m)] 42
  rw [World.size_alloc, hsz] at r2
  have kk : Kept (fun j => j = bC) wr (((wr.setCell ⟨bC, p, none⟩ (.pointer (some ⟨wr.heap.size + 1, 0, none⟩))).alloc o).alloc (.cells #[.int .i64 1, .map (some m)] 42)) := (((Kept.refl (fun j => j = bC) wr).setCell (p := ⟨bC, p, none⟩) (fun _ => rfl) _).alloc _).alloc _
  refine ⟨_, r1, by simp [h2], fun x hx => ?_⟩
  by_cases e : x = p
  · subst e
    exact .inl ⟨by omega, hc, wr.heap.size + 1, m, by simp [h2, hp], by omega, r2.lt, by rw [r2.cell]; rfl, by rw [r2.cell]; rfl⟩
  · rw [List.getElem?_set_ne (fun e' => e e'.symm)]
    rcases h3 x hx with ⟨a, b, g, m', c1, c2, c3, c4, c5⟩ | ⟨a, b⟩
    · exact .inl ⟨by omega, b, g, m', c1, c2, Nat.lt_of_lt_of_le c3 kk.size, (kk.cell (p := ⟨g, 0, none⟩) c3 (show ¬ g = bC by omega)).trans c4, (kk.cell (p := ⟨g, 1, none⟩) c3 (show ¬ g = bC by omega)).trans c5⟩
    · exact .inr ⟨fun ⟨e1, e2⟩ => a ⟨by omega, e2⟩, b⟩
theorem crashTo.all {w1 wr : World} {bC n : Nat} {cr : Nat → Bool} (h : crashTo w1 wr bC n n cr) : crashAt wr bC n cr := by
  obtain ⟨X, h1, h2, h3⟩ := h
  intro x hx
  rcases h3 x hx with ⟨a, b, g, m', c1, c2, c3, c4, c5⟩ | ⟨a, b⟩
  · exact .inr ⟨b, g, m', by rw [h1.cell]; exact c1, c4, c5⟩
  · refine .inl ⟨?_, by rw [h1.cell]; exact b⟩
    cases hc : cr x
    · rfl
    · exact absurd ⟨hx, hc⟩ a
theorem crashTo.at {w1 wr : World} {bC n p : Nat} {cr : Nat → Bool} (h : crashTo w1 wr bC n p cr) (hp : p < n) : wr.cell? ⟨bC, p, none⟩ = some (.pointer none) ∧ wr.frozen? ⟨bC, p, none⟩ = false := by
  obtain ⟨X, h1, h2, h3⟩ := h
  rcases h3 p hp with ⟨a, _⟩ | ⟨a, b⟩
  · omega
  · exact ⟨by rw [h1.cell]; exact b, h1.free p⟩

set_option maxRecDepth 100000 in
set_option maxHeartbeats 2000000 in
theorem sched_any (n bD : Nat) (cr : Nat → Bool) (h1 : 1 ≤ n) (h9 : n ≤ 9) (w : World) (hin : rowIs w bD 4 (((List.range n).map cr).map Value.bool)) :
    Calls Ybaf.prog 7 #[.int .i64 n, .slice (some ⟨bD, 0, none⟩) n n] w fun e w' => ∃ bS bC, e = .returned (.pointer (some ⟨bS, 0, none⟩)) ∧ schedAt w' bS bC n cr ∧ Kept (fun _ => False) w w' := by
  have hmm := @run_makeMap Ybaf.prog
  have HIN := (show Hid (rowIs _ _ _ _) from hin)
  clear hin
  go_enter Ybaf.func7, Ybaf.ntmps7
  go_wp2_with (go_at_call 10; refine Calls.mono (newDet_any n h1 h9 _) ?_; rintro e w1 ⟨bS, bC, b1, b2, rfl, hC, hS, hne, hr, hs, hk⟩; have HR := (show Hid (rowIs _ _ _ _) from hr); have HS := (show Hid (rowIs _ _ _ _) from hs); have HK := (show Hid (Kept _ _ _) from hk); clear hr hs hk)
  have lC := HR.out.lt
  have lS := HS.out.lt
  have lD := HIN.out.lt
  go_loopw [6] (fun q wr => ∃ p : Nat, p ≤ n ∧ q = .int .i64 p ∧ crashTo w1 wr bC n p cr ∧ Kept (fun j => j = bC) w1 wr) (fun q _ => n - (intOf q).toNat)
  case atStart =>
    exact ⟨0, by omega, rfl, ⟨_, HR.out, by simp, fun x hx => .inr ⟨by omega, by simp [hx]⟩⟩, Kept.refl _ _⟩
  case round =>
    obtain ⟨p, hp, rfl, hct, hkp⟩ := hrel
    have HC := (show Hid (crashTo _ _ _ _ _ _) from hct)
    have HP := (show Hid (Kept _ _ _) from hkp)
    have hsz := hkp.size
    have s1 : wr.cell? ⟨bS, 1, none⟩ = some (.slice (some ⟨bC, 0, none⟩) n n) := by rw [(hkp.row HS.out (show ¬ bS = bC from fun e => hne e.symm)).cell]; rfl
    by_cases hpn : p < n
    · obtain ⟨y1, y2⟩ := hct.at hpn
      have k1 : wr.cell? ⟨bD, p, none⟩ = some (.bool (cr p)) := by
        rw [(hkp.row (HK.out.row HIN.out (by simp)) (show ¬ bD = bC by omega)).cell]; simp [hpn]
      clear hct hkp
      obtain ⟨bb, hbb⟩ : ∃ bb, cr p = bb := ⟨_, rfl⟩
      rw [hbb] at k1
      have HBB := (show Hid (_ = _) from hbb)
      clear hbb
      have lCr : bC < wr.heap.size := by omega
      have lSr : bS < wr.heap.size := by omega
      cases bb
      · go_wp2_with fail
        go_roundw
        case rel => exact ⟨p + 1, by omega, by go_num, HC.out.skip HBB.out, HP.out⟩
        case measure => go_light; simp [intOf]; omega
      · go_wp2_with fail
        go_roundw
        case rel => exact ⟨p + 1, by omega, by go_num, HC.out.step hpn HBB.out lC hsz _ _, ((HP.out.setCell (p := ⟨bC, p, none⟩) (fun _ => rfl) _).alloc _).alloc _⟩
        case measure => go_light; simp [intOf]; omega
    · obtain rfl : p = n := by omega
      clear hct hkp
      go_wp2_with fail
      go_ret
      refine ⟨bS, bC, rfl, ⟨?_, s1, HC.out.all⟩, HK.out.then HP.out (fun j hj e => by omega)⟩
      rw [(HP.out.row HS.out (show ¬ bS = bC from fun e => hne e.symm)).cell]; rfl
end Go.Proofs.YbulkajboFmt
