/- The walk of the law itself. -/
import Derived.Test.YbulkajboFmtCheck
import Derived.Test.YbulkajboFmtBuild
import Derived.Test.YbulkajboFmtModel
namespace Go.Proofs.YbulkajboFmt
open Go.RowKit
set_option linter.unusedVariables false
attribute [local go_sem ↓] Go.wp_at_zero Go.wp_at_succ

theorem conv_ok {n : Nat} (h1 : 1 ≤ n) (r : Raw) : okHP n (conv n r) :=
  ⟨Nat.mod_lt _ (by omega), Nat.mod_lt _ (by omega), Nat.mod_lt _ (by omega), by simp [conv], by have := Nat.mod_lt r.C (show 0 < n + 1 by omega); simp [conv]; omega⟩
theorem psOf_ok {n : Nat} (h1 : 1 ≤ n) (fill : Bool) (R : List Raw) : ∀ h ∈ psOf n fill R, okHP n h := by
  intro h hh
  rcases List.mem_append.1 hh with hh | hh
  · cases fill
    · simp at hh
    · simp only [if_true, fillH, fillP, List.mem_map, List.mem_range] at hh
      obtain ⟨x, hx, rfl⟩ := hh
      exact ⟨hx, by simp, by simp, h1, by simp⟩
  · obtain ⟨r, _, rfl⟩ := List.mem_map.1 hh
    exact conv_ok h1 r
theorem psOf_length {n : Nat} (h9 : n ≤ 9) (fill : Bool) (R : List Raw) (hR : R.length ≤ 256) : (psOf n fill R).length ≤ 400 := by
  unfold psOf
  rw [List.length_append, List.length_map]
  have : (if fill = true then fillH n else []).length ≤ 9 := by
    cases fill
    · simp
    · simp [fillH, fillP_length]; omega
  omega

theorem flatH_at (ps : List HP) (t : Nat) (h : t < ps.length) : (flatH ps)[t * 4]? = some (.int .i64 (ps[t].p : Int)) ∧ (flatH ps)[t * 4 + 1]? = some (.int .i64 (ps[t].w : Int)) ∧ (flatH ps)[t * 4 + 2]? = some (.int .i64 (ps[t].l : Int)) ∧ (flatH ps)[t * 4 + 3]? = some (.int .i64 (ps[t].c : Int)) := by
  induction ps generalizing t with
  | nil => simp at h
  | cons q ps ih =>
    cases t with
    | zero => simp [flatH, encH]
    | succ t =>
      have := ih t (by simpa using h)
      rw [show (t + 1) * 4 = t * 4 + 1 + 1 + 1 + 1 from by omega]
      simp only [flatH, List.flatMap_cons, encH, List.cons_append, List.nil_append, List.getElem?_cons_succ, List.getElem_cons_succ]
      exact this
theorem held_of_own {w wr : World} {v : Value} {ps : List HP} (h : pairsOwn w wr v ps) : ∃ al cap, v = .slice al ps.length cap ∧ heldAt wr al ps := by
  obtain ⟨hown, _⟩ := h
  obtain ⟨al, cap, rfl⟩ := own_slice hown
  refine ⟨al, cap, rfl, fun t ht => ?_⟩
  rcases hown.2 with ⟨_, h0⟩ | ⟨g, c, cur, e1, e2, e3, e4, e5, e6, e7⟩
  · omega
  · simp only [Value.slice.injEq, true_and] at e1
    obtain ⟨rfl, rfl⟩ := e1
    obtain ⟨f0, f1, f2, f3⟩ := flatH_at ps t ht
    have cell : ∀ j x, j < ps.length * 4 → (flatH ps)[j]? = some x → wr.cell? ⟨g, j, none⟩ = some x := by
      intro j x hj hx
      rw [cell_of_row wr g j _ _ _ e3]
      rw [← e7, List.getElem?_take, if_pos hj] at hx
      simpa using hx
    exact ⟨g, rfl, lt_of_block e3, cell _ _ (by omega) f0, cell _ _ (by omega) f1, cell _ _ (by omega) f2, cell _ _ (by omega) f3⟩
theorem rawIn.kept {w w' : World} {al : Option Addr} {R : List Raw} (h : rawIn w al R) (k : Kept (fun _ => False) w w') : rawIn w' al R := by
  intro t ht
  obtain ⟨h0, b, off, h1, h2, c0, c1, c2, c3⟩ := h t ht
  exact ⟨h0, b, off, h1, Nat.lt_of_lt_of_le h2 k.size, (k.cell h2 (by simp)).trans c0, (k.cell h2 (by simp)).trans c1, (k.cell h2 (by simp)).trans c2, (k.cell h2 (by simp)).trans c3⟩

set_option maxRecDepth 100000 in
set_option maxHeartbeats 4000000 in
theorem law_any (N : Nat) (fill : Bool) (alC : Option Addr) (capC : Nat) (C : List Bool) (alP : Option Addr) (capP : Nat) (R : List Raw) (hN : N < 256) (w : World) (hC : boolsIn w alC C) (hR : rawIn w alP R) (hSh : Short w) :
    Calls Ybaf.prog 3 #[.int .u8 N, .bool fill, .slice alC C.length capC, .slice alP R.length capP] w fun e w' => e = .returned (.bool true) ∧ Kept (fun _ => False) w w' := by
  by_cases h1 : R.length ≤ 256
  · by_cases h2 : C.length ≤ 1024
    · have l1 : ¬ (256 : Int) < (R.length : Int) := by omega
      have l2 : ¬ (1024 : Int) < (C.length : Int) := by omega
      obtain ⟨n, hn⟩ : ∃ n, N % 9 + 1 = n := ⟨_, rfl⟩
      have n1 : 1 ≤ n := by omega
      have n9 : n ≤ 9 := by omega
      have w1 : IntKind.i64.wrap (N : Int) = N := by rw [IntKind.wrap_i64]; omega
      have t1 : (N : Int).tmod 9 = ((N % 9 : Nat) : Int) := by rw [Int.tmod_eq_emod_of_nonneg (by omega)]; rfl
      have HNN := (show Hid ((N : Int) % 9 + 1 = (n : Int)) from (show (N : Int) % 9 + 1 = (n : Int) by omega))
      have HC := (show Hid (boolsIn _ _ _) from hC)
      have HR := (show Hid (rawIn _ _ _) from hR)
      have HSH := (show Hid (Short _) from hSh)
      clear hC hR hSh hn
      have PO := (show Hid (∀ h ∈ psOf n fill R, okHP n h) from psOf_ok n1 fill R)
      have PL := (show Hid ((psOf n fill R).length ≤ 400) from psOf_length n9 fill R h1)
      go_enter Ybaf.func3, Ybaf.ntmps3
      go_upto_region 4 with fail
      rw [HNN.out]
      go_upto_region 5 with (go_at_call 5; refine Calls.mono (crashed_any n alC capC C n1 n9 h2 _ HC.out) ?_; rintro e w2 ⟨rfl, hD, hk2⟩; have HD := (show Hid (rowIs _ _ _ _) from hD); have K2 := (show Hid (Kept _ _ _) from hk2); clear hD hk2)
      go_upto_region 6 with (go_at_call 6; refine Calls.mono (build_any n fill alP capP R n1 n9 h1 _ (HR.out.kept K2.out)) ?_; rintro e w3 ⟨v, rfl, hB⟩; have HB := (show Hid (pairsOwn _ _ _ _) from hB); clear hB)
      obtain ⟨al, cap, hv, hheld⟩ := held_of_own HB.out
      subst hv
      have HH := (show Hid (heldAt _ _ _) from hheld)
      clear hheld
      go_upto_region 7 with (go_at_call 7; refine Calls.mono (sched_any n _ (crOf C) n1 n9 _ (HB.out.2.row HD.out (by simp))) ?_; rintro e w4 ⟨bS, bC, rfl, hS, hk4⟩; have HS := (show Hid (schedAt _ _ _ _ _) from hS); have K4 := (show Hid (Kept _ _ _) from hk4); clear hS hk4)
      go_upto_region 8 with (go_at_call 8; refine Calls.mono (check_any n bS bC al cap _ (crOf C) n1 n9 PL.out PO.out _ HS.out.1 HS.out.2.1 HS.out.2.2 (((HSH.out.kept K2.out).kept HB.out.2).kept K4.out) (HH.out.kept K4.out (by simp))) ?_; rintro e w5 ⟨hgo, hk5⟩; have K5 := (show Hid (Kept _ _ _) from hk5); clear hk5; rcases hgo with ⟨rfl, hgood⟩ | ⟨ad, rfl, hbad⟩)
      · have HG := (show Hid (_) from hgood)
        clear hgood
        have HD5 := (show Hid (rowIs w5 w.heap.size 4 (((List.range n).map (crOf C)).map Value.bool)) from K5.out.row (K4.out.row (HB.out.2.row HD.out (by simp)) (by simp)) (by simp))
        have HH5 := (show Hid (heldAt w5 al (psOf n fill R)) from (HH.out.kept K4.out (by simp)).kept K5.out (by simp))
        have KW := (show Hid (Kept (fun _ => False) w w5) from ((K2.out.trans HB.out.2).trans K4.out).trans K5.out)
        go_region_held3 (fun _ => True) (trivial)
          ((go_at_call 9; refine Calls.mono (model_any n _ al cap _ (crOf C) n1 n9 PL.out PO.out _ (HD5.out.drew) (HH5.out.kept ((Kept.refl (fun _ => False) _).drew) (by simp))) ?_; rintro e w6 ⟨b, rfl, hb, hk6⟩; have K6 := (show Hid (Kept _ _ _) from hk6); clear hk6; obtain rfl : b = true := hb.2 HG.out; clear hb))
        go_wp2_with fail
        go_ret
        exact ⟨rfl, (KW.out.drew).trans K6.out⟩
      · have HG := (show Hid (_) from hbad)
        clear hbad
        have HD5 := (show Hid (rowIs w5 w.heap.size 4 (((List.range n).map (crOf C)).map Value.bool)) from K5.out.row (K4.out.row (HB.out.2.row HD.out (by simp)) (by simp)) (by simp))
        have HH5 := (show Hid (heldAt w5 al (psOf n fill R)) from (HH.out.kept K4.out (by simp)).kept K5.out (by simp))
        have KW := (show Hid (Kept (fun _ => False) w w5) from ((K2.out.trans HB.out.2).trans K4.out).trans K5.out)
        go_region_held3 (fun _ => True) (trivial)
          ((go_at_call 9; refine Calls.mono (model_any n _ al cap _ (crOf C) n1 n9 PL.out PO.out _ (HD5.out.drew) (HH5.out.kept ((Kept.refl (fun _ => False) _).drew) (by simp))) ?_; rintro e w6 ⟨b, rfl, hb, hk6⟩; have K6 := (show Hid (Kept _ _ _) from hk6); clear hk6; obtain rfl : b = false := (by cases b; (· rfl); (· exact absurd (hb.1 rfl) HG.out)); clear hb))
        go_wp2_with fail
        go_ret
        exact ⟨rfl, (KW.out.drew).trans K6.out⟩
    · have l2 : (1024 : Int) < (C.length : Int) := by omega
      have l1 : ¬ (256 : Int) < (R.length : Int) := by omega
      clear hC hR hSh
      go_enter Ybaf.func3, Ybaf.ntmps3
      go_wp2_with fail
      go_ret
      exact ⟨rfl, Kept.refl _ _⟩
  · have l1 : (256 : Int) < (R.length : Int) := by omega
    clear hC hR hSh
    go_enter Ybaf.func3, Ybaf.ntmps3
    go_wp2_with fail
    go_ret
    exact ⟨rfl, Kept.refl _ _⟩
end Go.Proofs.YbulkajboFmt
