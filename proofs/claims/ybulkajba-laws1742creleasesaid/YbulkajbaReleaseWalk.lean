import Derived.Test.YbulkajbaRelease
namespace Go.Proofs.Ybulkajba
open Go.RowKit
open Rel
set_option linter.unusedVariables false

theorem Stat.drewN {L : Lay} {w : World} (h : Stat L w) (n : Nat) : Stat L (w.drewN n) := ⟨h.s0, h.s1, h.s2, h.s5, h.s10, h.c0, h.c3, h.c4, h.v0, h.loc, h.fst, h.suc, h.lb⟩
theorem Dyn.drewN {L : Lay} {w : World} {c : Nat → Nat} (h : Dyn L w c) (n : Nat) : Dyn L (w.drewN n) c := ⟨h.wt, h.pl, h.rd⟩

/-- The counts behind k successors. -/
def cAt (L : Lay) (f v : Nat) (c : Nat → Nat) (k : Nat) : Nat → Nat := ((sucs L.E v).take k).foldl (stepC L.w0 L.T (relC L.E L.w0 L.T f)) c

theorem cAt_bd (L : Lay) (F : Fits L) (f v : Nat) (c : Nat → Nat) (hf : L.N + 1 ≤ f + 1 + (v + 1) ∨ L.N + 1 ≤ f + 1 + L.T) (hc : ∀ x, c x + depthB (f + 1) ≤ 1000000000) (k : Nat) (hk : k < (sucs L.E v).length) (x : Nat) :
    cAt L f v c k x + 1 + depthB f ≤ 1000000000 := by
  have g := fold_good L.E L.w0 L.T L.N (relC L.E L.w0 L.T f) v (depthB f) (fun y c hy hyN hT => rel_good L.E L.w0 L.T L.N F.E1 F.E2 f y c (by omega) (.inl (by omega))) ((sucs L.E v).take k) c (fun y hy => F.E1 _ (sucs_mem (List.mem_of_mem_take hy)))
  have h := g.bd x
  have h24 := sucs_length L.E v
  have h24' := F.E2
  have hl : ((sucs L.E v).take k).length = k := List.length_take_of_le (by omega)
  rw [hl] at h
  have h2 := hc x
  have h3 : (k + 1) * (1 + depthB f) ≤ 24 * (1 + depthB f) := Nat.mul_le_mul_right _ (by omega)
  rw [Nat.add_mul] at h3
  unfold cAt
  simp only [depthB] at h2
  omega

theorem cAt_succ (L : Lay) (f v k : Nat) (c : Nat → Nat) (h : k < (sucs L.E v).length) : cAt L f v c (k + 1) = stepC L.w0 L.T (relC L.E L.w0 L.T f) (cAt L f v c k) (sucs L.E v)[k] := take_fold L f v k c h

/-- Behind the count alone. -/
structure Dec (L : Lay) (w : World) (c : Nat → Nat) (x : Nat) : Prop where
  wt : rowIs w L.bW 21 ((waitL L (bump c x)).map (.int .i32))
  pl : rowIs w L.bP 4 (placeL L c)
  rd : ∃ R : Nat, R < 18446744073709551616 ∧ rowIs w L.bR 26 [.int .u64 R] ∧ ∀ i, R.testBit i = (L.r0.testBit i || decide (i < L.T ∧ 0 < trig (L.w0 i) (c i)))

theorem dyn_dec {L : Lay} {w : World} {c : Nat → Nat} (F : Fits L) (h : Dyn L w c) (x : Nat) (old : Int) (ho : old = L.w0 x - (c x : Int)) : Dec L (w.setCell ⟨L.bW, x, none⟩ (.int .i32 (old - 1))) c x := by
  obtain ⟨R, h1, h2, h3⟩ := h.rd
  refine ⟨?_, h.pl.other (p := ⟨L.bW, x, none⟩) (F.nW L.bP (by omega)) _, R, h1, h2.other (p := ⟨L.bW, x, none⟩) (F.nW L.bR (by omega)) _, h3⟩
  have := h.wt.setInt x (old - 1)
  rw [ho, waitL_bump] at this
  rw [ho]; exact this

theorem dec_wait {L : Lay} {w : World} {c : Nat → Nat} {x : Nat} (h : Dec L w c x) (hp : 0 < L.w0 x - ((c x + 1 : Nat) : Int)) : Dyn L w (bump c x) := by
  obtain ⟨R, h1, h2, h3⟩ := h.rd
  exact ⟨h.wt, by rw [← place_same L c x (.inl hp)]; exact h.pl, R, h1, h2, fun i => by rw [h3 i, ready_same L c x (.inl hp) i]⟩

theorem dec_place {L : Lay} {w : World} {c : Nat → Nat} {x : Nat} (F : Fits L) (h : Dec L w c x) (hT : L.T ≤ x) (hp : ¬ 0 < L.w0 x - ((c x + 1 : Nat) : Int)) : Dyn L (w.setCell ⟨L.bP, x, none⟩ (.bool true)) (bump c x) := by
  obtain ⟨R, h1, h2, h3⟩ := h.rd
  refine ⟨h.wt.other (p := ⟨L.bP, x, none⟩) (fun e => F.nW L.bP (by omega) e.symm) _, ?_, R, h1, h2.other (p := ⟨L.bP, x, none⟩) (F.nP L.bR (by omega)) _, fun i => by rw [h3 i, ready_same L c x (.inr hT) i]⟩
  rw [← place_set L c x hT hp]
  exact h.pl.set x _

theorem dec_ready {L : Lay} {w w' : World} {c : Nat → Nat} {x R : Nat} (F : Fits L) (h : Dec L w c x) (hT : x < L.T) (hp : ¬ 0 < L.w0 x - ((c x + 1 : Nat) : Int)) (hR : R < 18446744073709551616)
    (h3 : ∀ i, R.testBit i = (L.r0.testBit i || decide (i < L.T ∧ 0 < trig (L.w0 i) (c i)))) (hr : rowIs w' L.bR 26 [.int .u64 ((R ||| 2 ^ x : Nat) : Int)]) (hk : Kept (fun k => k = L.bR) w w') : Dyn L w' (bump c x) := by
  have := F.T2
  refine ⟨hk.row h.wt (fun e => F.nW L.bR (by omega) e.symm), ?_, R ||| 2 ^ x, or_lt R x hR (by omega), hr, ready_set L c x R hT hp h3⟩
  rw [← place_same L c x (.inr hT)]
  exact hk.row h.pl (fun e => F.nP L.bR (by omega) e.symm)


set_option maxHeartbeats 2000000 in
set_option maxRecDepth 10000 in
theorem release_any (L : Lay) (F : Fits L) : ∀ (f v : Nat) (c : Nat → Nat) (w : World), v < L.N → 1 ≤ f → (L.N + 1 ≤ f + (v + 1) ∨ L.N + 1 ≤ f + L.T) → (∀ x, c x + depthB f ≤ 1000000000) → Stat L w → Dyn L w c →
    Calls Yba.prog 10 #[.pointer (some ⟨L.bS, 0, none⟩), .int .i32 v] w fun e w' => e = .returned (.tuple #[]) ∧ Dyn L w' (relC L.E L.w0 L.T f v c) ∧ Kept L.turns w w' := by
  intro f
  induction f with
  | zero => intro v c w _ h; omega
  | succ f ih =>
    intro v c w hv _ hf hc hS hD
    have IH := (show Hid _ from ih)
    have HF := (show Hid (Fits L) from F)
    have HS := (show Hid (Stat L w) from hS)
    have HD := (show Hid (Dyn L w c) from hD)
    have HC := (show Hid _ from hc)
    have s0 := hS.s0
    have hN := F.N2
    clear ih F hS hD hc
    go_enter Yba.func10, Yba.ntmps10
    go_wp2_with fail
    refine (succs_any L.bC L.bF L.bU L.N v L.E _ hv (by omega) HF.out.E2 HS.out.c3 HS.out.c4 HS.out.fst).mono ?_
    rintro e w1 ⟨ad, cap, rfl, had, n, rfl⟩
    have HAD := (show Hid _ from had)
    clear had
    go_wp2_with fail
    obtain ⟨K, hK⟩ : ∃ K, K = (sucs L.E v).length := ⟨_, rfl⟩
    have HKK := (show Hid (K = (sucs L.E v).length) from hK)
    have hK24 : K ≤ 24 := by have := sucs_length L.E v; have := HF.out.E2; omega
    rw [← hK]
    clear hK
    go_loopw [15] (fun q wr => ∃ k : Nat, k ≤ K ∧ q = .int .i64 k ∧ Dyn L wr (cAt L f v c k) ∧ Kept L.turns w wr) (fun q _ => K - (intOf q).toNat)
    case atStart => exact ⟨0, Nat.zero_le _, rfl, HD.out.drewN n, (Kept.refl _ _).drewN n⟩
    case round =>
      obtain ⟨k, hk, rfl, hdyn, hkept⟩ := hrel
      by_cases hlt : k < K
      · have hlt' : k < (sucs L.E v).length := by rw [← HKK.out]; exact hlt
        have hst := HS.out.kept HF.out hkept
        have hbd := cAt_bd L HF.out f v c hf HC.out k hlt'
        have HSU := (show Hid _ from cAt_succ L f v k c hlt')
        obtain rfl := HAD.out (by omega)
        have hx := hst.suc v hv k hlt'
        obtain ⟨hx1, hx2⟩ := HF.out.E1 _ (sucs_mem (List.getElem_mem hlt'))
        generalize (sucs L.E v)[k] = x at *
        generalize cAt L f v c k = ck at *
        have hcx := hbd x
        have hw0 := HF.out.w1 x
        have cw : wr.cell? ⟨L.bW, x, none⟩ = some (.int .i32 (L.w0 x - (ck x : Int))) := by
          rw [hdyn.wt.cell, map_at _ _ _ (by rw [waitL_length]; exact hx2), waitL_at L ck x hx2]
        have fw := hdyn.wt.free x
        obtain ⟨old, hold⟩ : ∃ old, old = L.w0 x - (ck x : Int) := ⟨_, rfl⟩
        rw [← hold] at cw
        have o1 : -1500000000 ≤ old := by omega
        have o2 : old ≤ 127 := by omega
        have HO := (show Hid (old = L.w0 x - (ck x : Int)) from hold)
        have HDY := (show Hid (Dyn _ _ _) from hdyn)
        have HKP := (show Hid (Kept _ _ _) from hkept)
        have HST := (show Hid (Stat _ _) from hst)
        have HBD := (show Hid (∀ x, ck x + 1 + depthB f ≤ 1000000000) from hbd)
        have t1 := hst.s1
        have t0 := hst.s0
        have e0 := hst.c0
        have nSW : ¬ L.bW = L.bS := fun e => HF.out.nW L.bS (by omega) e.symm
        have nCW : ¬ L.bW = L.bC := fun e => HF.out.nW L.bC (by omega) e.symm
        have xN : (x : Int) < (L.N : Int) := by omega
        clear hdyn hkept hst hbd hold hw0 hcx
        by_cases hpos : 1 < old
        · have HP : Hid (0 < L.w0 x - ((ck x + 1 : Nat) : Int)) := by show 0 < _; have := HO.out; omega
          go_wp2_with fail
          go_roundw
          case rel =>
            refine ⟨k + 1, by omega, by go_num, ?_, HKP.out.setCell (fun _ => .inl rfl) _⟩
            rw [HSU.out, stepC, if_pos HP.out]
            exact dec_wait (dyn_dec HF.out HDY.out x old HO.out) HP.out
          case measure => simp [intOf]; omega
        · have HP : Hid (¬ 0 < L.w0 x - ((ck x + 1 : Nat) : Int)) := by show ¬ 0 < _; have := HO.out; omega
          by_cases hT : L.T ≤ x
          · have hTi : (L.T : Int) ≤ (x : Int) := by omega
            have t2 := HST.out.s2
            have cp : wr.cell? ⟨L.bP, x, none⟩ = some (.bool (decide (L.T ≤ x ∧ 0 < trig (L.w0 x) (ck x)))) := by
              rw [HDY.out.pl.cell]; simp [placeL, hx2]
            have fp := HDY.out.pl.free x
            generalize decide (L.T ≤ x ∧ 0 < trig (L.w0 x) (ck x)) = ob at *
            have nPW : ¬ L.bW = L.bP := fun e => HF.out.nW L.bP (by omega) e.symm
            have HK2 : Hid (Kept L.turns w ((wr.setCell ⟨L.bW, x, none⟩ (.int .i32 (old - 1))).setCell ⟨L.bP, x, none⟩ (.bool true))) := (HKP.out.setCell (fun _ => .inl rfl) _).setCell (fun _ => .inr (.inl rfl)) _
            have HD2 := (show Hid (Dyn _ _ _) from dec_place HF.out (dyn_dec HF.out HDY.out x old HO.out) hT HP.out)
            go_wp2_with fail
            refine (IH.out x (bump ck x) _ hx2 (by omega) (.inl (by omega)) (fun z => by have := bump_le ck x z; have := HBD.out z; omega) (HS.out.kept HF.out HK2.out) HD2.out).mono ?_
            rintro e w5 ⟨rfl, hd5, hk5⟩
            have HD5 := (show Hid (Dyn _ _ _) from hd5)
            have HK5 := (show Hid (Kept _ _ _) from HK2.out.trans hk5)
            clear hd5 hk5
            go_wp2_with fail
            go_roundw
            case rel =>
              refine ⟨k + 1, by omega, by go_num, ?_, HK5.out⟩
              rw [HSU.out, stepC, if_neg (by have := HP.out; omega), if_pos hT]
              exact HD5.out
            case measure => simp [intOf]; omega
          · have hTi : (x : Int) < (L.T : Int) := by omega
            have hxi : (0 : Int) ≤ (x : Int) := by omega
            have nRW : L.bR ≠ L.bW := HF.out.nW L.bR (by omega)
            have nVW : ¬ L.bW = L.bV := fun e => HF.out.nW L.bV (by omega) e.symm
            have nLW : ¬ L.bW = L.bL := fun e => HF.out.nW L.bL (by omega) e.symm
            have HDC := (show Hid (Dec _ _ _ _) from dyn_dec HF.out HDY.out x old HO.out)
            have HK2 : Hid (Kept L.turns w (wr.setCell ⟨L.bW, x, none⟩ (.int .i32 (old - 1)))) := HKP.out.setCell (fun _ => .inl rfl) _
            obtain ⟨R, hR, hr, htb⟩ := HDC.out.rd
            have HR := (show Hid (rowIs _ _ _ _) from hr)
            have HTB := (show Hid _ from htb)
            have hst2 := HS.out.kept HF.out HK2.out
            have q5 := hst2.s5
            have q10 := hst2.s10
            have q0 := hst2.v0
            have ql := hst2.loc x (by omega)
            have hT2 := HF.out.T2
            have hwx : IntKind.i64.wrap (x : Int) = (x : Int) := by rw [IntKind.wrap_i64]; omega
            have Q5 := (show Hid _ from q5)
            have QL := (show Hid _ from ql)
            have Q10 := (show Hid _ from q10)
            have Q0 := (show Hid _ from q0)
            have t5 := HST.out.s5
            have tl := HST.out.loc x (by omega)
            clear hr htb hst2 q5 ql q10 q0
            go_wp2_with fail
            go_region_held3 (fun w' => w'.cell? ⟨L.bS, 5, none⟩ = some (.slice (some ⟨L.bL, 0, none⟩) L.T L.T) ∧ w'.cell? ⟨L.bL, x, none⟩ = some (.int .i32 x))
              (first
                | go_keep
                | (exact ⟨Q5b.out, QLb.out⟩))
              ((go_at_call 14; refine (add_any L.bS 10 L.bV L.bR x R _ (by omega) hR ?_ ?_ ?_).mono ?_; (exact Q10.out); (exact Q0.out); (exact HR.out); rintro e w6 ⟨rfl, hr6, hk6⟩; have HR6 := (show Hid (rowIs _ _ _ _) from hr6); have HK6 := (show Hid (Kept _ _ _) from hk6); have HK7 := (show Hid (Kept _ _ _) from (HK2.out.drew.then hk6 (fun j _ e => .inr (.inr e)))); have Q5b := (show Hid _ from (HS.out.kept HF.out HK7.out).s5); have QLb := (show Hid _ from (HS.out.kept HF.out HK7.out).loc x (by omega)); clear hr6 hk6))
            go_wp2_with fail
            go_roundw
            case rel =>
              refine ⟨k + 1, by omega, by go_num, ?_, HK7.out⟩
              have hp' : ¬ 0 < L.w0 x - ((ck x + 1 : Nat) : Int) := by have := HP.out; omega
              rw [HSU.out, stepC, if_neg hp', if_neg (by omega)]
              have hdc := HDC.out
              exact dec_ready (w := (wr.setCell ⟨L.bW, x, none⟩ (.int .i32 (old - 1))).drew) HF.out ⟨hdc.wt, hdc.pl, hdc.rd⟩ (by omega) hp' hR HTB.out HR6.out HK6.out
            case measure => simp [intOf]; omega
      · obtain rfl : k = K := by omega
        have HDY := (show Hid (Dyn _ _ _) from hdyn)
        have HKP := (show Hid (Kept _ _ _) from hkept)
        clear hdyn hkept
        go_wp2_with fail
        go_end0
        refine ⟨rfl, ?_, HKP.out⟩
        have := HDY.out
        rw [relC_succ]
        rw [cAt, List.take_of_length_le (by rw [← HKK.out]; exact Nat.le_refl _)] at this
        exact this
end Go.Proofs.Ybulkajba
