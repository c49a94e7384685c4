import Derived.Test.YbulkajccCopy
namespace Go.Proofs.Ybulkajcc
open Go.RowKit
open Go.Lib (HoldsBytes PartsAt)
set_option linter.unusedVariables false

theorem Cp.keepL {w wr : World} {bI n : Nat} {ps qs : List ((Option Addr × Nat × Nat) × List UInt8)} (h : Cp w wr bI n n ps qs) (hn : ps.length = n) : Ybulkajcc.keepL qs = Ybulkajcc.keepL ps := by
  rw [keepL_sig, keepL_sig, h.sig, List.take_of_length_le (by omega)]
theorem Cp.bound {w wr : World} {bI n : Nat} {ps qs : List ((Option Addr × Nat × Nat) × List UInt8)} (h : Cp w wr bI n n ps qs) (hn : ps.length = n) (hl : ∀ p ∈ ps, p.2.length ≤ 4096) : ∀ p ∈ qs, p.2.length ≤ 4096 := by
  intro p hp
  have h1 : Ybulkajcc.sig p ∈ qs.map Ybulkajcc.sig := List.mem_map_of_mem hp
  rw [h.sig, List.take_of_length_le (by omega)] at h1
  obtain ⟨q, hq, e⟩ := List.mem_map.1 h1
  have e2 : q.2 = p.2 := congrArg (fun x : Bool × List UInt8 => x.2) e
  rw [← e2]; exact hl q hq
theorem Cp.rows {w wr : World} {bI n : Nat} {ps qs : List ((Option Addr × Nat × Nat) × List UInt8)} (h : Cp w wr bI n n ps qs) : rowIs wr bI 23 ((qs.map (·.1)).map encS) := by
  have := h.row
  rw [Nat.sub_self] at this
  simpa using this

theorem own_in {w : World} {B g m cb : Nat} {l : List UInt8} (h : w.ownsRow B 5 1 (.slice (some ⟨g, 0, none⟩) m cb) m (bv l)) (hl : l.length = m) : Lib.BytesIn w (some ⟨g, 0, none⟩) m (Lib.numsL l) := holds_in (own_holds h hl)
theorem own_kept {w w' : World} {S : Nat → Prop} {B g m cb : Nat} {xs : List Value} (h : w.ownsRow B 5 1 (.slice (some ⟨g, 0, none⟩) m cb) m xs) (k : Kept S w w') (hS : ¬ S g) : w'.ownsRow B 5 1 (.slice (some ⟨g, 0, none⟩) m cb) m xs := by
  rcases h.2 with ⟨h2, _⟩ | ⟨g', cap', cur, h2, hb, h4, h5⟩
  · cases h2
  · simp only [Value.slice.injEq, Option.some.injEq, Addr.mk.injEq, and_true, true_and] at h2
    obtain ⟨rfl, rfl⟩ := h2
    exact ⟨h.1, .inr ⟨g, cb, cur, rfl, hb, (k.block g (lt_of_block h4) hS).trans h4, h5⟩⟩

set_option maxHeartbeats 4000000 in
theorem law_small (a : Option Addr) (n c : Nat) (ps : List ((Option Addr × Nat × Nat) × List UInt8)) (w : World) (hA : AnsIn w a n c ps) (hn : n ≤ 1024) :
    Calls Yba.prog 3 #[.slice a n c] w fun e w' => e = .returned (.bool true) ∧ Below w.heap.size w w' := by
  have HA := (show Hid (AnsIn _ _ _ _ _) from hA)
  have HL : Hid (ps.length = n) := hA.len
  have hen := eqNil23
  clear hA
  go_enter Yba.func3, Yba.ntmps3
  go_wp2_with fail
  have hd : decide ((1024 : Int) < (n : Int)) = false := decide_eq_false (by omega)
  simp only [hd]
  clear hd
  go_loopw [3] (fun p wr => ∃ k : Nat, k ≤ n ∧ p = .int .i64 k ∧ wr = w ∧ ∀ i (h : i < ps.length), i < k → ps[i].2.length ≤ 4096) (fun p _ => n - (intOf p).toNat)
  case atStart => exact ⟨0, Nat.zero_le _, rfl, rfl, fun i _ h => by omega⟩
  case round =>
    obtain ⟨k, hk, rfl, rfl, hle⟩ := hrel
    have HLE := (show Hid _ from hle)
    clear hle
    by_cases hlt : k < n
    · have hlt' : k < ps.length := by rw [HL.out]; exact hlt
      obtain ⟨b, off, p, m, cp, rfl, hp, hc, hm, hal, hbl, hcs⟩ := HA.out.at k hlt'
      have HM := (show Hid _ from hm)
      clear hal hbl hcs hm
      by_cases hb : m ≤ 4096
      · have hb' : ¬ (4096 : Int) < (m : Int) := by omega
        go_wp2_with fail
        go_roundw
        case rel =>
          refine ⟨k + 1, by omega, by go_num, trivial, fun i h hi => ?_⟩
          by_cases e : i = k
          · subst e; rw [HM.out]; exact hb
          · exact HLE.out i h (by omega)
        case measure => simp [intOf]; omega
      · have hb' : (4096 : Int) < (m : Int) := by omega
        go_wp2_with fail
        go_ret
        exact ⟨rfl, Below.refl _ _⟩
    · obtain rfl : k = n := by omega
      have HLL : Hid (∀ p ∈ ps, p.2.length ≤ 4096) := fun p hp => by
        obtain ⟨i, hi, rfl⟩ := List.getElem_of_mem hp
        exact HLE.out i hi (by rw [HL.out] at hi; exact hi)
      clear HLE
      go_wp2_with fail
      refine (model_any a k c ps wr HA.out hn HLL.out).mono ?_
      rintro e w1 ⟨h | h, hk1⟩
      · obtain ⟨h0, rfl⟩ := h
        have HK1 := (show Hid (Kept _ _ _) from hk1)
        have H0 := (show Hid (keepL ps = []) from h0)
        clear hk1 h0
        rcases a with _ | ad
        · obtain ⟨rfl, rfl⟩ := HA.out.nil rfl
          go_wp2_with fail
          refine (copy_nil w1).mono ?_
          rintro e w2 ⟨rfl, rfl⟩
          go_wp2_with fail
          refine (enc_nil w2).mono ?_
          rintro e w3 ⟨rfl, rfl⟩
          go_wp2_with fail
          go_ret
          exact ⟨rfl, HK1.out.below (Nat.le_refl _) (fun _ _ => id)⟩
        · go_wp2_with fail
          refine (copy_any ad k c ps w1 (HA.out.kept HK1.out) hn HLL.out).mono ?_
          rintro e w2 ⟨bI, qs, rfl, hbI, hcp⟩
          have hec := enc_none bI k qs w2 hcp.rows (by rw [hcp.len]; exact hn) (by rw [hcp.len]; exact Nat.le_refl _) ((keepL_nil qs).1 (by rw [hcp.keepL HL.out]; exact H0.out))
          rw [hcp.len] at hec
          have HEC := (show Hid (Calls _ _ _ _ _) from hec)
          have HK2 : Hid (Kept (fun _ => False) wr w2) := HK1.out.then hcp.kept (fun _ _ e => e.elim)
          have hsz := HK1.out.size
          clear hec hcp
          go_wp2_with fail
          refine HEC.out.mono ?_
          rintro e w3 ⟨rfl, hk3⟩
          have HK3 : Hid (Kept (fun _ => False) wr w3) := HK2.out.then hk3 (fun j hj e => by omega)
          clear hk3 HEC
          go_wp2_with fail
          go_ret
          exact ⟨rfl, HK3.out.below (Nat.le_refl _) (fun _ _ => id)⟩
      · obtain ⟨h0, g, cp, rfl, ho1⟩ := h
        have HK1 := (show Hid (Kept _ _ _) from hk1)
        have hsz := hk1.size
        rcases a with _ | ad
        · have hk0 := (HA.out.nil rfl).1
          exfalso
          apply h0
          have : ps = [] := List.length_eq_zero_iff.1 (by rw [HL.out]; exact hk0)
          rw [this]; rfl
        · have H0 := (show Hid (keepL ps ≠ []) from h0)
          have HO1 := (show Hid (World.ownsRow _ _ _ _ _ _ _) from ho1)
          have lg := (ho1.lt g rfl).2
          clear ho1 hk1 h0
          go_wp2_with fail
          refine (copy_any ad k c ps w1 (HA.out.kept HK1.out) hn HLL.out).mono ?_
          rintro e w2 ⟨bI, qs, rfl, hbI, hcp⟩
          have hb2 := hcp.bound HL.out HLL.out
          have hec := enc_some bI k qs w2 hcp.rows (by rw [hcp.len]; exact hn) (by rw [hcp.len]; exact Nat.le_refl _) (fun p hp => ⟨(hcp.el p hp).1, hb2 p hp, (hcp.el p hp).2⟩) (fun e => H0.out (by rw [← hcp.keepL HL.out]; exact (keepL_nil qs).2 e))
          rw [hcp.len, show (keep qs).map (·.2) = keepL qs from rfl, hcp.keepL HL.out] at hec
          have HEC := (show Hid (Calls _ _ _ _ _) from hec)
          have HK2 : Hid (Kept (fun _ => False) wr w2) := HK1.out.then hcp.kept (fun _ _ e => e.elim)
          have HO2 := (show Hid (World.ownsRow _ _ _ _ _ _ _) from own_kept HO1.out hcp.kept id)
          clear hec hcp hb2 HO1
          obtain ⟨R, hR⟩ : ∃ R, R = enc (keepL ps) := ⟨_, rfl⟩
          rw [← hR] at HEC HO2 ⊢
          clear hR
          obtain ⟨r, hr⟩ : ∃ r, r = R.length := ⟨_, rfl⟩
          rw [← hr] at HEC HO2 ⊢
          have HR := (show Hid (r = R.length) from hr)
          clear hr
          go_wp2_with fail
          refine HEC.out.mono ?_
          rintro e w3 ⟨g3, c3, rfl, ho3, hk3⟩
          have HK3 : Hid (Kept (fun _ => False) wr w3) := HK2.out.then hk3 (fun j hj e => by omega)
          have HO3 := (show Hid (World.ownsRow _ _ _ _ _ _ _) from ho3)
          have HO4 := (show Hid (World.ownsRow _ _ _ _ _ _ _) from own_kept HO2.out hk3 (by show ¬ g = bI; omega))
          clear hk3 HEC ho3 HO2
          go_wp2_with fail
          refine (Yba.bytes_Equal_all (some ⟨g3, 0, none⟩) (some ⟨g, 0, none⟩) r c3 r cp (Lib.numsL R) (Lib.numsL R) w3 (by rw [Lib.numsL_length, HR.out]) (by rw [Lib.numsL_length, HR.out]) (own_in HO3.out HR.out.symm) (own_in HO4.out HR.out.symm)).mono ?_
          rintro e w4 ⟨rfl, rfl⟩
          have hbt : (Lib.bytesOf (Lib.numsL R) == Lib.bytesOf (Lib.numsL R)) = true := by simp
          rw [hbt]
          clear hbt
          go_wp2_with fail
          go_ret
          exact ⟨rfl, HK3.out.below (Nat.le_refl _) (fun _ _ => id)⟩

set_option maxHeartbeats 1000000 in
theorem law_any (a : Option Addr) (n c : Nat) (ps : List ((Option Addr × Nat × Nat) × List UInt8)) (w : World) (hA : AnsIn w a n c ps) :
    Calls Yba.prog 3 #[.slice a n c] w fun e w' => e = .returned (.bool true) ∧ Below w.heap.size w w' := by
  by_cases hn : n ≤ 1024
  · exact law_small a n c ps w hA hn
  · have l1 : (1024 : Int) < (n : Int) := by omega
    clear hA
    go_enter Yba.func3, Yba.ntmps3
    go_wp2_with fail
    go_ret
    exact ⟨rfl, Below.refl _ _⟩
end Go.Proofs.Ybulkajcc
