import Derived.Test.YbulkajbaTrig
import Derived.Deep.DeepCutAuto
import Derived.Deep.CutBlock
namespace Go.Proofs.Ybulkajba
open Go.RowKit
open Rel
set_option linter.unusedVariables false

theorem Yba.info21 : (Yba.prog.info? 21).map (fun i => (i.zero, i.size, i.bytes)) = some (some (.int .i32 0), 1, 4) := by kernel_rfl
theorem Yba.info3 : (Yba.prog.info? 3).map (fun i => (i.zero, i.size, i.bytes)) = some (some (.int .i64 0), 1, 8) := by kernel_rfl

theorem Yba.size3 : (Yba.prog.info? 3).map (·.size) = some 1 := by kernel_rfl
theorem Yba.size21 : (Yba.prog.info? 21).map (·.size) = some 1 := by kernel_rfl

theorem Yba.info144 : (Yba.prog.info? 144).map (fun i => (i.zero, i.size, i.bytes)) = some (some (.int .i64 0), 1, 8) := by kernel_rfl
theorem Yba.info4 : (Yba.prog.info? 4).map (fun i => (i.zero, i.size, i.bytes)) = some (some (.bool false), 1, 1) := by kernel_rfl
theorem Yba.info2 : (Yba.prog.info? 2).map (fun i => (i.zero, i.size, i.bytes)) = some (some (.int .i64 0), 1, 8) := by kernel_rfl
theorem build74t (a : Option Addr) (n c : Nat) : ∃ cs : List Value, cs[0]? = some (.slice a n c) ∧ cs[3]? = some (.slice none 0 0) ∧ cs[4]? = some (.slice none 0 0) ∧ ∀ w : World, (Instr.build 74 #[(0, .slice a n c)]).run Yba.prog w = .ok (.agg cs.toArray) w :=
  ⟨((Yba.prog.built 74 [(0, .slice a n c)]).getD #[]).toList, by kernel_rfl, by kernel_rfl, by kernel_rfl, fun w => run_build w 74 #[(0, .slice a n c)] _ (by kernel_rfl)⟩
theorem build84s (p a b d e : Option Addr) (n1 c1 n2 c2 n4 c4 n9 c9 : Nat) : ∃ cs : List Value, cs[0]? = some (.pointer p) ∧ cs[1]? = some (.slice a n1 c1) ∧ cs[2]? = some (.slice b n2 c2) ∧ cs[5]? = some (.slice d n4 c4) ∧ cs[10]? = some (.slice e n9 c9) ∧
    ∀ w : World, (Instr.build 84 #[(0, .pointer p), (1, .slice a n1 c1), (2, .slice b n2 c2), (4, .slice d n4 c4), (9, .agg #[.slice e n9 c9])]).run Yba.prog w = .ok (.agg cs.toArray) w :=
  ⟨((Yba.prog.built 84 [(0, .pointer p), (1, .slice a n1 c1), (2, .slice b n2 c2), (4, .slice d n4 c4), (9, .agg #[.slice e n9 c9])]).getD #[]).toList, by kernel_rfl, by kernel_rfl, by kernel_rfl, by kernel_rfl, by kernel_rfl,
    fun w => run_build w 84 #[(0, .pointer p), (1, .slice a n1 c1), (2, .slice b n2 c2), (4, .slice d n4 c4), (9, .agg #[.slice e n9 c9])] _ (by kernel_rfl)⟩

set_option maxHeartbeats 4000000 in
set_option maxRecDepth 100000 in
theorem lawC_small (nt nb st : Int) (a1 : Option Addr) (m1 c1 : Nat) (L : List (Int × Int)) (a2 : Option Addr) (m2 c2 : Nat) (Wt : List Int) (rdy : Nat) (w : World)
    (t0 : 0 ≤ nt) (t1 : nt ≤ 255) (b0 : 0 ≤ nb) (b1 : nb ≤ 255) (s0 : 0 ≤ st) (s1 : st ≤ 255) (hr : rdy < 18446744073709551616) (h1 : m1 ≤ 1024) (hL : cameUU w a1 m1 c1 L) (hW : cameIn w a2 m2 c2 (Wt.map (.int .i8))) (hWb : ∀ x ∈ Wt, -128 ≤ x ∧ x ≤ 127) (hm2 : m2 ≤ 9223372036854775807) :
    Calls Yba.prog 5 #[.int .u8 nt, .int .u8 nb, .int .u8 st, .slice a1 m1 c1, .slice a2 m2 c2, .int .u64 rdy] w fun e w' => e = .returned (.bool true) ∧ Below w.heap.size w w' := by
  obtain ⟨i1, hj, z0, z1, z2⟩ := info_parts Yba.info21
  obtain ⟨i3, h3, y0, y1, y2⟩ := info_parts Yba.info3
  obtain ⟨i144, h144, x0, x1, x2⟩ := info_parts Yba.info144
  obtain ⟨i4, h4, v0, v1, v2⟩ := info_parts Yba.info4
  obtain ⟨i2, h2, u0, u1, u2⟩ := info_parts Yba.info2
  have hu68 := Yba.underlying68
  have hu29 := Yba.underlying29
  have hu96 := Yba.underlying96
  have hu23 := Yba.underlying23
  have hu69 := Yba.underlying69
  have HL := (show Hid (cameUU _ _ _ _ _) from hL)
  have HW := (show Hid (cameIn _ _ _ _ _) from hW)
  have HWB := (show Hid _ from hWb)
  have HLL : Hid (L.length = m1) := hL.1
  obtain ⟨T, hT⟩ : ∃ T : Nat, 1 + nt % 6 = (T : Int) := ⟨(1 + nt % 6).toNat, by omega⟩
  obtain ⟨B, hB⟩ : ∃ B : Nat, nb % 5 = (B : Int) := ⟨(nb % 5).toNat, by omega⟩
  have T1 : 1 ≤ T := by omega
  have T6 : T ≤ 6 := by omega
  have B4 : B ≤ 4 := by omega
  obtain ⟨N, hN⟩ : ∃ N : Nat, (T : Int) + (B : Int) = (N : Int) := ⟨T + B, by omega⟩
  have N1 : 1 ≤ N := by omega
  have N10 : N ≤ 10 := by omega
  have TN : T ≤ N := by omega
  have NB : N ≤ T + 4 := by omega
  have TOK1 : True := trivial
  clear hL hW hWb
  go_enter Yba.func5, Yba.ntmps5
  go_upto_region 8 with (first
    | (at_make; have _t := TOK1; refine wpList_make_own _ rfl _ _ 23 rfl w.heap.size 21 i1 (.int .i32 0) 1 hu23 hj z0 z1 .i64 .i64 _ 24 rfl rfl rfl (by rw [z2]; omega) (by unfold maxLen; omega) (Nat.le_refl _) ?_; intro w1 hown1 hgrow1; clear TOK1 _t; have HO1 := (show Hid (World.ownsRow _ _ _ _ _ _ _) from hown1); have HB1 := (show Hid (Below _ _ _) from (Below.refl _ w).grown hgrow1 (Nat.le_refl _) (by simp)); have hs1 := (hown1.lt w.heap.size rfl).2; clear hown1 hgrow1)
    | (at_make; have _t := HO1; refine wpList_make_own _ rfl _ _ 23 rfl w.heap.size 21 i1 (.int .i32 0) 1 hu23 hj z0 z1 .i64 .i64 _ 24 rfl rfl rfl (by rw [z2]; omega) (by unfold maxLen; omega) (by omega) ?_; intro w2 hown2 hgrow2; have HE : Hid (Ends w w2 w.heap.size w1.heap.size []) := ⟨HO1.out.kept hgrow2 (.inr (by simp [Value.ownBlock])), hown2, hs1, HB1.out.grown hgrow2 (by omega) (by simp)⟩; clear hown2 hgrow2 HO1 HB1 _t))
  obtain ⟨gv, hgv⟩ : ∃ gv, gv = w1.heap.size := ⟨_, rfl⟩
  rw [← hgv] at HE hs1
  simp only [← hgv]
  clear hgv
  obtain ⟨ge, hge⟩ : ∃ ge, ge = w.heap.size := ⟨_, rfl⟩
  rw [show Ends w w2 w.heap.size gv [] = Ends w w2 ge gv [] by rw [hge]] at HE
  simp only [← hge]
  have hge1 : w.heap.size ≤ ge := by omega
  have hge2 : ge < gv := by omega
  clear hge hs1
  go_upto_block 0 with fail
  go_cut [16, 17] (fun a b wc => ∃ E : List (Nat × Nat), (∀ p ∈ E, p.1 < p.2 ∧ p.2 < N) ∧ E.length ≤ 24 ∧ a = .slice (some ⟨ge, 0, none⟩) E.length 24 ∧ b = .slice (some ⟨gv, 0, none⟩) E.length 24 ∧ Ends w wc ge gv E)
  case first =>
    go_wp2_with fail
    go_loopw [16, 17, 18] (fun a b q wr => ∃ k : Nat, k ≤ m1 ∧ k ≤ 24 ∧ q = .int .i64 k ∧ a = .slice (some ⟨ge, 0, none⟩) (edgesOf N (L.take k)).length 24 ∧ b = .slice (some ⟨gv, 0, none⟩) (edgesOf N (L.take k)).length 24 ∧ Ends w wr ge gv (edgesOf N (L.take k))) (fun _ _ q _ => 24 - (intOf q).toNat)
    case atStart => exact ⟨0, Nat.zero_le _, Nat.zero_le _, rfl, rfl, rfl, HE.out⟩
    case round =>
      obtain ⟨k, hk1, hk2, rfl, rfl, rfl, hends⟩ := hrel
      by_cases hlt : k < m1 ∧ k < 24
      · obtain ⟨hlt1, hlt2⟩ := hlt
        have hlt' : k < L.length := by rw [HLL.out]; exact hlt1
        obtain ⟨b, off, rfl, hb, e0, e1⟩ := HL.out.at hlt1 hlt'
        obtain ⟨l1, l2, l3, l4⟩ := HL.out.2.2.2 k hlt'
        have HSU := (show Hid _ from edgesOf_succ N L k hlt')
        have hel := edgesOf_length N (L.take k)
        have hel2 : (L.take k).length ≤ k := List.length_take_le _ _
        generalize L[k] = p at *
        obtain ⟨pu, pv⟩ := p
        dsimp only at e0 e1 l1 l2 l3 l4
        have x0 : 0 ≤ pu % (N : Int) := Int.emod_nonneg _ (by omega)
        have x1 : pu % (N : Int) < (N : Int) := Int.emod_lt_of_pos _ (by omega)
        have x2 : 0 ≤ pv % (N : Int) := Int.emod_nonneg _ (by omega)
        have x3 : pv % (N : Int) < (N : Int) := Int.emod_lt_of_pos _ (by omega)
        obtain ⟨u, hu⟩ : ∃ u : Nat, pu % (N : Int) = (u : Int) := ⟨(pu % (N : Int)).toNat, by omega⟩
        obtain ⟨v, hv⟩ : ∃ v : Nat, pv % (N : Int) = (v : Int) := ⟨(pv % (N : Int)).toNat, by omega⟩
        have HED : Hid (edge1 N (pu, pv) = if u = v then [] else if v < u then [(v, u)] else [(u, v)]) := by
          show _ = _
          simp only [edge1, hu, hv, Int.toNat_natCast]
        rw [hu] at x0 x1
        rw [hv] at x2 x3
        have q0 := (hends.bel.cell (p := ⟨b, off + k * 2, none⟩) hb).trans e0
        have q1 := (hends.bel.cell (p := ⟨b, off + k * 2 + 1, none⟩) hb).trans e1
        have HEN := (show Hid (Ends _ _ _ _ _) from hends)
        clear e0 e1 hends HE
        generalize edgesOf N (L.take k) = E at *
        have TK1 : True := trivial
        by_cases huv : u = v
        · subst huv
          go_wp2_with fail
          go_roundw
          case rel =>
            refine ⟨k + 1, by omega, by omega, by go_num, ?_, ?_, ?_⟩
            · rw [HSU.out, HED.out]; simp
            · rw [HSU.out, HED.out]; simp
            · rw [HSU.out, HED.out, if_pos rfl, List.append_nil]; exact HEN.out
          case measure => simp [intOf]; omega
        · have huv' : ((u : Int) == (v : Int)) = false := by simp; omega
          by_cases hvu : v < u
          · have hvu' : (v : Int) < (u : Int) := by omega
            go_wp2_with (first
              | (at_builtin; have _t := TK1; refine wpList_append_fits _ rfl (.tmp 97) (.tmp 99) 23 rfl w.heap.size 21 i1 1 hu23 hj z1 ge E.length 24 _ rfl (HEN.out.eu.alloc _) ⟨wr.heap.size, 0, none⟩ 1 1 [.int .i32 v] rfl rfl (news_row (rowIs_new wr [.int .i32 v] 21)) (by simp [Value.oneCell']) (by omega) ?_; intro w3 hown3 hgrow3; clear TK1 _t; have HEV := (show Hid (World.ownsRow _ _ _ _ _ _ _) from ((HEN.out.ev.alloc _).kept hgrow3 (.inr (by simp [Value.ownBlock]; have := HEN.out.ne; omega)))); have HG3 := (show Hid (World.grownBy _ _ _) from hgrow3); have HO3 := (show Hid (World.ownsRow _ _ _ _ _ _ _) from hown3); clear hown3 hgrow3)
              | (at_builtin; have _t := HEV; refine wpList_append_fits _ rfl (.tmp 101) (.tmp 103) 23 rfl w.heap.size 21 i1 1 hu23 hj z1 gv E.length 24 _ rfl (HEV.out.alloc _) ⟨w3.heap.size, 0, none⟩ 1 1 [.int .i32 u] rfl rfl (news_row (rowIs_new w3 [.int .i32 u] 21)) (by simp [Value.oneCell']) (by omega) ?_; intro w4 hown4 hgrow4))
            go_roundw
            case rel =>
              refine ⟨k + 1, by omega, by omega, by go_num, ?_, ?_, ?_⟩
              · rw [HSU.out, HED.out]; simp [huv, hvu]
              · rw [HSU.out, HED.out]; simp [huv, hvu]
              · rw [HSU.out, HED.out, if_neg huv, if_pos hvu]
                exact ends_push HEN.out (by omega) HO3.out HG3.out hown4 hgrow4
            case measure => simp [intOf]; omega
          · have hvu' : ¬ (v : Int) < (u : Int) := by omega
            go_wp2_with (first
              | (at_builtin; have _t := TK1; refine wpList_append_fits _ rfl (.tmp 97) (.tmp 99) 23 rfl w.heap.size 21 i1 1 hu23 hj z1 ge E.length 24 _ rfl (HEN.out.eu.alloc _) ⟨wr.heap.size, 0, none⟩ 1 1 [.int .i32 u] rfl rfl (news_row (rowIs_new wr [.int .i32 u] 21)) (by simp [Value.oneCell']) (by omega) ?_; intro w3 hown3 hgrow3; clear TK1 _t; have HEV := (show Hid (World.ownsRow _ _ _ _ _ _ _) from ((HEN.out.ev.alloc _).kept hgrow3 (.inr (by simp [Value.ownBlock]; have := HEN.out.ne; omega)))); have HG3 := (show Hid (World.grownBy _ _ _) from hgrow3); have HO3 := (show Hid (World.ownsRow _ _ _ _ _ _ _) from hown3); clear hown3 hgrow3)
              | (at_builtin; have _t := HEV; refine wpList_append_fits _ rfl (.tmp 101) (.tmp 103) 23 rfl w.heap.size 21 i1 1 hu23 hj z1 gv E.length 24 _ rfl (HEV.out.alloc _) ⟨w3.heap.size, 0, none⟩ 1 1 [.int .i32 v] rfl rfl (news_row (rowIs_new w3 [.int .i32 v] 21)) (by simp [Value.oneCell']) (by omega) ?_; intro w4 hown4 hgrow4))
            go_roundw
            case rel =>
              refine ⟨k + 1, by omega, by omega, by go_num, ?_, ?_, ?_⟩
              · rw [HSU.out, HED.out]; simp [huv, hvu]
              · rw [HSU.out, HED.out]; simp [huv, hvu]
              · rw [HSU.out, HED.out, if_neg huv, if_neg hvu]
                exact ends_push HEN.out (by omega) HO3.out HG3.out hown4 hgrow4
            case measure => simp [intOf]; omega
      · have HEN := (show Hid (Ends _ _ _ _ _) from hends)
        have HEK := (show Hid _ from edgesOf_ok N (by omega) (L.take k))
        have hel := edgesOf_length N (L.take k)
        have hel2 : (L.take k).length ≤ k := List.length_take_le _ _
        clear hends HE
        generalize edgesOf N (L.take k) = E at *
        by_cases hlt1 : k < m1
        · have hlt2 : ¬ k < 24 := by omega
          go_wp2_with fail
          go_meet
          case rel => exact ⟨E, HEK.out, by omega, rfl, rfl, HEN.out⟩
        · go_wp2_with fail
          go_meet
          case rel => exact ⟨E, HEK.out, by omega, rfl, rfl, HEN.out⟩
  case rest =>
    obtain ⟨E, hE1, hE2, rfl, rfl, hends⟩ := hcut
    have HE1 := (show Hid _ from hE1)
    obtain ⟨m, hm⟩ : ∃ m, m = E.length := ⟨_, rfl⟩
    have HM := (show Hid (m = E.length) from hm)
    rw [← hm] at hE2 ⊢
    have lgv := (hends.ev.lt gv rfl).2
    have HEN := (show Hid (edAt _ _ _ _) from hends.ed)
    have HBL := (show Hid (Below _ _ _) from hends.bel)
    clear hE1 hends hm HE HL
    have TK : True := trivial
    go_upto_region 19 with (at_make; have _t := TK; refine wpList_make_full _ rfl _ _ 69 rfl wc.heap.size 3 i3 (.int .i64 0) 1 hu69 h3 y0 y1 .i64 .i64 _ _ (N + 1) rfl rfl (by omega) (by omega) (by rw [y2]; omega) (by unfold maxLen; omega) (Nat.le_refl _) ?_; intro w3 hown3 hgrow3; clear TK _t)
    have hk3 := Kept.ofGrown hgrow3
    have HED : Hid (edAt w3 ge gv E) := HEN.out.kept hk3 (by simp) (by simp)
    have HB3 : Hid (Below w.heap.size w w3) := HBL.out.grown hgrow3 HBL.out.size (by simp)
    have hr3 := owned_whole hown3
    rw [made_ints] at hr3
    have HR3 : Hid (rowIs w3 wc.heap.size 3 ((cntR E N 0).map (.int .i64))) := by
      show rowIs _ _ _ _
      have : cntR E N 0 = List.replicate (N + 1) 0 := by
        apply List.ext_getElem
        · simp [cntR]
        · intro i h1 h2; simp [cntR, cntK]
      rw [this]; exact hr3
    obtain ⟨bF, hbF⟩ : ∃ bF, bF = wc.heap.size := ⟨_, rfl⟩
    rw [← hbF] at HR3 lgv
    simp only [← hbF]
    have hbF1 : w.heap.size ≤ bF := by have := HBL.out.size; omega
    clear hk3 hown3 hgrow3 hr3 hbF HEN HBL
    go_upto_block 2 with fail
    go_cut [22] (fun v wc => rowIs wc bF 3 ((cntR E N m).map (.int .i64)) ∧ edAt wc ge gv E ∧ Below w.heap.size w wc)
    case first =>
      go_wp2_with fail
      go_loopw [110] (fun q wr => ∃ k : Nat, k ≤ m ∧ q = .int .i64 k ∧ rowIs wr bF 3 ((cntR E N k).map (.int .i64)) ∧ Kept (fun j => j = bF) w3 wr) (fun q _ => m - (intOf q).toNat)
      case atStart => exact ⟨0, Nat.zero_le _, rfl, HR3.out, Kept.refl _ _⟩
      case round =>
        obtain ⟨k, hk, rfl, hrow, hkept⟩ := hrel
        by_cases hlt : k < m
        · have hlt' : k < E.length := by rw [← HM.out]; exact hlt
          have hed := HED.out.kept hkept (by show ¬ ge = bF; omega) (by show ¬ gv = bF; omega)
          obtain ⟨q0, _⟩ := hed.1 k hlt'
          obtain ⟨p1, p2⟩ := HE1.out E[k] (List.getElem_mem hlt')
          have HST := (show Hid _ from cntR_step E N k hlt')
          have hcl := cntK_le (E.take k) (E[k].1 + 1)
          have hc : wr.cell? ⟨bF, E[k].1 + 1, none⟩ = some (.int .i64 ((cntK (E.take k) (E[k].1 + 1) : Nat) : Int)) := by
            rw [hrow.cell, map_at _ _ _ (by rw [cntR_length]; omega), cntR_at E N k _ (by omega)]
          have hf := hrow.free (E[k].1 + 1)
          have hcl2 : (E.take k).length ≤ 24 := by have := List.length_take_le k E; omega
          generalize E[k].1 = u at *
          generalize E[k].2 = v at *
          generalize cntK (E.take k) (u + 1) = old at *
          have HRW := (show Hid (rowIs _ _ _ _) from hrow)
          have HKP := (show Hid (Kept _ _ _) from hkept)
          clear hrow hkept hed HR3
          go_wp2_with fail
          go_roundw
          case rel =>
            refine ⟨k + 1, by omega, by go_num, ?_, HKP.out.setCell (fun _ => rfl) _⟩
            rw [← HST.out]; exact HRW.out.setInt _ _
          case measure => simp [intOf]; omega
        · obtain rfl : k = m := by omega
          have HRW := (show Hid (rowIs _ _ _ _) from hrow)
          have HKP := (show Hid (Kept _ _ _) from hkept)
          clear hrow hkept HR3
          go_wp2_with fail
          go_meet
          case rel =>
            exact ⟨HRW.out, HED.out.kept HKP.out (by show ¬ ge = bF; omega) (by show ¬ gv = bF; omega), ((Kept.ofBelow HB3.out).then HKP.out (fun j hj e => by subst e; exact hbF1)).below (Nat.le_refl _) (fun j hj => by omega)⟩
    case rest =>
      obtain ⟨hrw, hed, hbl⟩ := hcut
      rw [HM.out, sumR_start] at hrw
      have HR3 := (show Hid (rowIs _ _ _ _) from hrw)
      have HED := (show Hid (edAt _ _ _ _) from hed)
      have HB3 := (show Hid (Below _ _ _) from hbl)
      obtain ⟨w5, rfl⟩ : ∃ w5 : World, w5 = wc := ⟨_, rfl⟩
      clear hrw hed hbl
      go_upto_block 4 with fail
      go_cut [23] (fun v wc => rowIs wc bF 3 (((List.range (N + 1)).map fun y => ((firstC E y : Nat) : Int)).map (.int .i64)) ∧ edAt wc ge gv E ∧ Below w.heap.size w wc)
      case first =>
        go_wp2_with fail
        go_loopw [23] (fun q wr => ∃ z : Nat, z ≤ N ∧ q = .int .i64 ((z : Int) + 1) ∧ rowIs wr bF 3 ((sumR E N (z + 1)).map (.int .i64)) ∧ Kept (fun j => j = bF) w5 wr) (fun q _ => N + 1 - (intOf q).toNat)
        case atStart => exact ⟨0, Nat.zero_le _, rfl, HR3.out, Kept.refl _ _⟩
        case round =>
          obtain ⟨z, hz, rfl, hrow, hkept⟩ := hrel
          by_cases hlt : z < N
          · have HST := (show Hid _ from sumR_step E N (z + 1) (by omega))
            have q1 : wr.cell? ⟨bF, z + 1, none⟩ = some (.int .i64 ((cntK E (z + 1) : Nat) : Int)) := by
              rw [hrow.cell, map_at _ _ _ (by rw [sumR_length]; omega), sumR_at E N _ _ (by omega), if_neg (by omega)]
            have q2 : wr.cell? ⟨bF, z, none⟩ = some (.int .i64 ((firstC E z : Nat) : Int)) := by
              rw [hrow.cell, map_at _ _ _ (by rw [sumR_length]; omega), sumR_at E N _ _ (by omega), if_pos (by omega)]
            have hf := hrow.free (z + 1)
            have l1 := cntK_le E (z + 1)
            have l2 := firstC_le E z
            rw [← HM.out] at l1 l2
            rw [Nat.add_sub_cancel] at HST
            generalize cntK E (z + 1) = A at *
            generalize firstC E z = F at *
            have HRW := (show Hid (rowIs _ _ _ _) from hrow)
            have HKP := (show Hid (Kept _ _ _) from hkept)
            have i1 : (0 : Int) ≤ (z : Int) + 1 := by omega
            have i2 : (z : Int) + 1 < ((N + 1 : Nat) : Int) := by omega
            have i3 : (0 : Int) ≤ (z : Int) := by omega
            have i4 : (z : Int) < ((N + 1 : Nat) : Int) := by omega
            clear hrow hkept HR3
            go_wp2_with fail
            go_region
            go_wp2_with fail
            go_roundw
            case rel =>
              refine ⟨z + 1, by omega, by go_num, ?_, (HKP.out.setCell (fun _ => rfl) _).drew⟩
              rw [← HST.out]; exact (HRW.out.setInt _ _).drew
            case measure => simp [intOf]; omega
          · obtain rfl : z = N := by omega
            have HRW := (show Hid (rowIs _ _ _ _) from hrow)
            have HKP := (show Hid (Kept _ _ _) from hkept)
            clear hrow hkept HR3
            go_wp2_with fail
            go_meet
            case rel =>
              refine ⟨?_, HED.out.kept HKP.out (by show ¬ ge = bF; omega) (by show ¬ gv = bF; omega), ((Kept.ofBelow HB3.out).then HKP.out (fun j hj e => by subst e; exact hbF1)).below (Nat.le_refl _) (fun j hj => by omega)⟩
              have := HRW.out
              rwa [sumR_end] at this
      case rest =>
        obtain ⟨hrw, hed, hbl⟩ := hcut
        have HRF := (show Hid (rowIs _ _ _ _) from hrw)
        have HED := (show Hid (edAt _ _ _ _) from hed)
        have HB3 := (show Hid (Below _ _ _) from hbl)
        obtain ⟨w6, rfl⟩ : ∃ w6 : World, w6 = wc := ⟨_, rfl⟩
        have lbF := hrw.lt
        clear hrw hed hbl
        have TK1 : True := trivial
        have HMN : Hid ((((List.range N).map fun y => ((firstC E y : Nat) : Int)).map (Value.int .i64)).length = Nat.min N N) := by show _ = _; rw [List.length_map, List.length_map, List.length_range]; exact (Nat.min_self N).symm
        go_upto_region 31 with (first
          | (at_make; have _t := TK1; refine wpList_make_full _ rfl _ _ 23 rfl w6.heap.size 21 i1 (.int .i32 0) 1 hu23 hj z0 z1 .i64 .i64 _ _ m rfl rfl rfl rfl (by rw [z2]; omega) (by unfold maxLen; omega) (Nat.le_refl _) ?_; intro w7 hown7 hgrow7; clear TK1 _t; have HG7 := (show Hid (World.grownBy _ _ _) from hgrow7); have HU7 := (show Hid (rowIs w7 w6.heap.size 21 _) from owned_whole hown7); have l7 := HU7.out.lt; clear hown7 hgrow7)
          | (at_make; have _t := HG7; refine wpList_make_full _ rfl _ _ 69 rfl w7.heap.size 3 i3 (.int .i64 0) 1 hu69 h3 y0 y1 .i64 .i64 _ _ N rfl rfl rfl rfl (by rw [y2]; omega) (by unfold maxLen; omega) (Nat.le_refl _) ?_; intro w8 hown8 hgrow8; have HG8 := (show Hid (World.grownBy _ _ _) from hgrow8); have HP8 := (show Hid (w8.heap[w7.heap.size]? = some (.cells _ 3 (0, 0))) from owned_whole hown8); have CPF := (show Hid (∀ (j : Nat) (u : Value), (((List.range N).map fun y => ((firstC E y : Nat) : Int)).map (Value.int .i64))[j]? = some u → w8.cell? ((⟨bF, 0, none⟩ : Addr).add j) = some u) from news_prefix ((HRF.out.grown HG7.out (by simp)).grown hgrow8 (by simp)) (range_prefix _ _ N)); clear hown8 hgrow8 _t)
          | (have _t := HP8; refine wpList_copy_splice rfl (.tmp 145) (.tmp 148) 69 69 rfl 3 hu69 Yba.size3 (some ⟨w7.heap.size, 0, none⟩) (some ⟨bF, 0, none⟩) N N N (N + 1) rfl rfl w7.heap.size 0 _ 3 HP8.out (((List.range N).map fun y => ((firstC E y : Nat) : Int)).map (Value.int .i64)) HMN.out ?_ ?_ (oneCell_ints _ _) w7.heap.size w8 (Below.refl _ _) (Nat.le_refl _) ?_; (intro _; exact ⟨rfl, _, rfl, CPF.out⟩); (simp [madeCells]); intro w9 HG9 hb9; have HO9 : Hid (rowIs w9 w7.heap.size 3 ((posR E N 0).map (.int .i64))) := (show rowIs _ _ _ _ from (by have hg9 := HG9.out; rw [splice_whole (by simp [madeCells]), posR_zero] at hg9; exact hg9)); have HB9 := (show Hid (Below _ _ _) from hb9); clear HP8 _t HG9 hb9 CPF))
        have k69 : Kept (fun _ => False) w6 w9 := (((Kept.ofGrown HG7.out).mono (fun _ _ e => by simp at e)).then ((Kept.ofGrown HG8.out).mono (fun _ _ e => by simp at e)) (fun _ _ e => e)).then (Kept.ofBelow HB9.out) (fun j hj e => by omega)
        have HRF9 := (show Hid (rowIs _ _ _ _) from k69.row HRF.out id)
        have HED9 := (show Hid (edAt _ _ _ _) from HED.out.kept k69 id id)
        have HB99 : Hid (Below w.heap.size w w9) := ((Kept.ofBelow HB3.out).then k69 (fun _ _ e => e.elim)).below (Nat.le_refl _) (fun j hj => by omega)
        have l8 := HG8.out.size
        have l9 := HO9.out.lt
        obtain ⟨bU, hbU⟩ : ∃ bU, bU = w6.heap.size := ⟨_, rfl⟩
        obtain ⟨bO, hbO⟩ : ∃ bO, bO = w7.heap.size := ⟨_, rfl⟩
        have HU9 : Hid (rowIs w9 bU 21 ((List.replicate E.length (0 : Int)).map (.int .i32))) := by
          have h := HU7.out
          rw [made_ints, HM.out, ← hbU] at h
          exact (h.grown HG8.out (by simp)).below HB9.out (by omega)
        rw [← hbO] at HO9 l9 l7
        rw [← hbU] at lbF l7
        simp only [← hbU, ← hbO]
        clear hbU hbO k69 HG7 HG8 HB9 HRF HED HB3 HU7 l8
        go_upto_block 6 with fail
        go_cut [26] (fun v wc => (∃ S, Laid E m S ∧ rowIs wc bU 21 (S.map (.int .i32))) ∧ rowIs wc bF 3 (((List.range (N + 1)).map fun y => ((firstC E y : Nat) : Int)).map (.int .i64)) ∧ edAt wc ge gv E ∧ Below w.heap.size w wc ∧ bO < wc.heap.size)
        case first =>
          go_wp2_with fail
          go_loopw [152] (fun q wr => ∃ k : Nat, k ≤ m ∧ q = .int .i64 k ∧ (∃ S, Laid E k S ∧ rowIs wr bU 21 (S.map (.int .i32))) ∧ rowIs wr bO 3 ((posR E N k).map (.int .i64)) ∧ Kept (fun j => j = bU ∨ j = bO) w9 wr) (fun q _ => m - (intOf q).toNat)
          case atStart => exact ⟨0, Nat.zero_le _, rfl, ⟨_, laid_zero E, HU9.out⟩, HO9.out, Kept.refl _ _⟩
          case round =>
            obtain ⟨k, hk, rfl, ⟨S, hS, hrow⟩, hrow2, hkept⟩ := hrel
            by_cases hlt : k < m
            · have hlt' : k < E.length := by rw [← HM.out]; exact hlt
              have hed := HED9.out.kept hkept (by show ¬ (ge = bU ∨ ge = bO); omega) (by show ¬ (gv = bU ∨ gv = bO); omega)
              obtain ⟨q0, q1⟩ := hed.1 k hlt'
              obtain ⟨p1, p2⟩ := HE1.out E[k] (List.getElem_mem hlt')
              have HST := (show Hid _ from posR_step E N k hlt')
              have HLS := (show Hid (Laid _ _ _) from laid_step E k hlt' S hS)
              have hlt3 := sucs_take_lt E k hlt'
              have f1 := firstC_succ E E[k].1
              have f2 := firstC_le E (E[k].1 + 1)
              have hpl : firstC E E[k].1 + (sucs (E.take k) E[k].1).length < m := by rw [HM.out]; omega
              have q2 : wr.cell? ⟨bO, E[k].1, none⟩ = some (.int .i64 ((firstC E E[k].1 + (sucs (E.take k) E[k].1).length : Nat) : Int)) := by
                rw [hrow2.cell, map_at _ _ _ (by rw [posR_length]; omega), posR_at E N k _ (by omega)]
              have q3 : wr.cell? ⟨bU, firstC E E[k].1 + (sucs (E.take k) E[k].1).length, none⟩ = some (.int .i32 (S.getD (firstC E E[k].1 + (sucs (E.take k) E[k].1).length) 0)) := by
                rw [hrow.cell, map_at _ _ _ (by rw [hS.1, ← HM.out]; exact hpl)]
              have hf1 := hrow.free (firstC E E[k].1 + (sucs (E.take k) E[k].1).length)
              have hf2 := hrow2.free E[k].1
              generalize firstC E E[k].1 + (sucs (E.take k) E[k].1).length = ps at *
              generalize E[k].1 = u at *
              generalize E[k].2 = v at *
              generalize S.getD ps 0 = old at *
              have HRW := (show Hid (rowIs _ _ _ _) from hrow)
              have HRW2 := (show Hid (rowIs _ _ _ _) from hrow2)
              have HKP := (show Hid (Kept _ _ _) from hkept)
              have j1 : (k : Int) < (m : Int) := by omega
              have j2 : (u : Int) < (N : Int) := by omega
              have j3 : (ps : Int) < (m : Int) := by omega
              have j4 : (0 : Int) ≤ (ps : Int) := by omega
              have j5 : (0 : Int) ≤ (u : Int) := by omega
              have j6 : (0 : Int) ≤ (k : Int) := by omega
              have n1 : ¬ bU = bO := by omega
              have n2 : ¬ bU = ge := by omega
              have n3 : ¬ bU = gv := by omega
              clear hrow hrow2 hkept hed HO9 HU9 hlt3 f1 f2 hS
              go_wp2_with fail
              go_region
              go_wp2_with fail
              go_roundw
              case rel =>
                refine ⟨k + 1, by omega, by go_num, ⟨_, HLS.out, ?_⟩, ?_, ((HKP.out.setCell (fun _ => .inl rfl) _).setCell (fun _ => .inr rfl) _).drew⟩
                · exact ((HRW.out.setInt _ _).other (p := ⟨bO, u, none⟩) n1 _).drew
                · rw [← HST.out]; exact ((HRW2.out.other (p := ⟨bU, ps, none⟩) (fun e => n1 e.symm) _).setInt _ _).drew
              case measure => simp [intOf]; omega
            · obtain rfl : k = m := by omega
              have HRW := (show Hid (rowIs _ _ _ _) from hrow)
              have HSS := (show Hid (Laid _ _ _) from hS)
              have HRW2 := (show Hid (rowIs _ _ _ _) from hrow2)
              have HKP := (show Hid (Kept _ _ _) from hkept)
              clear hrow hkept hrow2 hS HO9 HU9
              go_wp2_with fail
              go_meet
              case rel =>
                exact ⟨⟨S, HSS.out, HRW.out⟩, HKP.out.row HRF9.out (by show ¬ (bF = bU ∨ bF = bO); omega), HED9.out.kept HKP.out (by show ¬ (ge = bU ∨ ge = bO); omega) (by show ¬ (gv = bU ∨ gv = bO); omega), ((Kept.ofBelow HB99.out).then HKP.out (fun j hj e => by omega)).below (Nat.le_refl _) (fun j hj => by omega), HRW2.out.lt⟩
        case rest =>
          obtain ⟨⟨S, hS, hru⟩, hrf, hed, hbl, hlO⟩ := hcut
          have HSS := (show Hid (Laid _ _ _) from hS)
          have HRU := (show Hid (rowIs _ _ _ _) from hru)
          have HRF := (show Hid (rowIs _ _ _ _) from hrf)
          have HED := (show Hid (edAt _ _ _ _) from hed)
          have HB3 := (show Hid (Below _ _ _) from hbl)
          obtain ⟨w10, rfl⟩ : ∃ w10 : World, w10 = wc := ⟨_, rfl⟩
          have lbU := hru.lt
          clear hS hru hrf hed hbl HRF9 HED9 HB99 HU9 HO9
          have TK1 : True := trivial
          go_upto_region 38 with (at_make; have _t := TK1; refine wpList_make_full _ rfl _ _ 23 rfl w10.heap.size 21 i1 (.int .i32 0) 1 hu23 hj z0 z1 .i64 .i64 _ _ N rfl rfl rfl rfl (by rw [z2]; omega) (by unfold maxLen; omega) (Nat.le_refl _) ?_; intro w11 hown11 hgrow11; clear TK1 _t)
          have k1 : Kept (fun _ => False) w10 w11 := (Kept.ofGrown hgrow11).mono (fun _ _ e => by simp at e)
          have HRU1 := (show Hid (rowIs _ _ _ _) from k1.row HRU.out id)
          have HRF1 := (show Hid (rowIs _ _ _ _) from k1.row HRF.out id)
          have HED1 := (show Hid (edAt _ _ _ _) from HED.out.kept k1 id id)
          have HB1 : Hid (Below w.heap.size w w11) := ((Kept.ofBelow HB3.out).then k1 (fun _ _ e => e.elim)).below (Nat.le_refl _) (fun j hj => by omega)
          obtain ⟨b0', hb0⟩ : ∃ b0', b0' = w10.heap.size := ⟨_, rfl⟩
          have HW0 : Hid (rowIs w11 b0' 21 (((List.range N).map fun x => if x < 0 then Wt.getD x 0 else 0).map (.int .i32))) := by
            have h := owned_whole hown11
            rw [made_ints, ← hb0] at h
            have e : ((List.range N).map fun x => if x < 0 then Wt.getD x 0 else 0) = List.replicate N 0 := by
              apply List.ext_getElem
              · simp
              · intro i h1 h2; simp
            rw [e]; exact h
          rw [← hb0] at lbU hlO
          simp only [← hb0]
          clear k1 hown11 hgrow11 hb0 HRU HRF HED HB3
          have HWL : Hid (Wt.length = m2) := by have := HW.out.1; rwa [List.length_map] at this
          go_upto_block 8 with fail
          go_cut [28] (fun v wc => rowIs wc b0' 21 (((List.range N).map fun x => if x < m2 then Wt.getD x 0 else 0).map (.int .i32)) ∧ Kept (fun j => j = b0') w11 wc)
          case first =>
            go_wp2_with fail
            go_loopw [28] (fun q wr => ∃ k : Nat, k ≤ N ∧ k ≤ m2 ∧ q = .int .i64 k ∧ rowIs wr b0' 21 (((List.range N).map fun x => if x < k then Wt.getD x 0 else 0).map (.int .i32)) ∧ Kept (fun j => j = b0') w11 wr) (fun q _ => N - (intOf q).toNat)
            case atStart => exact ⟨0, Nat.zero_le _, Nat.zero_le _, rfl, HW0.out, Kept.refl _ _⟩
            case round =>
              obtain ⟨k, hk1, hk2, rfl, hrow, hkept⟩ := hrel
              have HRW := (show Hid (rowIs _ _ _ _) from hrow)
              have HKP := (show Hid (Kept _ _ _) from hkept)
              by_cases hlt : k < N
              · by_cases hlt2 : k < m2
                · obtain ⟨b, off, rfl, hb, hcell⟩ := HW.out.at hlt2
                  rw [map_at _ _ _ (by rw [HWL.out]; exact hlt2)] at hcell
                  have hc := (((Kept.ofBelow HB1.out).then hkept (fun j hj e => by omega)).cell (p := ⟨b, off + k, none⟩) hb (by show ¬ w.heap.size ≤ b; omega)).trans hcell
                  obtain ⟨l1, l2⟩ := HWB.out (Wt.getD k 0) (by rw [List.getD_eq_getElem?_getD, List.getElem?_eq_getElem (by rw [HWL.out]; exact hlt2)]; simp)
                  have ct : wr.cell? ⟨b0', k, none⟩ = some (.int .i32 0) := by
                    rw [hrow.cell, map_at _ _ _ (by simp; exact hlt)]; simp [hlt]
                  have ft := hrow.free k
                  have HST : Hid ((((List.range N).map fun x => if x < k then Wt.getD x 0 else 0).set k (Wt.getD k 0)) = (List.range N).map fun x => if x < k + 1 then Wt.getD x 0 else 0) := by
                    show _ = _
                    rw [range_set]
                    refine List.map_congr_left fun x _ => ?_
                    by_cases hx : x = k
                    · subst hx; rw [if_pos rfl, if_pos (by omega)]
                    · rw [if_neg hx]
                      by_cases h1 : x < k
                      · rw [if_pos h1, if_pos (by omega)]
                      · rw [if_neg h1, if_neg (by omega)]
                  generalize Wt.getD k 0 = xk at *
                  clear hrow hkept hcell HW0
                  go_wp2_with fail
                  go_roundw
                  case rel =>
                    refine ⟨k + 1, by omega, by omega, by go_num, ?_, HKP.out.setCell (fun _ => rfl) _⟩
                    rw [← HST.out]; exact HRW.out.setInt _ _
                  case measure => simp [intOf]; omega
                · obtain rfl : k = m2 := by omega
                  clear hrow hkept HW0
                  go_wp2_with fail
                  go_meet
                  case rel => exact ⟨HRW.out, HKP.out⟩
              · obtain rfl : k = N := by omega
                clear hrow hkept HW0
                go_wp2_with fail
                go_meet
                case rel =>
                  refine ⟨?_, HKP.out⟩
                  have := HRW.out
                  have e : ((List.range k).map fun x => if x < k then Wt.getD x 0 else 0) = (List.range k).map fun x => if x < m2 then Wt.getD x 0 else 0 := List.map_congr_left fun x hx => by
                    have := List.mem_range.1 hx
                    rw [if_pos this, if_pos (by omega)]
                  rwa [e] at this
          case rest =>
            obtain ⟨hrw, hkp⟩ := hcut
            have HW0' := (show Hid (rowIs _ _ _ _) from hrw)
            have lb0 := hrw.lt
            have HRU2 := (show Hid (rowIs _ _ _ _) from hkp.row HRU1.out (by show ¬ bU = b0'; omega))
            have HRF2 := (show Hid (rowIs _ _ _ _) from hkp.row HRF1.out (by show ¬ bF = b0'; omega))
            have HED2 := (show Hid (edAt _ _ _ _) from HED1.out.kept hkp (by show ¬ ge = b0'; omega) (by show ¬ gv = b0'; omega))
            have HB2 : Hid (Below w.heap.size w wc) := ((Kept.ofBelow HB1.out).then hkp (fun j hj e => by omega)).below (Nat.le_refl _) (fun j hj => by omega)
            obtain ⟨w12, rfl⟩ : ∃ w12 : World, w12 = wc := ⟨_, rfl⟩
            clear hrw hkp HW0 HRU1 HRF1 HED1 HB1
            have hTi0 : (0 : Int) ≤ (T : Int) := by omega
            have hTi1 : (T : Int) ≤ 64 := by omega
            go_upto_region 44 with fail
            obtain ⟨r0, hr0, hre⟩ := and_nat rdy (IntKind.u64.wrap (2 ^ T) - 1) hr
            rw [hre]
            generalize IntKind.u64.wrap (IntKind.u64.wrap (2 ^ T) - 1) = mask
            generalize IntKind.u64.wrap (2 ^ T) = mask1
            have HPR : Hid (Pre w12 ge gv bF bU b0' E N S ((List.range N).map fun x => if x < m2 then Wt.getD x 0 else 0)) := ⟨HED2.out, HRF2.out, HRU2.out, HW0'.out⟩
            clear hre HED2 HRF2 HRU2 HW0'
            obtain ⟨cs1, d0, d3, d4, hbd1⟩ := build74t (some ⟨w12.heap.size, 0, none⟩) T T
            have HD0 := (show Hid _ from d0)
            have HD3 := (show Hid _ from d3)
            have HD4 := (show Hid _ from d4)
            have HBD1 := (show Hid _ from hbd1)
            clear d0 d3 d4 hbd1
            have TK1 : True := trivial
            go_wp2_with (first
              | (at_make; have _t := TK1; refine wpList_make_full _ rfl _ _ 68 rfl w12.heap.size 144 i144 (.int .i64 0) 1 hu68 h144 x0 x1 .i64 .i64 _ _ T rfl rfl rfl rfl (by rw [x2]; omega) (by unfold maxLen; omega) (Nat.le_refl _) ?_; intro w13 hown13 hgrow13; clear TK1 _t; have HG13 := (show Hid (World.grownBy _ _ _) from hgrow13); have l13 := (hown13.lt w12.heap.size rfl).2; clear hown13 hgrow13)
              | (have _t := HG13; refine wpList_build_as rfl 74 [(0, .tmp 207)] rfl [(0, .slice (some ⟨w12.heap.size, 0, none⟩) T T)] (by rfl) cs1.toArray HBD1.out ?_; clear _t; refine Hid.out ?_))
            unfold Hid
            iterate 3 (first | go_guarded | go_step)
            have hrC : rowIs (w13.alloc (Obj.cells cs1.toArray 74)) w13.heap.size 74 cs1 := rowIs_new w13 cs1 74
            have hkC : Kept (fun _ => False) w12 (w13.alloc (Obj.cells cs1.toArray 74)) := (((Kept.ofGrown HG13.out).mono (fun _ _ e => by simp at e)).alloc _)
            obtain ⟨bC, hbC⟩ : ∃ bC, bC = w13.heap.size := ⟨_, rfl⟩
            rw [← hbC] at hrC l13
            generalize w13.alloc (Obj.cells cs1.toArray 74) = w14 at *
            simp only [← hbC]
            have e3 := (hrC.cell 3).trans HD3.out
            have e4 := (hrC.cell 4).trans HD4.out
            have f3 := hrC.free 3
            have f4 := hrC.free 4
            have HRC := (show Hid (rowIs _ _ _ _) from hrC)
            have HKC := (show Hid (Kept _ _ _) from hkC)
            have lC := hrC.lt
            clear hrC hkC hbC HG13 HBD1 HD3 HD4
            go_upto_region 47 with fail
            have HRC2 : Hid (rowIs ((w14.setCell ⟨bC, 3, none⟩ (.slice (some ⟨bF, 0, none⟩) (N + 1) (N + 1))).setCell ⟨bC, 4, none⟩ (.slice (some ⟨bU, 0, none⟩) m m)) bC 74 ((cs1.set 3 (.slice (some ⟨bF, 0, none⟩) (N + 1) (N + 1))).set 4 (.slice (some ⟨bU, 0, none⟩) m m))) := (HRC.out.set 3 _).set 4 _
            have HKC2 : Hid (Kept (fun _ => False) w12 ((w14.setCell ⟨bC, 3, none⟩ (.slice (some ⟨bF, 0, none⟩) (N + 1) (N + 1))).setCell ⟨bC, 4, none⟩ (.slice (some ⟨bU, 0, none⟩) m m))) := (HKC.out.setCell (p := ⟨bC, 3, none⟩) (fun h => absurd h (by show ¬ bC < _; omega)) _).setCell (p := ⟨bC, 4, none⟩) (fun h => absurd h (by show ¬ bC < _; omega)) _
            have hcl : 4 < cs1.length ∧ 3 < cs1.length := by
              have h3 := HRC.out.cell 3
              have h4 := HRC.out.cell 4
              rw [e3] at h3
              rw [e4] at h4
              exact ⟨(List.getElem?_eq_some_iff.1 h4.symm).1, (List.getElem?_eq_some_iff.1 h3.symm).1⟩
            generalize (w14.setCell ⟨bC, 3, none⟩ (.slice (some ⟨bF, 0, none⟩) (N + 1) (N + 1))).setCell ⟨bC, 4, none⟩ (.slice (some ⟨bU, 0, none⟩) m m) = w15 at *
            have k0 : w15.cell? ⟨bC, 0, none⟩ = some (.slice (some ⟨w12.heap.size, 0, none⟩) T T) := by
              rw [HRC2.out.cell, List.getElem?_set_ne (by omega), List.getElem?_set_ne (by omega)]; exact HD0.out
            have k3 : w15.cell? ⟨bC, 3, none⟩ = some (.slice (some ⟨bF, 0, none⟩) (N + 1) (N + 1)) := by
              rw [HRC2.out.cell, List.getElem?_set_ne (by omega), List.getElem?_set_self (by omega)]
            have k4 : w15.cell? ⟨bC, 4, none⟩ = some (.slice (some ⟨bU, 0, none⟩) m m) := by
              rw [HRC2.out.cell, List.getElem?_set_self (by simp; omega)]
            have HCC : Hid (w15.cell? ⟨bC, 0, none⟩ = some (.slice (some ⟨w12.heap.size, 0, none⟩) T T) ∧ w15.cell? ⟨bC, 3, none⟩ = some (.slice (some ⟨bF, 0, none⟩) (N + 1) (N + 1)) ∧ w15.cell? ⟨bC, 4, none⟩ = some (.slice (some ⟨bU, 0, none⟩) m m)) := ⟨k0, k3, k4⟩
            have lC2 := HRC2.out.lt
            have HPR2 := (show Hid (Pre _ _ _ _ _ _ _ _ _ _) from HPR.out.kept HKC2.out (fun _ _ => id))
            have HB15 : Hid (Below w.heap.size w w15) := ((Kept.ofBelow HB2.out).then HKC2.out (fun _ _ e => e.elim)).below (Nat.le_refl _) (fun j hj => by omega)
            clear k0 k3 k4 e3 e4 f3 f4 hcl HRC HKC HRC2 HKC2 HPR HB2 HD0 lC
            have TK2 : True := trivial
            go_upto_region 48 with (at_make; have _t := TK2; refine wpList_make_full _ rfl _ _ 23 rfl w15.heap.size 21 i1 (.int .i32 0) 1 hu23 hj z0 z1 .i64 .i64 _ _ T rfl rfl rfl rfl (by rw [z2]; omega) (by unfold maxLen; omega) (Nat.le_refl _) ?_; intro w16 hown16 hgrow16; clear TK2 _t)
            have k16 : Kept (fun _ => False) w15 w16 := (Kept.ofGrown hgrow16).mono (fun _ _ e => by simp at e)
            obtain ⟨bL, hbL⟩ : ∃ bL, bL = w15.heap.size := ⟨_, rfl⟩
            have HL16 : Hid (rowIs w16 bL 21 (((List.range T).map fun (x : Nat) => if x < 0 then (x : Int) else 0).map (.int .i32))) := by
              have h := owned_whole hown16
              rw [made_ints, ← hbL] at h
              have e : ((List.range T).map fun (x : Nat) => if x < 0 then (x : Int) else 0) = List.replicate T 0 := by
                apply List.ext_getElem
                · simp
                · intro i h1 h2; simp
              rw [e]; exact h
            have HK16 := (show Hid (Kept _ _ _) from k16)
            rw [← hbL] at lC2
            simp only [← hbL]
            clear k16 hown16 hgrow16 hbL
            go_upto_block 10 with fail
            go_cut [33] (fun v wc => rowIs wc bL 21 (((List.range T).map fun (x : Nat) => (x : Int)).map (.int .i32)) ∧ Kept (fun j => j = bL) w16 wc)
            case first =>
              go_wp2_with fail
              go_loopw [33] (fun q wr => ∃ k : Nat, k ≤ T ∧ q = .int .i64 k ∧ rowIs wr bL 21 (((List.range T).map fun (x : Nat) => if x < k then (x : Int) else 0).map (.int .i32)) ∧ Kept (fun j => j = bL) w16 wr) (fun q _ => T - (intOf q).toNat)
              case atStart => exact ⟨0, Nat.zero_le _, rfl, HL16.out, Kept.refl _ _⟩
              case round =>
                obtain ⟨k, hk1, rfl, hrow, hkept⟩ := hrel
                have HRW := (show Hid (rowIs _ _ _ _) from hrow)
                have HKP := (show Hid (Kept _ _ _) from hkept)
                by_cases hlt : k < T
                · have ct : wr.cell? ⟨bL, k, none⟩ = some (.int .i32 0) := by
                    rw [hrow.cell, map_at _ _ _ (by simp; exact hlt)]; simp [hlt]
                  have ft := hrow.free k
                  have HST : Hid ((((List.range T).map fun (x : Nat) => if x < k then (x : Int) else 0).set k (k : Int)) = (List.range T).map fun (x : Nat) => if x < k + 1 then (x : Int) else 0) := by
                    show _ = _
                    rw [range_set]
                    refine List.map_congr_left fun x _ => ?_
                    by_cases hx : x = k
                    · subst hx; rw [if_pos rfl, if_pos (by omega)]
                    · rw [if_neg hx]
                      by_cases h1 : x < k
                      · rw [if_pos h1, if_pos (by omega)]
                      · rw [if_neg h1, if_neg (by omega)]
                  clear hrow hkept HL16
                  go_wp2_with fail
                  go_roundw
                  case rel =>
                    refine ⟨k + 1, by omega, by go_num, ?_, HKP.out.setCell (fun _ => rfl) _⟩
                    rw [← HST.out]; exact HRW.out.setInt _ _
                  case measure => simp [intOf]; omega
                · obtain rfl : k = T := by omega
                  clear hrow hkept HL16
                  go_wp2_with fail
                  go_meet
                  case rel =>
                    refine ⟨?_, HKP.out⟩
                    have := HRW.out
                    have e : ((List.range k).map fun (x : Nat) => if x < k then (x : Int) else 0) = (List.range k).map fun (x : Nat) => (x : Int) := List.map_congr_left fun x hx => by
                      rw [if_pos (List.mem_range.1 hx)]
                    rwa [e] at this
            case rest =>
              obtain ⟨hrl, hkl⟩ := hcut
              have HRL := (show Hid (rowIs _ _ _ _) from hrl)
              have lbL := hrl.lt
              have k17 : Kept (fun j => j = bL) w15 wc := HK16.out.mono (fun _ _ e => e.elim) |>.trans hkl
              obtain ⟨w0f, hw0⟩ : ∃ w0f : Nat → Int, w0f = fun x => if x < m2 then Wt.getD x 0 else 0 := ⟨_, rfl⟩
              have HWF : Hid (∀ x, -128 ≤ w0f x ∧ w0f x ≤ 127) := by
                intro x
                rw [hw0]
                dsimp only
                split
                · rename_i hx
                  have hx' : x < Wt.length := by rw [HWL.out]; exact hx
                  have := HWB.out _ (List.getElem_mem hx')
                  simpa [hx'] using this
                · omega
              have lO := HPR2.out.rz.lt
              have HPR3 : Hid (Pre wc ge gv bF bU b0' E N S ((List.range N).map w0f)) := by
                rw [hw0]
                refine HPR2.out.kept k17 ?_
                rintro b (rfl | rfl | rfl | rfl | rfl) <;> (show ¬ _ = bL; omega)
              obtain ⟨q0, q3, q4⟩ := HCC.out
              have go17 : ∀ o, wc.cell? ⟨bC, o, none⟩ = w15.cell? ⟨bC, o, none⟩ := fun o => k17.cell (p := ⟨bC, o, none⟩) (show bC < w15.heap.size from World.block_lt_of_cell? w15 ⟨bC, 0, none⟩ q0) (by show ¬ bC = bL; omega)
              have HC3 : Hid (wc.cell? ⟨bC, 0, none⟩ = some (.slice (some ⟨w12.heap.size, 0, none⟩) T T) ∧ wc.cell? ⟨bC, 3, none⟩ = some (.slice (some ⟨bF, 0, none⟩) (N + 1) (N + 1)) ∧ wc.cell? ⟨bC, 4, none⟩ = some (.slice (some ⟨bU, 0, none⟩) m m)) := ⟨(go17 _).trans q0, (go17 _).trans q3, (go17 _).trans q4⟩
              have HB17 : Hid (Below w.heap.size w wc) := ((Kept.ofBelow HB15.out).then k17 (fun j hj e => by omega)).below (Nat.le_refl _) (fun j hj => by omega)
              obtain ⟨w17, rfl⟩ : ∃ w17 : World, w17 = wc := ⟨_, rfl⟩
              clear hrl hkl k17 q0 q3 q4 go17 hw0 HPR2 HCC HB15 HL16 HK16 HW HWB HWL
              have lb15 : bC < w17.heap.size := by omega
              have lO' : b0' < w17.heap.size := by omega
              clear lO
              have TK3 : True := trivial
              have CPZ : Hid (∀ j u, (((List.range N).map w0f).map (Value.int .i32))[j]? = some u → w17.cell? ((⟨b0', 0, none⟩ : Addr).add j) = some u) := news_row HPR3.out.rz
              go_upto_region 54 with (first
                | (at_make; have _t := TK3; refine wpList_make_full _ rfl _ _ 23 rfl w17.heap.size 21 i1 (.int .i32 0) 1 hu23 hj z0 z1 .i64 .i64 _ _ N rfl rfl rfl rfl (by rw [z2]; omega) (by unfold maxLen; omega) (Nat.le_refl _) ?_; intro w18 hown18 hgrow18; clear TK3 _t; have HP18 := (show Hid (rowIs _ _ _ _) from owned_whole hown18); have HK18 : Hid (Kept (fun _ => False) w17 w18) := (Kept.ofGrown hgrow18).mono (fun _ _ e => by simp at e); have CPF : Hid (∀ j u, (((List.range N).map w0f).map (Value.int .i32))[j]? = some u → w18.cell? ((⟨b0', 0, none⟩ : Addr).add j) = some u) := (news_row (HK18.out.row HPR3.out.rz id)); clear hown18 hgrow18)
                | (have _t := HP18; refine wpList_copy_splice rfl (.tmp 234) (.tmp 235) 23 23 rfl 21 hu23 Yba.size21 (some ⟨w17.heap.size, 0, none⟩) (some ⟨b0', 0, none⟩) N N N N rfl rfl w17.heap.size 0 _ 21 HP18.out (((List.range N).map w0f).map (Value.int .i32)) (by simp) ?_ ?_ (oneCell_ints _ _) w17.heap.size w18 (Below.refl _ _) (Nat.le_refl _) ?_; (intro _; exact ⟨rfl, _, rfl, CPF.out⟩); (simp [madeCells]); intro w19 HG19 hb19; have HO19 : Hid (rowIs w19 w17.heap.size 21 (((List.range N).map w0f).map (.int .i32))) := (show rowIs _ _ _ _ from (by have hg9 := HG19.out; rw [splice_whole (by simp [madeCells])] at hg9; exact hg9)); have HB19 := (show Hid (Below _ _ _) from hb19); clear HP18 _t HG19 hb19 CPF))
              have k19 : Kept (fun _ => False) w17 w19 := HK18.out.then (Kept.ofBelow HB19.out) (fun j hj h => absurd h (by omega))
              have lO9 := HO19.out.lt
              obtain ⟨bW, hbW⟩ : ∃ bW, bW = w17.heap.size := ⟨_, rfl⟩
              rw [← hbW] at HO19 lO9 lbL lb15 lO'
              have HPR4 := (show Hid (Pre _ _ _ _ _ _ _ _ _ _) from HPR3.out.kept k19 (fun _ _ => id))
              have HRL4 := (show Hid (rowIs _ _ _ _) from k19.row HRL.out id)
              obtain ⟨q0, q3, q4⟩ := HC3.out
              have go17 : ∀ o, w19.cell? ⟨bC, o, none⟩ = w17.cell? ⟨bC, o, none⟩ := fun o => k19.cell (p := ⟨bC, o, none⟩) (show bC < w17.heap.size from World.block_lt_of_cell? w17 ⟨bC, 0, none⟩ q0) id
              have HC4 : Hid (w19.cell? ⟨bC, 0, none⟩ = some (.slice (some ⟨w12.heap.size, 0, none⟩) T T) ∧ w19.cell? ⟨bC, 3, none⟩ = some (.slice (some ⟨bF, 0, none⟩) (N + 1) (N + 1)) ∧ w19.cell? ⟨bC, 4, none⟩ = some (.slice (some ⟨bU, 0, none⟩) m m)) := ⟨(go17 _).trans q0, (go17 _).trans q3, (go17 _).trans q4⟩
              have HB4 : Hid (Below w.heap.size w w19) := ((Kept.ofBelow HB17.out).then k19 (fun _ _ e => e.elim)).below (Nat.le_refl _) (fun j hj => by omega)
              simp only [← hbW]
              clear hbW k19 q0 q3 q4 go17 HPR3 HRL HC3 HB17 HK18 HB19 CPZ
              have TK4 : True := trivial
              go_wp2_with (first
                | (at_make; have _t := TK4; refine wpList_make_full _ rfl _ _ 29 rfl w19.heap.size 4 i4 (.bool false) 1 hu29 h4 v0 v1 .i64 .i64 _ _ N rfl rfl rfl rfl (by rw [v2]; omega) (by unfold maxLen; omega) (Nat.le_refl _) ?_; intro w20 hown20 hgrow20; clear TK4 _t; have HP20 := (show Hid (rowIs _ _ _ _) from owned_whole hown20); have HK20 : Hid (Kept (fun _ => False) w19 w20) := (Kept.ofGrown hgrow20).mono (fun _ _ e => by simp at e); clear hown20 hgrow20; have TK5 : True := trivial)
                | (have _t := TK5; refine wpList_buildSlice_as rfl 22 26 1 [(0, .tmp 242)] rfl w20.heap.size rfl (some 243) rfl und22 [(0, .int .u64 r0)] (by rfl) _ (bs22 _) ?_; clear TK5 _t; have TK6 : True := trivial)
                | (have _t := TK6; refine wpList_buildSlice_as rfl 77 22 1 [(0, .tmp 243)] rfl (w20.heap.size + 1) (World.size_alloc _ _) (some 244) rfl und77 [(0, .slice (some ⟨w20.heap.size, 0, none⟩) 1 1)] (by rfl) _ (bs77 _ _ _) ?_; clear TK6 _t; have TK7 : True := trivial)
                | (have _t := TK7; refine wpList_build_as rfl 79 [(0, .tmp 244)] rfl [(0, .slice (some ⟨w20.heap.size + 1, 0, none⟩) 1 1)] (by rfl) _ (run79 _ _ _) ?_; clear TK7 _t; refine Hid.out ?_))
              unfold Hid
              obtain ⟨cs2, e0, e1, e2, e5, e10, hbd2⟩ := build84s (some ⟨bC, 0, none⟩) (some ⟨bW, 0, none⟩) (some ⟨w19.heap.size, 0, none⟩) (some ⟨bL, 0, none⟩) (some ⟨w20.heap.size + 1, 0, none⟩) N N N N T T 1 1
              refine wpList_build_as rfl 84 [(0, .tmp 237), (1, .tmp 238), (2, .tmp 240), (4, .tmp 241), (9, .tmp 245)] rfl [(0, .pointer (some ⟨bC, 0, none⟩)), (1, .slice (some ⟨bW, 0, none⟩) N N), (2, .slice (some ⟨w19.heap.size, 0, none⟩) N N), (4, .slice (some ⟨bL, 0, none⟩) T T), (9, .agg #[.slice (some ⟨w20.heap.size + 1, 0, none⟩) 1 1])] (by rfl) cs2.toArray hbd2 ?_
              have HE0 := (show Hid _ from e0)
              have HE1' := (show Hid _ from e1)
              have HE2 := (show Hid _ from e2)
              have HE5 := (show Hid _ from e5)
              have HE10 := (show Hid _ from e10)
              have hR1 : rowIs ((w20.alloc (Obj.cells #[Value.int .u64 r0] 26)).alloc (Obj.cells #[Value.slice (some ⟨w20.heap.size, 0, none⟩) 1 1] 22)) w20.heap.size 26 [.int .u64 r0] := (rowIs_new w20 [.int .u64 r0] 26).alloc _
              have hV1 : rowIs ((w20.alloc (Obj.cells #[Value.int .u64 r0] 26)).alloc (Obj.cells #[Value.slice (some ⟨w20.heap.size, 0, none⟩) 1 1] 22)) (w20.heap.size + 1) 22 [.slice (some ⟨w20.heap.size, 0, none⟩) 1 1] := heap_new2 _ _ _
              have hk1 : Kept (fun _ => False) w19 ((w20.alloc (Obj.cells #[Value.int .u64 r0] 26)).alloc (Obj.cells #[Value.slice (some ⟨w20.heap.size, 0, none⟩) 1 1] 22)) := (HK20.out.alloc _).alloc _
              have hp1 := (HP20.out.alloc (Obj.cells #[Value.int .u64 r0] 26)).alloc (Obj.cells #[Value.slice (some ⟨w20.heap.size, 0, none⟩) 1 1] 22)
              rw [made_bools] at hp1
              have l20 := HP20.out.lt
              clear e0 e1 e2 e5 e10 hbd2 HK20 HP20
              generalize (w20.alloc (Obj.cells #[Value.int .u64 r0] 26)).alloc (Obj.cells #[Value.slice (some ⟨w20.heap.size, 0, none⟩) 1 1] 22) = w22 at *
              iterate 3 (first | go_guarded | go_step)
              have hs23 : rowIs (w22.alloc (Obj.cells cs2.toArray 84)) w22.heap.size 84 cs2 := rowIs_new w22 cs2 84
              have hR2 := hR1.alloc (Obj.cells cs2.toArray 84)
              have hV2 := hV1.alloc (Obj.cells cs2.toArray 84)
              have hp2 := hp1.alloc (Obj.cells cs2.toArray 84)
              have hk2 := hk1.alloc (Obj.cells cs2.toArray 84)
              have l22 := hV1.lt
              clear hR1 hV1 hp1 hk1
              generalize w22.alloc (Obj.cells cs2.toArray 84) = w23 at *
              obtain ⟨bP, hbP⟩ : ∃ bP, bP = w19.heap.size := ⟨_, rfl⟩
              obtain ⟨bR, hbR⟩ : ∃ bR, bR = w20.heap.size := ⟨_, rfl⟩
              obtain ⟨bS, hbS⟩ : ∃ bS, bS = w22.heap.size := ⟨_, rfl⟩
              rw [← hbP] at HE2 l20 hp2 lO9
              rw [← hbR] at HE10 l20 hR2 hV2 l22
              rw [← hbS] at hs23 l22
              simp only [← hbS]
              clear hbP hbR hbS
              have lS23 := hs23.lt
              have HW23 := (show Hid (rowIs _ _ _ _) from hk2.row HO19.out id)
              have HPR5 := (show Hid (Pre _ _ _ _ _ _ _ _ _ _) from HPR4.out.kept hk2 (fun _ _ => id))
              obtain ⟨q0, q3, q4⟩ := HC4.out
              have go17 : ∀ o, w23.cell? ⟨bC, o, none⟩ = w19.cell? ⟨bC, o, none⟩ := fun o => hk2.cell (p := ⟨bC, o, none⟩) (show bC < w19.heap.size from World.block_lt_of_cell? w19 ⟨bC, 0, none⟩ q0) id
              have HST : Hid (Stat ⟨bS, bC, bW, bP, bL, bR + 1, bR, bF, bU, some ⟨w12.heap.size, 0, none⟩, T, N, T, E, w0f, r0⟩ w23) :=
                stat_of HPR5.out HSS.out HM.out ⟨(go17 _).trans q0, (go17 _).trans q3, (go17 _).trans q4⟩ (hk2.row HRL4.out id) hs23 HE0.out HE1'.out HE2.out HE5.out HE10.out hV2
              have HDY : Hid (Dyn ⟨bS, bC, bW, bP, bL, bR + 1, bR, bF, bU, some ⟨w12.heap.size, 0, none⟩, T, N, T, E, w0f, r0⟩ w23 (fun _ => 0)) := dyn_zero HW23.out hp2 hR2 hr0
              have lf := HPR5.out.rf.lt
              have lu := HPR5.out.ru.lt
              have HB5 : Hid (Below w.heap.size w w23) := ((Kept.ofBelow HB4.out).then hk2 (fun _ _ e => e.elim)).below (Nat.le_refl _) (fun j hj => by omega)
              have HFT : Hid (Fits ⟨bS, bC, bW, bP, bL, bR + 1, bR, bF, bU, some ⟨w12.heap.size, 0, none⟩, T, N, T, E, w0f, r0⟩) :=
                ⟨fun b hb => by dsimp only at hb ⊢; omega, fun b hb => by dsimp only at hb ⊢; omega, fun b hb => by dsimp only at hb ⊢; omega, T1, T6, TN, N10, HE1.out, by show E.length ≤ 24; rw [← HM.out]; exact hE2, HWF.out, hr0⟩
              clear q0 q3 q4 go17 hk2 hs23 hR2 hV2 hp2 HO19 HPR4 HC4 HRL4 HB4 HW23 HE0 HE1' HE2 HE5 HE10 lf lu
              have x0' : 0 ≤ st % (N : Int) := Int.emod_nonneg _ (by omega)
              have x1' : st % (N : Int) < (N : Int) := Int.emod_lt_of_pos _ (by omega)
              have TK8 : True := trivial
              go_upto_region 57 with fail
              obtain ⟨v, hv⟩ : ∃ v : Nat, st % (N : Int) = (v : Int) := ⟨(st % (N : Int)).toNat, by omega⟩
              rw [hv]
              have vN : v < N := by omega
              refine (release_any ⟨bS, bC, bW, bP, bL, bR + 1, bR, bF, bU, some ⟨w12.heap.size, 0, none⟩, T, N, T, E, w0f, r0⟩ HFT.out 5 v (fun _ => 0) w23 vN (by omega) (.inr (by show N + 1 ≤ 5 + T; omega)) (fun x => by simp [depthB]) HST.out HDY.out).mono ?_
              rintro e w24 ⟨rfl, hdy, hkp⟩
              clear hv x0' x1'
              have hE24 : E.length ≤ 24 := by rw [← HM.out]; exact hE2
              have HCNT : Hid (∀ x, esum E (tm w0f T v (relC E w0f T 5 v fun _ => 0)) x = relC E w0f T 5 v (fun _ => 0) x) := fun x => final_count E w0f T N HE1.out hE24 5 v vN (by omega) (by omega) x
              have hgood := rel_good E w0f T N HE1.out hE24 5 v (fun _ => 0) (by omega) (.inr (by omega))
              have HLOW : Hid (∀ x, x ≤ v → relC E w0f T 5 v (fun _ => 0) x = 0) := hgood.low
              have HBD : Hid (∀ x, relC E w0f T 5 v (fun _ => 0) x ≤ 100000000) := fun x => Nat.le_trans (hgood.bd x) (by simp [depthB])
              have HDY4 := (show Hid (Dyn _ _ (relC E w0f T 5 v fun _ => 0)) from hdy)
              clear hdy hgood
              generalize relC E w0f T 5 v (fun _ => 0) = c' at *
              have HST4 := (show Hid (Stat _ _) from HST.out.kept HFT.out hkp)
              have HPR6 : Hid (Pre w24 ge gv bF bU b0' E N S ((List.range N).map w0f)) := HPR5.out.kept hkp (by
                rintro b hb (h | h | h) <;> (dsimp only at h; omega))
              have HB6 : Hid (Below w.heap.size w w24) := ((Kept.ofBelow HB5.out).then hkp (by
                rintro j hj (h | h | h) <;> (dsimp only at h; omega))).below (Nat.le_refl _) (fun j hj => by omega)
              have l24 : bS < w24.heap.size := Nat.lt_of_lt_of_le lS23 hkp.size
              clear hkp HST HDY HPR5 HB5 HWF
              have TK9 : True := trivial
              go_wp2_with (at_make; have _t := TK9; refine wpList_make_full _ rfl _ _ 96 rfl w24.heap.size 2 i2 (.int .i64 0) 1 hu96 h2 u0 u1 .i64 .i64 _ _ N rfl rfl rfl rfl (by rw [u2]; omega) (by unfold maxLen; omega) (Nat.le_refl _) ?_; intro w25 hown25 hgrow25; clear TK9 _t; refine Hid.out ?_)
              unfold Hid
              have hT25 := owned_whole hown25
              rw [made_ints] at hT25
              have hk25 : Kept (fun _ => False) w24 w25 := (Kept.ofGrown hgrow25).mono (fun _ _ e => by simp at e)
              obtain ⟨bT, hbT⟩ : ∃ bT, bT = w24.heap.size := ⟨_, rfl⟩
              rw [← hbT] at hT25 l24
              simp only [← hbT]
              have ct : w25.cell? ⟨bT, v, none⟩ = some (.int .i64 0) := by
                rw [hT25.cell]; simp [vN]
              have ft := hT25.free v
              have lT := hT25.lt
              have lT24 : w24.heap.size ≤ bT := by omega
              have HT25 : Hid (rowIs w25 bT 2 ((List.replicate N (0 : Int)).map (.int .i64))) := hT25
              have HK25 := (show Hid (Kept _ _ _) from hk25)
              clear hT25 hk25 hbT hown25 hgrow25
              have vN' : (v : Int) < (N : Int) := by omega
              have TK10 : True := trivial
              go_wp2_with (at_make; have _t := TK10; refine wpList_make_full _ rfl _ _ 29 rfl _ 4 i4 (.bool false) 1 hu29 h4 v0 v1 .i64 .i64 _ _ N rfl rfl rfl rfl (by rw [v2]; omega) (by unfold maxLen; omega) (Nat.le_refl _) ?_; intro w26 hown26 hgrow26; clear TK10 _t; refine Hid.out ?_)
              unfold Hid
              have hX26 := owned_whole hown26
              rw [made_bools] at hX26
              have hT26 : rowIs (w25.setCell ⟨bT, v, none⟩ (.int .i64 1)) bT 2 ((timesL w0f T v c' N (v + 1)).map (.int .i64)) := by
                rw [← timesL_start w0f T v c' N HLOW.out]; exact HT25.out.setInt v 1
              have hk26 : Kept (fun _ => False) w24 (w25.setCell ⟨bT, v, none⟩ (.int .i64 1)) := HK25.out.setCell (p := ⟨bT, v, none⟩) (fun h => absurd h (by show ¬ bT < _; omega)) _
              have hk27 : Kept (fun _ => False) w24 w26 := hk26.grown hgrow26 (fun _ e _ => by simp at e)
              have hT27 := hT26.grown hgrow26 (by simp)
              have ls : (w25.setCell ⟨bT, v, none⟩ (.int .i64 1)).heap.size = w25.heap.size := by simp
              obtain ⟨bX, hbX⟩ : ∃ bX, bX = w25.heap.size := ⟨_, rfl⟩
              rw [ls, ← hbX] at hX26
              rw [expPL_start w0f T v c' N HLOW.out] at hX26
              simp only [← hbX]
              have lX : bT < bX := by omega
              have lX2 := hX26.lt
              have HT27 := (show Hid (rowIs _ _ _ _) from hT27)
              have HX27 := (show Hid (rowIs _ _ _ _) from hX26)
              have HK27 := (show Hid (Kept _ _ _) from hk27)
              clear hX26 hT26 hk26 hk27 hT27 ls hbX hown26 hgrow26 HT25 HK25 ct ft lT
              have TK11 : True := trivial
              have CPZ : Hid (∀ j u, (((List.range N).map w0f).map (Value.int .i32))[j]? = some u → w26.cell? ((⟨b0', 0, none⟩ : Addr).add j) = some u) := news_row (HK27.out.row HPR6.out.rz id)
              go_wp2_with (at_make; have _t := TK11; refine wpList_make_full _ rfl _ _ 23 rfl w26.heap.size 21 i1 (.int .i32 0) 1 hu23 hj z0 z1 .i64 .i64 _ _ N rfl rfl rfl rfl (by rw [z2]; omega) (by unfold maxLen; omega) (Nat.le_refl _) ?_; intro w27 hown27 hgrow27; clear TK11 _t; refine Hid.out ?_)
              unfold Hid
              have hk28 : Kept (fun _ => False) w26 w27 := (Kept.ofGrown hgrow27).mono (fun _ _ e => by simp at e)
              have HP27 := (show Hid (rowIs _ _ _ _) from owned_whole hown27)
              have CPF : Hid (∀ j u, (((List.range N).map w0f).map (Value.int .i32))[j]? = some u → w27.cell? ((⟨b0', 0, none⟩ : Addr).add j) = some u) := news_row (hk28.row (HK27.out.row HPR6.out.rz id) id)
              have HK28 : Hid (Kept (fun _ => False) w24 w27) := HK27.out.trans (hk28.mono (fun _ _ e => e) |> fun h => ⟨h.os, h.tape, h.output, h.size, fun k hk hn => h.block k hk hn⟩)
              have HT28 := (show Hid (rowIs _ _ _ _) from hk28.row HT27.out id)
              have HX28 := (show Hid (rowIs _ _ _ _) from hk28.row HX27.out id)
              clear hk28 hown27 hgrow27 HT27 HX27 HK27 CPZ
              obtain ⟨bY, hbY⟩ : ∃ bY, bY = w26.heap.size := ⟨_, rfl⟩
              rw [← hbY] at HP27 lX2
              simp only [← hbY]
              clear hbY
              go_upto_block 12 with (have _t := HP27; refine wpList_copy_splice rfl (.tmp 266) (.tmp 267) 23 23 rfl 21 hu23 Yba.size21 (some ⟨bY, 0, none⟩) (some ⟨b0', 0, none⟩) N N N N rfl rfl bY 0 _ 21 HP27.out (((List.range N).map w0f).map (Value.int .i32)) (by simp) ?_ ?_ (oneCell_ints _ _) bY w27 (Below.refl _ _) (Nat.le_refl _) ?_; (intro _; exact ⟨rfl, _, rfl, CPF.out⟩); (simp [madeCells]); intro w28 HG28 hb28; have HO28 : Hid (rowIs w28 bY 21 (((List.range N).map w0f).map (.int .i32))) := (show rowIs _ _ _ _ from (by have hg9 := HG28.out; rw [splice_whole (by simp [madeCells])] at hg9; exact hg9)); have HB28 := (show Hid (Below _ _ _) from hb28); clear HP27 _t HG28 hb28 CPF)
              have k28 : Kept (fun _ => False) w24 w28 := HK28.out.then (Kept.ofBelow HB28.out) (fun j hj h => absurd h (by omega))
              have HPR7 := (show Hid (Pre _ _ _ _ _ _ _ _ _ _) from HPR6.out.kept k28 (fun _ _ => id))
              have HST7 : Hid (Stat ⟨bS, bC, bW, bP, bL, bR + 1, bR, bF, bU, some ⟨w12.heap.size, 0, none⟩, T, N, T, E, w0f, r0⟩ w28) := HST4.out.kept HFT.out (k28.mono (fun _ _ e => e.elim))
              have HDY7 : Hid (Dyn ⟨bS, bC, bW, bP, bL, bR + 1, bR, bF, bU, some ⟨w12.heap.size, 0, none⟩, T, N, T, E, w0f, r0⟩ w28 c') := HDY4.out.keptS k28 id id id
              have HB7 : Hid (Below w.heap.size w w28) := ((Kept.ofBelow HB6.out).then k28 (fun _ _ e => e.elim)).below (Nat.le_refl _) (fun j hj => by omega)
              have HEX : Hid (Exp w28 bT bX bY w0f T v c' N (v + 1)) := ⟨(Kept.ofBelow HB28.out).row HT28.out (by show ¬ bY ≤ bT; omega), (Kept.ofBelow HB28.out).row HX28.out (by show ¬ bY ≤ bX; omega), by rw [← expWL_start w0f v c' N HLOW.out]; exact HO28.out⟩
              have HRS : Hid (rdySpec w0f T r0 c' (v + 1) r0) := rdy_start w0f T r0 v c' hr0 HLOW.out
              have HFT' := HFT
              have le0 : b0' < bT := by omega
              have leE : ge < bT := by omega
              have leV : gv < bT := by omega
              have lfT : bF < bT := by omega
              have HW0B : Hid (∀ x, -128 ≤ w0f x ∧ w0f x ≤ 127) := HFT.out.w1
              clear k28 HPR6 HST4 HDY4 HB6 HK28 HB28 HT28 HX28 HO28 HLOW HFT
              go_cut [38] (fun q wc => ∃ R2 : Nat, q = .int .u64 R2 ∧ rdySpec w0f T r0 c' N R2 ∧ Exp wc bT bX bY w0f T v c' N N ∧ Kept (fun j => j = bT ∨ j = bX ∨ j = bY) w28 wc)
              case first =>
                go_wp2_with fail
                go_loopw [38, 41] (fun q p wr => ∃ x R2 : Nat, v < x ∧ x ≤ N ∧ q = .int .u64 R2 ∧ p = .int .i64 x ∧ rdySpec w0f T r0 c' x R2 ∧ Exp wr bT bX bY w0f T v c' N x ∧ Kept (fun j => j = bT ∨ j = bX ∨ j = bY) w28 wr) (fun _ p _ => N - (intOf p).toNat)
                case atStart => exact ⟨v + 1, r0, by omega, by omega, rfl, by go_num, HRS.out, HEX.out, Kept.refl _ _⟩
                case round =>
                  obtain ⟨x, R2, hx1, hx2, rfl, rfl, hrs, hex, hkp⟩ := hrel
                  obtain ⟨wo, rfl⟩ : ∃ wo : World, wo = wr := ⟨_, rfl⟩
                  have HR2 := (show Hid (rdySpec _ _ _ _ _ _) from hrs)
                  have hR2 := hrs.1
                  have HE2 := (show Hid (Exp _ _ _ _ _ _ _ _ _ _) from hex)
                  have HK2 := (show Hid (Kept _ _ _) from hkp)
                  by_cases hlt : x < N
                  · have hpr := HPR7.out.kept hkp (by rintro b hb (h | h | h) <;> omega)
                    have HPR8 := (show Hid (Pre _ _ _ _ _ _ _ _ _ _) from hpr)
                    have hlt' : (x : Int) < (N : Int) := by omega
                    have hdc : decide ((x : Int) < (N : Int)) = true := decide_eq_true hlt'
                    clear hrs hex hkp hpr HEX HRS
                    go_upto_block 14 with fail
                    go_cut [42] (fun q wc => q = .int .i64 ((c' x : Nat) : Int) ∧ wc = wo)
                    case first =>
                      go_wp2_with fail
                      go_loopw [42, 279] (fun q p wr => ∃ k : Nat, k ≤ m ∧ q = .int .i64 ((esum (E.take k) (tm w0f T v c') x : Nat) : Int) ∧ p = .int .i64 k ∧ wr = wo) (fun _ p _ => m - (intOf p).toNat)
                      case atStart => exact ⟨0, Nat.zero_le _, by simp [esum], rfl, rfl⟩
                      case round =>
                        obtain ⟨k, hk, rfl, rfl, rfl⟩ := hrel
                        by_cases hkm : k < m
                        · have hkE : k < E.length := by rw [← HM.out]; exact hkm
                          obtain ⟨g1, g2⟩ := HPR8.out.ed.1 k hkE
                          obtain ⟨p1, p2⟩ := HE1.out E[k] (List.getElem_mem hkE)
                          have hsu := esum_succ E (tm w0f T v c') x k hkE
                          have hle := esum_take_le E (tm w0f T v c') x k
                          have hle2 := esum_take_le E (tm w0f T v c') x (k + 1)
                          rw [HCNT.out x] at hle hle2
                          have hbd := HBD.out x
                          have hct : E[k].1 < x → wr.cell? ⟨bT, E[k].1, none⟩ = some (.int .i64 ((tm w0f T v c' E[k].1 : Nat) : Int)) := fun h => by
                            rw [HE2.out.t.cell, map_at _ _ _ (by rw [timesL_length]; omega), timesL_at _ _ _ _ _ _ _ (by omega) h]
                          obtain ⟨s2, hs2⟩ : ∃ s2, s2 = esum (E.take (k + 1)) (tm w0f T v c') x := ⟨_, rfl⟩
                          rw [← hs2] at hsu hle2
                          have HQ := (show Hid (s2 = esum _ _ _) from hs2)
                          clear hs2
                          generalize esum (E.take k) (tm w0f T v c') x = s1 at *
                          generalize tm w0f T v c' E[k].1 = tt at *
                          generalize E[k].1 = u at *
                          generalize E[k].2 = y at *
                          by_cases hy : y = x
                          · subst hy
                            rw [if_pos rfl] at hsu
                            have HS2 : Hid (s2 = s1 + tt) := hsu
                            have hct' := hct p1
                            have b1 : tt ≤ 100000000 := by omega
                            have b2 : s1 ≤ 100000000 := by omega
                            have uN : (u : Int) < (N : Int) := by omega
                            clear hct hsu hle hle2 hbd
                            go_wp2_with fail
                            go_roundw
                            case rel => exact ⟨k + 1, by omega, by rw [← HQ.out, HS2.out]; go_num, by go_num, trivial⟩
                            case measure => simp [intOf]; omega
                          · rw [if_neg hy] at hsu
                            have HS2 : Hid (s2 = s1) := hsu
                            have hyb : ((y : Int) == (x : Int)) = false := by simp; omega
                            clear hct hsu hle hle2 hbd
                            go_wp2_with fail
                            go_roundw
                            case rel => exact ⟨k + 1, by omega, by rw [← HQ.out, HS2.out], by go_num, trivial⟩
                            case measure => simp [intOf]; omega
                        · obtain rfl : k = m := by omega
                          go_wp2_with fail
                          go_meet
                          case rel => exact ⟨by rw [HM.out, List.take_length, HCNT.out x], rfl⟩
                    case rest =>
                      obtain ⟨rfl, rfl⟩ := hcut
                      obtain ⟨wo, rfl⟩ : ∃ wo : World, wo = wc := ⟨_, rfl⟩
                      obtain ⟨W, hW⟩ : ∃ W, W = w0f x := ⟨_, rfl⟩
                      obtain ⟨d, hd⟩ : ∃ d, d = c' x := ⟨_, rfl⟩
                      have cY : wo.cell? ⟨bY, x, none⟩ = some (.int .i32 W) := by
                        rw [hW, HE2.out.y.cell, map_at _ _ _ (by rw [expWL_length]; omega)]; simp [expWL, hlt]
                      have c0 : wo.cell? ⟨b0', x, none⟩ = some (.int .i32 W) := by
                        rw [hW, HPR8.out.rz.cell]; simp [hlt]
                      have cX : wo.cell? ⟨bX, x, none⟩ = some (.bool false) := by
                        rw [HE2.out.p.cell]; simp [expPL, hlt]
                      have cT : wo.cell? ⟨bT, x, none⟩ = some (.int .i64 0) := by
                        rw [HE2.out.t.cell]; simp [timesL, hlt]
                      have fY := HE2.out.y.free x
                      have fX := HE2.out.p.free x
                      have fT := HE2.out.t.free x
                      have nY0 : ¬ bY = b0' := by omega
                      have nYX : ¬ bY = bX := by omega
                      have nYT : ¬ bY = bT := by omega
                      have nXT : ¬ bX = bT := by omega
                      have nT0 : ¬ bT = b0' := by omega
                      have nX0 : ¬ bX = b0' := by omega
                      have w1 : -128 ≤ W := by rw [hW]; exact (HW0B.out x).1
                      have w2 : W ≤ 127 := by rw [hW]; exact (HW0B.out x).2
                      have d1 : d ≤ 100000000 := by rw [hd]; exact HBD.out x
                      have d1' : (d : Int) ≤ 100000000 := by omega
                      rw [← hd]
                      have HWE := (show Hid (W = w0f x) from hW)
                      have HDE := (show Hid (d = c' x) from hd)
                      clear hW hd
                      go_wp2_with fail
                      refine (trig_any W d _ w1 w2 d1).mono ?_
                      rintro e w' ⟨rfl, rfl⟩
                      obtain ⟨tr, htr⟩ : ∃ tr, tr = trig W d := ⟨_, rfl⟩
                      have HTR : Hid (tr = trig (w0f x) (c' x)) := by rw [← HWE.out, ← HDE.out]; exact htr
                      rw [← htr]
                      have tr1 : tr ≤ 200000000 := by rw [htr]; unfold trig; split <;> (try split) <;> (try split) <;> omega
                      clear htr
                      by_cases h0 : tr = 0
                      · subst h0
                        go_wp2_with fail
                        go_roundw
                        case rel =>
                          refine ⟨x + 1, R2, by omega, by omega, rfl, by go_num, rdy_same HR2.out (.inr HTR.out.symm), ?_, HK2.out.setCell (fun _ => .inr (.inr rfl)) _⟩
                          have := HE2.out.still (fun e => nYT e.symm) (fun e => nYX e.symm) hx1 (.inr HTR.out.symm)
                          rw [← HWE.out, ← HDE.out] at this
                          exact this
                        case measure => simp [intOf]; omega
                      · have tr0 : (0 : Int) < (tr : Int) := by omega
                        have trp : 0 < trig (w0f x) (c' x) := by have := HTR.out; omega
                        have HTP := (show Hid _ from trp)
                        clear trp
                        by_cases hT : T ≤ x
                        · have hT' : (T : Int) ≤ (x : Int) := by omega
                          go_wp2_with fail
                          go_roundw
                          case rel =>
                            refine ⟨x + 1, R2, by omega, by omega, rfl, by go_num, rdy_same HR2.out (.inl hT), ?_, ((HK2.out.setCell (fun _ => .inr (.inr rfl)) _).setCell (fun _ => .inr (.inl rfl)) _).setCell (fun _ => .inl rfl) _⟩
                            have := HE2.out.place (fun e => nYT e.symm) (fun e => nYX e.symm) (fun e => nXT e.symm) hx1 hT HTP.out
                            rw [← HTR.out, ← HWE.out, ← HDE.out] at this
                            exact this
                          case measure => simp [intOf]; omega
                        · have hT' : (x : Int) < (T : Int) := by omega
                          have hT2 : ¬ (T : Int) ≤ (x : Int) := by omega
                          have x64 : (x : Int) ≤ 64 := by omega
                          have x00 : (0 : Int) ≤ (x : Int) := by omega
                          have HV : Hid (bits BinOp.or IntKind.u64 (R2 : Int) (IntKind.u64.wrap (2 ^ x)) = ((R2 ||| 2 ^ x : Nat) : Int)) := by
                            show _ = _
                            rw [shl_u64 x (by omega), u64_or_nat R2 (2 ^ x) hR2 (by have : (2 : Nat) ^ x < 2 ^ 64 := Nat.pow_lt_pow_right (by omega) (by omega); omega)]
                          go_wp2_with fail
                          go_roundw
                          case rel =>
                            refine ⟨x + 1, R2 ||| 2 ^ x, by omega, by omega, by rw [HV.out], by go_num, rdy_set HR2.out (by omega) (by omega) HTP.out, ?_, HK2.out.setCell (fun _ => .inr (.inr rfl)) _⟩
                            have := HE2.out.still (fun e => nYT e.symm) (fun e => nYX e.symm) hx1 (.inl (by omega))
                            rw [← HWE.out, ← HDE.out] at this
                            exact this
                          case measure => simp [intOf]; omega
                  · obtain rfl : x = N := by omega
                    clear hrs hex hkp HEX HRS
                    go_wp2_with fail
                    go_meet
                    case rel => exact ⟨R2, rfl, HR2.out, HE2.out, HK2.out⟩
              case rest =>
                obtain ⟨R2, rfl, hrs, hex, hkp⟩ := hcut
                obtain ⟨w29, rfl⟩ : ∃ w29 : World, w29 = wc := ⟨_, rfl⟩
                have go9 : ∀ b o u, b < bT → w28.cell? ⟨b, o, none⟩ = some u → w29.cell? ⟨b, o, none⟩ = some u := fun b o u hb hc =>
                  (hkp.cell (p := ⟨b, o, none⟩) (World.block_lt_of_cell? w28 ⟨b, o, none⟩ hc) (by rintro (h | h | h) <;> (dsimp only at h; omega))).trans hc
                have s1' : w29.cell? ⟨bS, 1, none⟩ = some (.slice (some ⟨bW, 0, none⟩) N N) := go9 _ _ _ l24 HST7.out.s1
                have s2' : w29.cell? ⟨bS, 2, none⟩ = some (.slice (some ⟨bP, 0, none⟩) N N) := go9 _ _ _ l24 HST7.out.s2
                have s10' : w29.cell? ⟨bS, 10, none⟩ = some (.slice (some ⟨bR + 1, 0, none⟩) 1 1) := go9 _ _ _ l24 HST7.out.s10
                have v0' : w29.cell? ⟨bR + 1, 0, none⟩ = some (.slice (some ⟨bR, 0, none⟩) 1 1) := go9 _ _ _ (by omega) HST7.out.v0
                have hdy : Dyn ⟨bS, bC, bW, bP, bL, bR + 1, bR, bF, bU, some ⟨w12.heap.size, 0, none⟩, T, N, T, E, w0f, r0⟩ w29 c' := HDY7.out.keptS hkp (by rintro (h | h | h) <;> (dsimp only at h; omega)) (by rintro (h | h | h) <;> (dsimp only at h; omega)) (by rintro (h | h | h) <;> (dsimp only at h; omega))
                obtain ⟨R, r1, r2, r3⟩ := hdy.rd
                obtain rfl : R = R2 := rdy_end hrs TN r3
                have cR : w29.cell? ⟨bR, 0, none⟩ = some (.int .u64 (R : Int)) := r2.cell 0
                have HDY9 := (show Hid (Dyn _ _ _) from hdy)
                have HEX9 := (show Hid (Exp _ _ _ _ _ _ _ _ _ _) from hex)
                have HB9 : Hid (Below w.heap.size w w29) := ((Kept.ofBelow HB7.out).then hkp (by rintro j hj (h | h | h) <;> omega)).below (Nat.le_refl _) (fun j hj => by omega)
                have hRb : ((R : Int) != (R : Int)) = false := by simp
                clear hrs hex hkp go9 hdy r1 r2 r3 HDY7 HST7 HEX HRS HPR7 HCNT HB7
                go_wp2_with fail
                have HCS : Hid (w29.cell? ⟨bS, 1, none⟩ = some (.slice (some ⟨bW, 0, none⟩) N N) ∧ w29.cell? ⟨bS, 2, none⟩ = some (.slice (some ⟨bP, 0, none⟩) N N)) := ⟨s1', s2'⟩
                clear s1' s2' s10' v0' cR hRb
                go_loopw [45] (fun q wr => ∃ x : Nat, x ≤ N ∧ q = .int .i64 x ∧ Kept (fun _ => False) w29 wr) (fun q _ => N - (intOf q).toNat)
                case atStart => exact ⟨0, Nat.zero_le _, rfl, Kept.refl _ _⟩
                case round =>
                  obtain ⟨x, hx, rfl, hkp⟩ := hrel
                  have HKP := (show Hid (Kept _ _ _) from hkp)
                  by_cases hlt : x < N
                  · obtain ⟨y1, y2⟩ := HCS.out
                    have s1' := (hkp.cell (p := ⟨bS, 1, none⟩) (World.block_lt_of_cell? w29 ⟨bS, 1, none⟩ y1) id).trans y1
                    have s2' := (hkp.cell (p := ⟨bS, 2, none⟩) (World.block_lt_of_cell? w29 ⟨bS, 2, none⟩ y2) id).trans y2
                    have hdy := HDY9.out.keptS hkp id id id
                    have cW : wr.cell? ⟨bW, x, none⟩ = some (.int .i32 (w0f x - (c' x : Int))) := by
                      have := hdy.wt.cell x
                      rw [map_at _ _ _ (by rw [waitL_length]; exact hlt), waitL_at _ _ _ hlt] at this
                      exact this
                    have cP : wr.cell? ⟨bP, x, none⟩ = some (.bool (decide (T ≤ x ∧ 0 < trig (w0f x) (c' x)))) := by
                      have := hdy.pl.cell x
                      have e : (placeL ⟨bS, bC, bW, bP, bL, bR + 1, bR, bF, bU, some ⟨w12.heap.size, 0, none⟩, T, N, T, E, w0f, r0⟩ c')[x]? = some (.bool (decide (T ≤ x ∧ 0 < trig (w0f x) (c' x)))) := by simp [placeL, hlt]
                      rw [e] at this
                      exact this
                    have cY : wr.cell? ⟨bY, x, none⟩ = some (.int .i32 (w0f x - (c' x : Int))) := by
                      have := (hkp.row HEX9.out.y id).cell x
                      rw [map_at _ _ _ (by rw [expWL_length]; exact hlt), expWL_end _ _ _ _ hlt] at this
                      exact this
                    have cX : wr.cell? ⟨bX, x, none⟩ = some (.bool (decide (T ≤ x ∧ 0 < trig (w0f x) (c' x)))) := by
                      have := (hkp.row HEX9.out.p id).cell x
                      rw [expPL_end _ _ _ _ _ hlt] at this
                      exact this
                    generalize w0f x - (c' x : Int) = y at *
                    generalize decide (T ≤ x ∧ 0 < trig (w0f x) (c' x)) = bb at *
                    have hlt' : (x : Int) < (N : Int) := by omega
                    have hyb : (y != y) = false := by simp
                    have hbb : (bb != bb) = false := by simp
                    clear y1 y2 hdy hkp
                    go_wp2_with fail
                    go_quiet (fail)
                    go_wp2_with fail
                    go_roundw
                    case rel => exact ⟨x + 1, by omega, by go_num, HKP.out.drewN _⟩
                    case measure => simp [intOf]; omega
                  · obtain rfl : x = N := by omega
                    have HBZ : Hid (Below w.heap.size w wr) := ((Kept.ofBelow HB9.out).then HKP.out (fun _ _ e => e.elim)).below (Nat.le_refl _) (fun j hj => by omega)
                    clear hkp
                    go_wp2_with fail
                    go_ret
                    exact ⟨rfl, HBZ.out⟩
end Go.Proofs.Ybulkajba
