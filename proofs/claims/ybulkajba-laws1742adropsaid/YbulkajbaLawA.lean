import Derived.Test.YbulkajbaDrop
import Derived.Deep.DeepCutAuto
import Derived.Deep.QuietTactic
import Derived.BigQuiet
namespace Go.Proofs.Ybulkajba
open Go.RowKit
set_option linter.unusedVariables false

theorem Yba.info26 : (Yba.prog.info? 26).map (fun i => (i.zero, i.size, i.bytes)) = some (some (.int .u64 0), 1, 8) := by kernel_rfl
theorem Yba.info21 : (Yba.prog.info? 21).map (fun i => (i.zero, i.size, i.bytes)) = some (some (.int .i32 0), 1, 4) := by kernel_rfl
theorem Yba.size26 : (Yba.prog.info? 26).map (·.size) = some 1 := by kernel_rfl

/-- The words, brought into range. -/
def fold32 (W : List Int) (m : Nat) : List Int := W.map fun x => x % 4294967296 % m

theorem fold32_snoc (W : List Int) (m k : Nat) (h : k < W.length) : fold32 (W.take (k + 1)) m = fold32 (W.take k) m ++ [W.getD k 0 % 4294967296 % m] := by
  unfold fold32
  rw [List.take_succ_eq_append_getElem h, List.map_append]
  simp [List.getElem?_eq_getElem h]
theorem fold32_bd (W : List Int) (m : Nat) (hm : 0 < m) : ∀ j, j < (fold32 W m).length → 0 ≤ (fold32 W m).getD j 0 ∧ (fold32 W m).getD j 0 < m := by
  intro j hj
  have hj' : j < W.length := by simpa [fold32] using hj
  have : (fold32 W m).getD j 0 = W[j] % 4294967296 % m := by simp [fold32, List.getElem?_eq_getElem hj']
  rw [this]
  exact ⟨Int.emod_nonneg _ (by omega), Int.emod_lt_of_pos _ (by omega)⟩

theorem part_step (D : List Int) (m k : Nat) (hD : D.length = m) (hk : k < m) : (D.take k ++ List.replicate (m - k) 0).set k (D.getD k 0) = D.take (k + 1) ++ List.replicate (m - (k + 1)) 0 := by
  have hk' : k < D.length := by omega
  rw [List.take_succ_eq_append_getElem hk', List.set_append_right _ _ (by simp; omega)]
  have hl : (D.take k).length = k := by simp; omega
  rw [hl, Nat.sub_self, show m - k = (m - (k + 1)) + 1 from by omega, List.replicate_succ, List.set_cons_zero, List.append_assoc]
  simp [List.getElem?_eq_getElem hk']

/-- The struct as its literal makes it: cells of its own, of which two are told. -/
theorem build53 (a b : Option Addr) (n c m d : Nat) : ∃ cs : List Value, cs[23]? = some (.slice a n c) ∧ cs[24]? = some (.slice b m d) ∧ ∀ w : World, (Instr.build 53 #[(23, .slice a n c), (24, .slice b m d)]).run Yba.prog w = .ok (.agg cs.toArray) w :=
  ⟨((Yba.prog.built 53 [(23, .slice a n c), (24, .slice b m d)]).getD #[]).toList, by kernel_rfl, by kernel_rfl, fun w => run_build w 53 #[(23, .slice a n c), (24, .slice b m d)] _ (by kernel_rfl)⟩

/-- The copied words: they lie in a row of the call's own. -/
def wcAt (w wx : World) (Z V : List Int) (v : Value) : Prop :=
  ∃ g cap, v = .slice (some ⟨g, 0, none⟩) V.length cap ∧ wx.ownsRow (w.heap.size + 1) 21 1 (.slice (some ⟨g, 0, none⟩) V.length cap) V.length (V.map (.int .i32)) ∧
    rowIs wx w.heap.size 26 (Z.map (.int .u64)) ∧ Below w.heap.size w wx

set_option maxHeartbeats 1000000 in
set_option maxRecDepth 100000 in
theorem lawA_small (al : Option Addr) (m cl : Nat) (Z : List Int) (bl : Option Addr) (n dl : Nat) (W : List Int) (w : World) (hm : m ≤ 1024) (hn : n ≤ 1024)
    (hZ : cameIn w al m cl (Z.map (.int .u64))) (hW : cameIn w bl n dl (W.map (.int .i32))) (hWb : ∀ x ∈ W, -2147483648 ≤ x ∧ x ≤ 2147483647) :
    Calls Yba.prog 3 #[.slice al m cl, .slice bl n dl] w fun e w' => e = .returned (.bool true) ∧ Below w.heap.size w w' := by
  obtain ⟨i0, hi, hz0, hz1, hz2⟩ := info_parts Yba.info26
  obtain ⟨i1, hj, hy0, hy1, hy2⟩ := info_parts Yba.info21
  have hu22 := Yba.underlying22
  have hu23 := Yba.underlying23
  have HZ := (show Hid (cameIn _ _ _ _ _) from hZ)
  have HW := (show Hid (cameIn _ _ _ _ _) from hW)
  have HZL : Hid (Z.length = m) := by have := hZ.1; rwa [List.length_map] at this
  have HWL : Hid (W.length = n) := by have := hW.1; rwa [List.length_map] at this
  have HMN : Hid ((Z.map (Value.int .u64)).length = Nat.min m m) := by rw [hZ.1]; exact (Nat.min_self m).symm
  have HWB := (show Hid _ from hWb)
  clear hZ hW hWb
  go_enter Yba.func3, Yba.ntmps3
  go_upto_if 34 with (first
        | (at_make; refine wpList_make_full _ rfl _ _ 22 rfl w.heap.size 26 i0 (.int .u64 0) 1 hu22 hi hz0 hz1 .i64 .i64 _ _ m rfl rfl rfl rfl (by rw [hz2]; omega) (by unfold maxLen; omega) (Nat.le_refl _) ?_; intro w1 hown1 hgrow1; have HW1 : Hid (w1.heap[w.heap.size]? = _) := owned_whole hown1; have HB1 : Hid (Below w.heap.size w w1) := (Below.refl _ _).grown hgrow1 (Nat.le_refl _) (by simp); clear hown1 hgrow1)
        | (have _t := HW1; refine wpList_copy_splice rfl (.tmp 25) (.tmp 26) 22 22 rfl 26 hu22 Yba.size26 (some ⟨w.heap.size, 0, none⟩) al m m m cl rfl rfl w.heap.size 0 _ 26 HW1.out (Z.map (Value.int .u64)) HMN.out ?_ ?_ (oneCell_ints _ Z) w.heap.size w HB1.out (Nat.le_refl _) ?_; (intro hp; rcases al with _ | ad; (exact absurd (HZ.out.2.1 rfl).1 (by rw [HZ.out.1] at hp; omega)); exact ⟨rfl, ad, rfl, (HZ.out.below (HB1.out)).2.2 ad rfl⟩); (simp [madeCells, HZL.out]); intro w2 HG2 hb2; have HR2 : Hid (rowIs w2 w.heap.size 26 (Z.map (Value.int .u64))) := (show rowIs _ _ _ _ from (by have hg2 := HG2.out; rwa [splice_whole (by simp [madeCells, HZL.out])] at hg2)); have HB2 : Hid (Below w.heap.size w w2) := hb2; have hs2 := HR2.out.lt; clear HG2 hb2 HW1 HB1 _t)
        | (at_make; have _t := HR2; refine wpList_make_own _ rfl _ _ 23 rfl (w.heap.size + 1) 21 i1 (.int .i32 0) 1 hu23 hj hy0 hy1 .i64 .i64 _ n rfl rfl rfl (by rw [hy2]; omega) (by unfold maxLen; omega) (by omega) ?_; intro w3 hown3 hgrow3; have HWC : Hid (wcAt w w3 Z [] (.slice (some ⟨w2.heap.size, 0, none⟩) 0 n)) := ⟨_, n, rfl, hown3, HR2.out.grown hgrow3 (by simp), HB2.out.grown hgrow3 (by omega) (by simp)⟩; clear hown3 hgrow3 HR2 HB2 _t))
  go_cut [7] (fun v wx => ∃ V : List Int, V.length ≤ 1024 ∧ (∀ j, j < V.length → 0 ≤ V.getD j 0 ∧ V.getD j 0 < m) ∧ wcAt w wx Z V v)
  case first =>
    by_cases h0 : m = 0
    · subst h0
      go_wp2_with fail
      go_meet
      case rel =>
        exact ⟨[], by simp, fun j hj => by simp at hj, HWC.out⟩
    · have h0' : (0 : Int) < (m : Int) := by omega
      have hd : decide (0 < m) = true := decide_eq_true (by omega)
      rw [hd]
      clear hd
      go_wp2_with fail
      go_loopw [7, 37] (fun v q wr => ∃ k : Nat, k ≤ n ∧ q = .int .i64 k ∧ wcAt w wr Z (fold32 (W.take k) m) v) (fun _ q _ => n - (intOf q).toNat)
      case atStart => exact ⟨0, Nat.zero_le _, rfl, HWC.out⟩
      case round =>
        obtain ⟨k, hk, rfl, hwc⟩ := hrel
        by_cases hlt : k < n
        · obtain ⟨g, cap, rfl, hown, hrow, hbel⟩ := hwc
          obtain ⟨b, off, rfl, hb, hcell⟩ := HW.out.at hlt
          rw [map_at _ _ _ (by rw [HWL.out]; exact hlt)] at hcell
          have hc := (hbel.cell (p := ⟨b, off + k, none⟩) hb).trans hcell
          obtain ⟨x, hx⟩ : ∃ x, x = W.getD k 0 := ⟨_, rfl⟩
          obtain ⟨l1, l2⟩ := HWB.out (W.getD k 0) (by rw [List.getD_eq_getElem?_getD, List.getElem?_eq_getElem (by rw [HWL.out]; exact hlt)]; simp)
          rw [← hx] at hc l1 l2
          have HX : Hid (x = W.getD k 0) := hx
          have hfl : (fold32 (W.take k) m).length = k := by simp [fold32, HWL.out]; omega
          rw [hfl] at hown ⊢
          have HO := (show Hid (World.ownsRow _ _ _ _ _ _ _) from hown)
          have HR := (show Hid (rowIs _ _ _ _) from hrow)
          have HB := (show Hid (Below _ _ _) from hbel)
          have hsz := hrow.lt
          have hx0 : 0 ≤ x % 4294967296 % (m : Int) := Int.emod_nonneg _ (by omega)
          have hx1 : x % 4294967296 % (m : Int) < (m : Int) := Int.emod_lt_of_pos _ (by omega)
          have HS : Hid (fold32 (W.take (k + 1)) m = fold32 (W.take k) m ++ [x % 4294967296 % m]) := by rw [hx]; exact fold32_snoc W m k (by rw [HWL.out]; exact hlt)
          clear hx hcell hown hrow hbel hfl HWC
          go_wp2_with (at_builtin; refine wpList_append_lies _ rfl _ _ 23 rfl (w.heap.size + 1) 21 i1 (.int .i32 0) 1 4 hu23 hj hy0 hy1 hy2 rfl (by omega) _ k _ rfl (HO.out.alloc _) ⟨wr.heap.size, 0, none⟩ 1 1 [.int .i32 (x % 4294967296 % (m : Int))] rfl rfl (news_row (rowIs_new wr [.int .i32 (x % 4294967296 % (m : Int))] 21)) (by simp [Value.oneCell']) (by omega) (by unfold maxLen; omega) (by omega) (by simp; omega) _ rfl ?_; intro g4 cap4 w4 hown4 hgrow4 hat4 hlt4)
          go_roundw
          case rel =>
            have hfl' : (fold32 (W.take (k + 1)) m).length = k + 1 := by simp [fold32, HWL.out]; omega
            refine ⟨k + 1, by omega, by go_num, g4, cap4, by rw [hfl'], ?_, ?_, ?_⟩
            · rw [hfl', HS.out, List.map_append]; exact hown4
            · exact (HR.out.alloc _).grown hgrow4 (own_lo HO.out (by omega))
            · exact (HB.out.alloc (by omega) _).grown hgrow4 (by simp; omega) (fun j hj => by have := (HO.out.lt j hj).1; omega)
          case measure => simp [intOf]; omega
        · obtain rfl : k = n := by omega
          have HWC' := (show Hid (wcAt _ _ _ _ _) from hwc)
          clear hwc HWC
          go_wp2_with fail
          go_meet
          case rel =>
            exact ⟨_, by simp [fold32]; rw [HWL.out]; omega, fold32_bd _ m (by omega), HWC'.out⟩
  case rest =>
    obtain ⟨V, hVl, hVb, g, cap, rfl, hown, hrow, hbel⟩ := hcut
    have HVB := (show Hid (∀ j, j < V.length → 0 ≤ V.getD j 0 ∧ V.getD j 0 < m) from hVb)
    have HO := (show Hid (World.ownsRow _ _ _ _ _ _ _) from hown)
    have HR := (show Hid (rowIs _ _ _ _) from hrow)
    have HB := (show Hid (Below _ _ _) from hbel)
    have hsz := hrow.lt
    have hgl := (hown.lt g rfl)
    clear hVb hown hrow hbel HWC
    go_wp2_with (at_make; refine wpList_make_full _ rfl _ _ 22 rfl wc.heap.size 26 i0 (.int .u64 0) 1 hu22 hi hz0 hz1 .i64 .i64 _ _ m rfl rfl rfl rfl (by rw [hz2]; omega) (by unfold maxLen; omega) (Nat.le_refl _) ?_; intro w5 hown5 hgrow5)
    have HT5 : Hid (rowIs w5 wc.heap.size 26 (((dropZ Z V).take 0 ++ List.replicate (m - 0) 0).map (.int .u64))) := by
      have := owned_whole hown5
      rw [show (Value.int IntKind.u64 0).cells = #[Value.int IntKind.u64 0] from rfl, toList_madeCells_one] at this
      show rowIs _ _ _ _
      simpa using this
    have HR5 : Hid (rowIs w5 w.heap.size 26 (Z.map (.int .u64))) := HR.out.grown hgrow5 (by simp)
    have HV5 : Hid (∀ j, j < V.length → w5.cell? ⟨g, j, none⟩ = some (.int .i32 (V.getD j 0))) := by
      intro j hj
      rw [(HO.out.kept hgrow5 (.inr (by simp [Value.ownBlock]))).cellAt j (by omega), map_at _ _ _ hj]
    have HB5 : Hid (Below w.heap.size w w5) := HB.out.grown hgrow5 (by omega) (by simp)
    have hs5 := HT5.out.lt
    clear hown5 hgrow5 HO HR HB
    go_wp2_with fail
    go_loopw [11] (fun q wr => ∃ k : Nat, k ≤ m ∧ q = .int .i64 k ∧ rowIs wr wc.heap.size 26 (((dropZ Z V).take k ++ List.replicate (m - k) 0).map (.int .u64)) ∧ Kept (fun j => j = wc.heap.size) w5 wr) (fun q _ => m - (intOf q).toNat)
    case atStart => exact ⟨0, Nat.zero_le _, rfl, HT5.out, Kept.refl _ _⟩
    case round =>
      obtain ⟨k, hk, rfl, hrow, hkept⟩ := hrel
      have HVr : Hid (∀ j, j < V.length → wr.cell? ⟨g, j, none⟩ = some (.int .i32 (V.getD j 0))) := fun j hj => (hkept.cell (p := ⟨g, j, none⟩) (by show g < _; omega) (by show ¬ g = _; omega)).trans (HV5.out j hj)
      have HRr : Hid (rowIs wr w.heap.size 26 (Z.map (.int .u64))) := hkept.row HR5.out (by show ¬ w.heap.size = _; omega)
      by_cases hlt : k < m
      · have hD := dropZ_at Z V k (by rw [HZL.out]; exact hlt)
        have HS : Hid (((dropZ Z V).take k ++ List.replicate (m - k) 0).set k ((dropZ Z V).getD k 0) = (dropZ Z V).take (k + 1) ++ List.replicate (m - (k + 1)) 0) := part_step _ m k (by rw [dropZ_length, HZL.out]) hlt
        have HK := (show Hid (Kept _ _ _) from hkept)
        have HT := (show Hid (rowIs _ _ _ _) from hrow)
        have ct : wr.cell? ⟨wc.heap.size, k, none⟩ = some (.int .u64 (((dropZ Z V).take k ++ List.replicate (m - k) 0).getD k 0)) := by
          rw [hrow.cell, map_at]
          simp [dropZ_length, HZL.out]; omega
        have ft := hrow.free k
        have cz : wr.cell? ⟨w.heap.size, k, none⟩ = some (.int .u64 (Z.getD k 0)) := by
          rw [HRr.out.cell, map_at]
          rw [HZL.out]; exact hlt
        generalize ((dropZ Z V).take k ++ List.replicate (m - k) 0).getD k 0 = old at *
        clear hkept hrow
        cases hb : inB V (k : Int) with
        | true =>
          rw [hb] at hD
          have HD : Hid ((dropZ Z V).getD k 0 = 0) := by rw [hD]; rfl
          have HIB : Hid (inB V (k : Int) = true) := hb
          clear hD hb
          go_wp2_with fail
          refine (ain_any V g V.length cap (k : Int) _ rfl HVr.out hVl (fun j hj => by have := HVB.out j hj; omega)).mono ?_
          rintro e w6 ⟨rfl, rfl⟩
          rw [HIB.out]
          go_wp2_with fail
          go_roundw
          case rel =>
            refine ⟨k + 1, by omega, by go_num, ?_, HK.out.setCell (fun _ => rfl) _⟩
            rw [← HS.out, HD.out]
            exact HT.out.setInt k 0
          case measure => simp [intOf]; omega
        | false =>
          rw [hb] at hD
          have HD : Hid ((dropZ Z V).getD k 0 = Z.getD k 0) := by rw [hD]; rfl
          have HIB : Hid (inB V (k : Int) = false) := hb
          generalize Z.getD k 0 = zk at *
          clear hD hb
          go_wp2_with fail
          refine (ain_any V g V.length cap (k : Int) _ rfl HVr.out hVl (fun j hj => by have := HVB.out j hj; omega)).mono ?_
          rintro e w6 ⟨rfl, rfl⟩
          rw [HIB.out]
          go_wp2_with fail
          go_roundw
          case rel =>
            refine ⟨k + 1, by omega, by go_num, ?_, HK.out.setCell (fun _ => rfl) _⟩
            rw [← HS.out, HD.out]
            exact HT.out.setInt k zk
          case measure => simp [intOf]; omega
      · obtain rfl : k = m := by omega
        have HK := (show Hid (Kept _ _ _) from hkept)
        have HT : Hid (rowIs wr wc.heap.size 26 ((dropZ Z V).map (.int .u64))) := by
          rw [List.take_of_length_le (by rw [dropZ_length, HZL.out]; exact Nat.le_refl _), Nat.sub_self] at hrow
          show rowIs _ _ _ _
          simpa using hrow
        clear hkept hrow
        obtain ⟨cs, hcs23, hcs24, hbuild⟩ := build53 (some ⟨w.heap.size, 0, none⟩) (some ⟨g, 0, none⟩) k k V.length cap
        have HC23 := (show Hid _ from hcs23)
        have HC24 := (show Hid _ from hcs24)
        have HBD := (show Hid _ from hbuild)
        clear hcs23 hcs24 hbuild
        have TOK : True := trivial
        go_upto_region 20 with fail
        go_wp2_with (have _t := TOK; refine wpList_build_as rfl 53 [(23, .tmp 71), (24, .tmp 72)] rfl [(23, .slice (some ⟨w.heap.size, 0, none⟩) k k), (24, .slice (some ⟨g, 0, none⟩) V.length cap)] (by rfl) cs.toArray HBD.out ?_; clear TOK _t)
        have hbx := rowIs_new wr cs 53
        have hszr : wc.heap.size < wr.heap.size := HT.out.lt
        refine (drop_any Z V wr.heap.size w.heap.size g k V.length cap _ HZL.out rfl hm hVl ((hbx.cell 23).trans HC23.out) ((hbx.cell 24).trans HC24.out) (hbx.free 24) (HRr.out.alloc _) (fun j hj => ((HVr.out j hj) ▸ ((Kept.refl (fun _ => False) wr).alloc _).cell (p := ⟨g, j, none⟩) (by show g < _; omega) id)) HVB.out (by omega) (by omega) (by simp) (by simp; omega)).mono ?_
        rintro e w7 ⟨rfl, hR7, h23, h24, hK7⟩
        have HT7 : Hid (rowIs w7 wc.heap.size 26 ((dropZ Z V).map (.int .u64))) := hK7.row (HT.out.alloc _) (by simp; omega)
        have HR7 := (show Hid (rowIs _ _ _ _) from hR7)
        have hs7 : wr.heap.size < w7.heap.size := by have := hK7.size; simp at this; omega
        have HB7 : Hid (Below w.heap.size w w7) := by
          have h5 := (Kept.ofBelow HB5.out).then HK.out (fun j hj e => by omega)
          exact ((h5.alloc _).then hK7 (fun j hj e => by omega)).below (Nat.le_refl _) (fun j hj => by omega)
        clear hR7 hK7 hbx HBD HC23 HC24 HT HRr HVr HR5 HV5 HT5 HB5 HK
        go_wp2_with fail
        obtain ⟨wo, rfl⟩ : ∃ wo : World, wo = wr := ⟨_, rfl⟩
        go_loopw [13] (fun q wr => ∃ j : Nat, j ≤ k ∧ q = .int .i64 j ∧ Below w7.heap.size w7 wr) (fun q _ => k - (intOf q).toNat)
        case atStart => exact ⟨0, Nat.zero_le _, rfl, Below.refl _ _⟩
        case round =>
          obtain ⟨j, hj2, rfl, hb⟩ := hrel
          by_cases hlt2 : j < k
          · have d23 := (hb.cell (p := ⟨wo.heap.size, 23, none⟩) hs7).trans h23
            have c1 : wr.cell? ⟨w.heap.size, j, none⟩ = some (.int .u64 ((dropZ Z V).getD j 0)) := by
              rw [(HR7.out.below hb HR7.out.lt).cell, map_at]
              rw [dropZ_length, HZL.out]; exact hlt2
            have c2 : wr.cell? ⟨wc.heap.size, j, none⟩ = some (.int .u64 ((dropZ Z V).getD j 0)) := by
              rw [(HT7.out.below hb HT7.out.lt).cell, map_at]
              rw [dropZ_length, HZL.out]; exact hlt2
            generalize (dropZ Z V).getD j 0 = y at *
            have hi1 : (j : Int) < (k : Int) := by omega
            have hi0 : (0 : Int) ≤ (j : Int) := by omega
            have HBQ := (show Hid (Below _ _ _) from hb)
            clear hb
            go_wp2_with fail
            go_quiet (fail)
            go_wp2_with fail
            go_roundw
            case rel => exact ⟨j + 1, by omega, by go_num, below_drewN HBQ.out _⟩
            case measure => simp [intOf]; omega
          · have HBQ := (show Hid (Below _ _ _) from hb)
            clear hb
            go_wp2_with fail
            go_ret
            exact ⟨rfl, HB7.out.trans (HBQ.out.mono HB7.out.size)⟩
end Go.Proofs.Ybulkajba
