import Derived.Test.YbulkajbaWrites
import Derived.Deep.DeepCutAuto
namespace Go.Proofs.Ybulkajba
open Go.RowKit
set_option linter.unusedVariables false

theorem Yba.info58 : (Yba.prog.info? 58).map (fun i => (i.zero, i.size, i.bytes)) = some (some (.slice none 0 0), 1, 24) := by kernel_rfl
theorem Yba.info21 : (Yba.prog.info? 21).map (fun i => (i.zero, i.size, i.bytes)) = some (some (.int .i32 0), 1, 4) := by kernel_rfl
theorem Yba.info60 : (Yba.prog.info? 60).map (fun i => (i.zero, i.size, i.bytes)) = some (some (.agg #[.int .i32 0, .int .i32 0]), 2, 8) := by kernel_rfl

theorem build74 (a : Option Addr) (n c : Nat) : ∃ cs : List Value, cs[9]? = some (.slice a n c) ∧ ∀ w : World, (Instr.build 74 #[(5, .slice a n c)]).run Yba.prog w = .ok (.agg cs.toArray) w :=
  ⟨((Yba.prog.built 74 [(5, .slice a n c)]).getD #[]).toList, by kernel_rfl, fun w => run_build w 74 #[(5, .slice a n c)] _ (by kernel_rfl)⟩
theorem build84 (p a : Option Addr) (n c : Nat) : ∃ cs : List Value, cs[0]? = some (.pointer p) ∧ cs[3]? = some (.slice a n c) ∧ ∀ w : World, (Instr.build 84 #[(0, .pointer p), (3, .agg #[.slice a n c, .slice none 0 0])]).run Yba.prog w = .ok (.agg cs.toArray) w :=
  ⟨((Yba.prog.built 84 [(0, .pointer p), (3, .agg #[.slice a n c, .slice none 0 0])]).getD #[]).toList, by kernel_rfl, by kernel_rfl, fun w => run_build w 84 #[(0, .pointer p), (3, .agg #[.slice a n c, .slice none 0 0])] _ (by kernel_rfl)⟩

/-- The counts of open intervals, an item each; the last item has none. -/
def cntL (C : List Int) : List Nat := C.map (fun c => (c % 6).toNat) ++ [0]
theorem cntL_length (C : List Int) : (cntL C).length = C.length + 1 := by simp [cntL]
theorem cntL_at (C : List Int) (k : Nat) (h : k < C.length) : (cntL C).getD k 0 = (C.getD k 0 % 6).toNat := by
  simp [cntL, List.getElem?_append_left (show k < (C.map fun c => (c % 6).toNat).length by simpa using h), List.getElem?_eq_getElem h]
theorem cntL_le (C : List Int) (j : Nat) : (cntL C).getD j 0 ≤ 10 := by
  have : ∀ x ∈ cntL C, x ≤ 10 := by
    intro x hx
    simp only [cntL, List.mem_append, List.mem_map, List.mem_singleton] at hx
    rcases hx with ⟨c, _, rfl⟩ | rfl <;> omega
  rw [List.getD_eq_getElem?_getD]
  rcases h : (cntL C)[j]? with _ | x
  · simp
  · simp; exact this x (List.mem_of_getElem? h)
def cntI (K : List Nat) (n k : Nat) : List Int := (K.take k).map Int.ofNat ++ List.replicate (n - k) 0
theorem cntI_length (K : List Nat) (n k : Nat) (hK : K.length = n) (hk : k ≤ n) : (cntI K n k).length = n := by
  simp [cntI]; omega
theorem cntI_step (K : List Nat) (n k : Nat) (hK : K.length = n) (hk : k < n) : (cntI K n k).set k ((K.getD k 0 : Nat) : Int) = cntI K n (k + 1) := by
  unfold cntI
  have hk' : k < K.length := by omega
  rw [List.take_succ_eq_append_getElem hk', List.set_append_right _ _ (by simp; omega)]
  have hl : ((K.take k).map Int.ofNat).length = k := by simp; omega
  rw [hl, Nat.sub_self, show n - k = (n - (k + 1)) + 1 from by omega, List.replicate_succ, List.set_cons_zero, List.map_append, List.append_assoc]
  simp [List.getElem?_eq_getElem hk']
theorem cntI_last (C : List Int) (n : Nat) (hn : C.length + 1 = n) : cntI (cntL C) n C.length = (cntL C).map Int.ofNat := by
  unfold cntI cntL
  rw [List.take_append_of_le_length (by simp), List.take_of_length_le (by simp), show n - C.length = 1 from by omega]
  simp

/-- The lists of open intervals and their counts, k items told. -/
def itemsAt (w wr : World) (bN : Nat) (K : List Nat) (n k : Nat) : Prop :=
  (∃ xs, rowIs wr w.heap.size 58 xs ∧ xs.length = n ∧ ∀ j, j < n → ∃ y c, xs[j]? = some (.slice y (if j < k then K.getD j 0 else 0) c)) ∧
  rowIs wr bN 21 ((cntI K n k).map (.int .i32)) ∧ Below w.heap.size w wr

theorem itemsAt_below {w wr wx : World} {bN : Nat} {K : List Nat} {n k : Nat} (h : itemsAt w wr bN K n k) (hb : Below wr.heap.size wr wx) (hs : w.heap.size ≤ wr.heap.size) : itemsAt w wx bN K n k := by
  obtain ⟨⟨xs, h1, h2, h3⟩, h4, h5⟩ := h
  exact ⟨⟨xs, h1.below hb h1.lt, h2, h3⟩, h4.below hb h4.lt, h5.trans (hb.mono hs)⟩

theorem replicate_at (x : Value) (n j : Nat) (h : j < n) : (List.replicate n x)[j]? = some x := by simp [h]

theorem items_step {w wr : World} {bN n k kx g cap : Nat} {K : List Nat} {xs : List Value} (hx : rowIs wr w.heap.size 58 xs) (hl : xs.length = n) (ha : ∀ j, j < n → ∃ y c, xs[j]? = some (.slice y (if j < k then K.getD j 0 else 0) c))
    (hn : rowIs wr bN 21 ((cntI K n (k + 1)).map (.int .i32))) (hb : Below w.heap.size w wr) (hk : K.getD k 0 = kx) (hlt : w.heap.size < bN) (hkn : k < n) :
    itemsAt w (wr.setCell ⟨w.heap.size, k, none⟩ (.slice (some ⟨g, 0, none⟩) kx cap)) bN K n (k + 1) := by
  refine ⟨⟨_, hx.set k _, by simpa using hl, ?_⟩, hn.other (p := ⟨w.heap.size, k, none⟩) (by show ¬ bN = w.heap.size; omega) _, hb.setCell (Nat.le_refl _) _⟩
  intro j hj
  by_cases hjk : j = k
  · subst hjk
    refine ⟨some ⟨g, 0, none⟩, cap, ?_⟩
    rw [List.getElem?_set_self (by omega), if_pos (by omega), hk]
  · obtain ⟨y, c, h⟩ := ha j hj
    refine ⟨y, c, ?_⟩
    rw [List.getElem?_set_ne (by omega), h]
    by_cases h1 : j < k
    · rw [if_pos h1, if_pos (by omega)]
    · rw [if_neg h1, if_neg (by omega)]

/-- The lists of open intervals and their counts, whole. -/
def allAt (wr : World) (bH bN : Nat) (K : List Nat) (n : Nat) : Prop :=
  (∀ j, j < n → ∃ y c, wr.cell? ⟨bH, j, none⟩ = some (.slice y (K.getD j 0) c)) ∧ ∀ j, j < n → wr.cell? ⟨bN, j, none⟩ = some (.int .i32 ((K.getD j 0 : Nat) : Int))

theorem allAt_of {w wr : World} {bN m n : Nat} {C : List Int} (h : itemsAt w wr bN (cntL C) n m) (hC : C.length = m) (hn : n = m + 1) : allAt wr w.heap.size bN (cntL C) n := by
  obtain ⟨⟨xs, h1, h2, h3⟩, h4, _⟩ := h
  subst hC
  refine ⟨fun j hj => ?_, fun j hj => ?_⟩
  · obtain ⟨y, c, h⟩ := h3 j hj
    refine ⟨y, c, ?_⟩
    rw [h1.cell, h]
    by_cases hlt : j < C.length
    · rw [if_pos hlt]
    · rw [if_neg hlt]
      obtain rfl : j = C.length := by omega
      simp [cntL]
  · rw [h4.cell, cntI_last C n hn.symm, List.getElem?_map, List.getElem?_map, List.getElem?_eq_getElem (by rw [cntL_length]; omega)]
    simp [List.getElem?_eq_getElem (show j < (cntL C).length by rw [cntL_length]; omega)]

theorem allAt_below {wr wx : World} {bH bN n B : Nat} {K : List Nat} (h : allAt wr bH bN K n) (hb : Below B wr wx) (h1 : bH < B) (h2 : bN < B) : allAt wx bH bN K n := by
  refine ⟨fun j hj => ?_, fun j hj => (hb.cell (p := ⟨bN, j, none⟩) h2).trans (h.2 j hj)⟩
  obtain ⟨y, c, h⟩ := h.1 j hj
  exact ⟨y, c, (hb.cell (p := ⟨bH, j, none⟩) h1).trans h⟩

/-- The transaction that is asked for: its writes came in as L, and lie, brought into range, at place q of the info. -/
def tgtAt (w wc : World) (bI q m n : Nat) (al : Option Addr) (cl : Nat) (L : List (Int × Int)) : Prop :=
  cameIn2 w al m cl L ∧ m ≤ 1024 ∧ ∃ gq cap, wc.cell? ⟨bI, q * 3 + 2, none⟩ = some (.slice (some ⟨gq, 0, none⟩) m cap) ∧
    ∀ j (h : j < (foldL L n).length), wc.cell? ⟨gq, j * 2, none⟩ = some (.int .i32 (foldL L n)[j].1) ∧ wc.cell? ⟨gq, j * 2 + 1, none⟩ = some (.int .i32 (foldL L n)[j].2) ∧ (foldL L n)[j].1 < n

theorem cells_of_writes {w : World} {B g m cap n : Nat} {L : List (Int × Int)} (h : w.ownsRow B 100 2 (.slice (some ⟨g, 0, none⟩) m cap) m (flat2 (foldL L n))) (hL : L.length = m) (hn : 0 < n) :
    ∀ j (hj : j < (foldL L n).length), w.cell? ⟨g, j * 2, none⟩ = some (.int .i32 (foldL L n)[j].1) ∧ w.cell? ⟨g, j * 2 + 1, none⟩ = some (.int .i32 (foldL L n)[j].2) ∧ (foldL L n)[j].1 < n := by
  intro j hj
  have hj' : j < m := by rw [← hL]; simpa [foldL] using hj
  obtain ⟨f1, f2⟩ := flat2_at (foldL L n) j hj
  refine ⟨by rw [h.cellAt _ (by omega), f1], by rw [h.cellAt _ (by omega), f2], ?_⟩
  simp only [foldL, List.getElem_map]
  have := Int.emod_lt_of_pos (L[j].1) (show (0 : Int) < (n : Int) by omega)
  have := Int.emod_nonneg (L[j].1) (show (n : Int) ≠ 0 by omega)
  omega

theorem tgtAt_below {w wc wx : World} {bI q m n B : Nat} {al : Option Addr} {cl : Nat} {L : List (Int × Int)} (h : tgtAt w wc bI q m n al cl L) (hb : Below B wc wx) (hB : wc.heap.size ≤ B) : tgtAt w wx bI q m n al cl L := by
  obtain ⟨h1, h2, gq, cap, h3, h4⟩ := h
  have hb' := hb.mono hB
  refine ⟨h1, h2, gq, cap, (hb'.cell (World.block_lt_of_cell? wc _ h3)).trans h3, fun j hj => ?_⟩
  obtain ⟨a, b, c⟩ := h4 j hj
  exact ⟨(hb'.cell (World.block_lt_of_cell? wc _ a)).trans a, (hb'.cell (World.block_lt_of_cell? wc _ b)).trans b, c⟩

theorem foldL_at (L : List (Int × Int)) (n k : Nat) (h : k < L.length) (h' : k < (foldL L n).length) : (foldL L n)[k].1 = (L[k].1 % (n : Int)).toNat ∧ (foldL L n)[k].2 = L[k].2 := by
  simp [foldL]

set_option maxHeartbeats 2000000 in
set_option maxRecDepth 100000 in
theorem lawB_small (a0 : Option Addr) (m0 c0 : Nat) (C : List Int) (a1 : Option Addr) (m1 c1 : Nat) (F : List (Int × Int)) (a2 : Option Addr) (m2 c2 : Nat) (G : List (Int × Int)) (p : Bool) (w : World)
    (h0 : m0 ≤ 1024) (h1 : m1 ≤ 1024) (h2 : m2 ≤ 1024) (hC : cameIn w a0 m0 c0 (C.map (.int .u8))) (hCb : ∀ x ∈ C, 0 ≤ x ∧ x ≤ 255) (hF : cameIn2 w a1 m1 c1 F) (hG : cameIn2 w a2 m2 c2 G) :
    Calls Yba.prog 4 #[.slice a0 m0 c0, .slice a1 m1 c1, .slice a2 m2 c2, .bool p] w fun e w' => e = .returned (.bool true) ∧ Below w.heap.size w w' := by
  obtain ⟨i8, h8, y0, y1, y2⟩ := info_parts Yba.info58
  obtain ⟨i1, hj, z0, z1, z2⟩ := info_parts Yba.info21
  obtain ⟨i6, h6, x0, x1, x2⟩ := info_parts Yba.info60
  have hu57 := Yba.underlying57
  have hu23 := Yba.underlying23
  have hu58 := Yba.underlying58
  have HC := (show Hid (cameIn _ _ _ _ _) from hC)
  have HF := (show Hid (cameIn2 _ _ _ _ _) from hF)
  have HG := (show Hid (cameIn2 _ _ _ _ _) from hG)
  have HCL : Hid (C.length = m0) := by have := hC.1; rwa [List.length_map] at this
  have HCB := (show Hid _ from hCb)
  have HKL : Hid ((cntL C).length = m0 + 1) := by rw [cntL_length, HCL.out]; rfl
  obtain ⟨n, hn⟩ : ∃ n, n = m0 + 1 := ⟨_, rfl⟩
  rw [← hn] at HKL
  have hnb : n ≤ 1025 := by omega
  have hn0 : 0 < n := by omega
  have hni : ((m0 : Int) + 1) = (n : Int) := by omega
  have HNN := (show Hid _ from hn)
  clear hC hF hG hCb hn
  go_enter Yba.func4, Yba.ntmps4
  go_upto_region 6 with (first
    | (at_make; refine wpList_make_full _ rfl _ _ 57 rfl w.heap.size 58 i8 (.slice none 0 0) 1 hu57 h8 y0 y1 .i64 .i64 _ _ n rfl rfl rfl rfl (by rw [y2]; omega) (by unfold maxLen; omega) (Nat.le_refl _) ?_; intro w1 hown1 hgrow1; have HW1 : Hid (rowIs w1 w.heap.size 58 _) := owned_whole hown1; have HB1 : Hid (Below w.heap.size w w1) := (Below.refl _ _).grown hgrow1 (Nat.le_refl _) (by simp); have hs1 := HW1.out.lt; clear hown1 hgrow1)
    | (at_make; have _t := HW1; refine wpList_make_full _ rfl _ _ 23 rfl w1.heap.size 21 i1 (.int .i32 0) 1 hu23 hj z0 z1 .i64 .i64 _ _ n rfl rfl rfl rfl (by rw [z2]; omega) (by unfold maxLen; omega) (Nat.le_refl _) ?_; intro w2 hown2 hgrow2; have HW2 : Hid (rowIs w2 w1.heap.size 21 _) := owned_whole hown2; have HB2 : Hid (Below w.heap.size w w2) := HB1.out.grown hgrow2 (by omega) (by simp); have HV2 : Hid (rowIs w2 w.heap.size 58 _) := HW1.out.grown hgrow2 (by simp); clear hown2 hgrow2 HW1 HB1 _t))
  obtain ⟨bN, hbN⟩ : ∃ bN, bN = w1.heap.size := ⟨_, rfl⟩
  rw [← hbN] at HW2 hs1
  simp only [← hbN]
  clear hbN
  have HI : Hid (itemsAt w w2 bN (cntL C) n 0) := by
    refine ⟨⟨_, HV2.out, ?_, ?_⟩, ?_, HB2.out⟩
    · rw [show (Value.slice none 0 0).cells = #[Value.slice none 0 0] from rfl, toList_madeCells_one]; simp
    · intro j hj
      rw [show (Value.slice none 0 0).cells = #[Value.slice none 0 0] from rfl, toList_madeCells_one]
      exact ⟨none, 0, by rw [replicate_at _ _ _ (by omega)]; simp⟩
    · have := HW2.out
      rw [show (Value.int IntKind.i32 0).cells = #[Value.int IntKind.i32 0] from rfl, toList_madeCells_one] at this
      simpa [cntI] using this
  clear HV2 HW2 HB2
  go_wp2_with fail
  go_loopw [46] (fun q wr => ∃ k : Nat, k ≤ m0 ∧ q = .int .i64 k ∧ itemsAt w wr bN (cntL C) n k) (fun q _ => m0 - (intOf q).toNat)
  case atStart => exact ⟨0, Nat.zero_le _, rfl, HI.out⟩
  case round =>
    obtain ⟨k, hk, rfl, hit⟩ := hrel
    by_cases hlt : k < m0
    · obtain ⟨⟨xs, hxs, hxl, hxa⟩, hcn, hbel⟩ := hit
      obtain ⟨b, off, rfl, hb, hcell⟩ := HC.out.at hlt
      rw [map_at _ _ _ (by rw [HCL.out]; exact hlt)] at hcell
      have hc := (hbel.cell (p := ⟨b, off + k, none⟩) hb).trans hcell
      have HKK := (show Hid _ from cntL_at C k (by rw [HCL.out]; exact hlt))
      obtain ⟨l1, l2⟩ := HCB.out (C.getD k 0) (by rw [List.getD_eq_getElem?_getD, List.getElem?_eq_getElem (by rw [HCL.out]; exact hlt)]; simp)
      generalize C.getD k 0 = x at *
      obtain ⟨kx, hkx⟩ : ∃ kx : Nat, (kx : Int) = x % 6 := ⟨(x % 6).toNat, by omega⟩
      have hkx5 : kx ≤ 5 := by omega
      have HK2 : Hid ((cntL C).getD k 0 = kx) := by show _ = _; rw [HKK.out]; omega
      have hxk : x % 6 = (kx : Int) := hkx.symm
      have HXS := (show Hid (rowIs _ _ _ _) from hxs)
      have HCN := (show Hid (rowIs _ _ _ _) from hcn)
      have HBL := (show Hid (Below _ _ _) from hbel)
      have HXA := (show Hid _ from hxa)
      have HXL := (show Hid _ from hxl)
      have lH := hxs.lt
      have lN := hcn.lt
      have ccn : wr.cell? ⟨bN, k, none⟩ = some (.int .i32 ((cntI (cntL C) n k).getD k 0)) := by
        rw [hcn.cell, map_at]
        rw [cntI_length _ _ _ HKL.out (by omega)]; omega
      have fcn := hcn.free k
      generalize (cntI (cntL C) n k).getD k 0 = old at *
      clear hxs hcn hbel hxa hxl hkx HKK hcell
      go_upto_region 12 with (at_make; refine wpList_make_own _ rfl _ _ 58 rfl wr.heap.size 60 i6 _ 2 hu58 h6 x0 x1 .i64 .i32 _ kx rfl rfl rfl (by rw [x2]; omega) (by unfold maxLen; omega) (by simp) ?_; intro w3 hown3 hgrow3)
      have hsz : (wr.setCell ⟨bN, k, none⟩ (.int .i32 kx)).heap.size = wr.heap.size := by simp
      rw [hsz] at hown3
      have HO3 := (show Hid (World.ownsRow _ _ _ _ _ _ _) from hown3)
      have HX3 : Hid (rowIs w3 w.heap.size 58 xs) := (HXS.out.other (p := ⟨bN, k, none⟩) (by show ¬ w.heap.size = bN; omega) _).grown hgrow3 (by simp)
      have HN3 : Hid (rowIs w3 bN 21 ((cntI (cntL C) n (k + 1)).map (.int .i32))) := by
        have := HCN.out.setInt k (kx : Int)
        rw [← HK2.out, cntI_step _ _ _ HKL.out (by omega), HK2.out] at this
        exact this.grown hgrow3 (by simp)
      have HB3 : Hid (Below w.heap.size w w3) := (HBL.out.setCell (by show w.heap.size ≤ bN; omega) _).grown hgrow3 (by rw [hsz]; omega) (by simp)
      have hs3 : wr.heap.size ≤ w3.heap.size := by have := hgrow3.size; rw [hsz] at this; exact this
      clear hown3 hgrow3 hsz HXS HCN HBL ccn fcn hc
      obtain ⟨wo, rfl⟩ : ∃ wo : World, wo = wr := ⟨_, rfl⟩
      go_wp2_with fail
      go_loopw [15, 16] (fun v q wr => ∃ (j g cap : Nat) (ys : List Value), j ≤ kx ∧ q = .int .i32 j ∧ v = .slice (some ⟨g, 0, none⟩) j cap ∧ wr.ownsRow wo.heap.size 60 2 v j ys ∧ Below wo.heap.size w3 wr) (fun _ q _ => kx - (intOf q).toNat)
      case atStart => exact ⟨0, _, _, [], Nat.zero_le _, rfl, rfl, HO3.out, Below.refl _ _⟩
      case round =>
        obtain ⟨j, g, cap, ys, hj5, rfl, rfl, hown, hbel⟩ := hrel
        have hsr := hbel.size
        by_cases hlj : j < kx
        · have HO := (show Hid (World.ownsRow _ _ _ _ _ _ _) from hown)
          have HB := (show Hid (Below _ _ _) from hbel)
          clear hown hbel
          go_wp2_with (at_builtin; refine wpList_append_lies _ rfl _ _ 58 rfl wo.heap.size 60 i6 _ 2 8 hu58 h6 x0 x1 x2 rfl (by omega) _ j _ rfl (HO.out.alloc _) ⟨wr.heap.size, 0, none⟩ 1 1 [.int .i32 j, .int .i32 ((k : Int) * 8 + j)] rfl rfl (World.news_of_block (heap_alloc_new wr _)) (by simp [Value.oneCell']) (by omega) (by unfold maxLen; omega) (by omega) (by simp; omega) _ rfl ?_; intro g4 c4 w4 hown4 hgrow4 hat4 hlt4)
          go_roundw
          case rel =>
            exact ⟨j + 1, g4, c4, _, by omega, by go_num, rfl, hown4, (HB.out.alloc (by omega) _).grown hgrow4 (by simp; omega) (fun i hi => (HO.out.lt i hi).1)⟩
          case measure => simp [intOf]; omega
        · obtain rfl : j = kx := by omega
          have HB := (show Hid (Below _ _ _) from hbel)
          have HXr : Hid (rowIs wr w.heap.size 58 xs) := HX3.out.below hbel lH
          have HNr : Hid (rowIs wr bN 21 ((cntI (cntL C) n (k + 1)).map (.int .i32))) := HN3.out.below hbel lN
          have HBr : Hid (Below w.heap.size w wr) := HB3.out.trans (hbel.mono (by omega))
          obtain ⟨yk, ck, hck⟩ := HXA.out k (by omega)
          have cx := (HXr.out.cell k).trans hck
          have fx := HXr.out.free k
          clear hown hbel HO3 HX3 HN3 HB3 hck
          go_wp2_with fail
          go_roundw
          case rel => exact ⟨k + 1, by omega, by go_num, items_step HXr.out HXL.out HXA.out HNr.out HBr.out HK2.out hs1 (by omega)⟩
          case measure => simp [intOf]; omega
    · obtain rfl : k = m0 := by omega
      have HBr : Hid (Below w.heap.size w wr) := hit.2.2
      have lH : w.heap.size < wr.heap.size := by obtain ⟨⟨_, h, _⟩, _⟩ := hit; exact h.lt
      have lN : bN < wr.heap.size := hit.2.1.lt
      have HAL := (show Hid (allAt _ _ _ _ _) from allAt_of hit HCL.out HNN.out)
      clear hit HI hlt
      go_wp2_with fail
      refine (writes_any a1 m1 c1 n F _ (HF.out.below HBr.out) h1 hn0 hnb).mono ?_
      rintro e w4 ⟨g1, q1, rfl, ho1, hb1⟩
      have HO1 := (show Hid (World.ownsRow _ _ _ _ _ _ _) from ho1)
      have HL1 := (show Hid (Below _ _ _) from hb1)
      have hs4 := hb1.size
      clear ho1 hb1
      have HB4 : Hid (Below w.heap.size w w4) := HBr.out.trans (HL1.out.mono (by omega))
      go_wp2_with fail
      refine (writes_any a2 m2 c2 n G _ (HG.out.below HB4.out) h2 hn0 hnb).mono ?_
      rintro e w5 ⟨g2, q2, rfl, ho2, hb2⟩
      have HO2 := (show Hid (World.ownsRow _ _ _ _ _ _ _) from ho2)
      have HL2 := (show Hid (Below _ _ _) from hb2)
      have hs5 := hb2.size
      clear ho2 hb2
      have HX5 : Hid (allAt w5 w.heap.size bN (cntL C) n) := allAt_below (allAt_below HAL.out HL1.out lH lN) HL2.out (by omega) (by omega)
      have HB5 : Hid (Below w.heap.size w w5) := HB4.out.trans (HL2.out.mono (by omega))
      have HC1 : Hid _ := cells_of_writes HO1.out HF.out.1 hn0
      have HC2 : Hid _ := cells_of_writes HO2.out HG.out.1 hn0
      have lg1 := (HO1.out.lt g1 rfl).2
      have lg2 := (HO2.out.lt g2 rfl).2
      go_upto_if 90 with fail
      have hrow := rowIs_new w5 [.slice none 0 0, .slice none 0 0, .slice (some ⟨g1, 0, none⟩) m1 q1, .slice none 0 0, .slice none 0 0, .slice (some ⟨g2, 0, none⟩) m2 q2] 65
      have hba := (Below.refl w5.heap.size w5).alloc (Nat.le_refl _) (.cells #[.slice none 0 0, .slice none 0 0, .slice (some ⟨g1, 0, none⟩) m1 q1, .slice none 0 0, .slice none 0 0, .slice (some ⟨g2, 0, none⟩) m2 q2] 65)
      have HT1 : Hid (tgtAt w (w5.alloc (.cells #[.slice none 0 0, .slice none 0 0, .slice (some ⟨g1, 0, none⟩) m1 q1, .slice none 0 0, .slice none 0 0, .slice (some ⟨g2, 0, none⟩) m2 q2] 65)) w5.heap.size 0 m1 n a1 c1 F) := by
        refine ⟨HF.out, h1, g1, q1, hrow.cell 2, fun j hj => ?_⟩
        obtain ⟨e1, e2, e3⟩ := HC1.out j hj
        exact ⟨(hba.cell (p := ⟨g1, j * 2, none⟩) (by show g1 < _; omega)).trans ((HL2.out.cell (p := ⟨g1, j * 2, none⟩) lg1).trans e1), (hba.cell (p := ⟨g1, j * 2 + 1, none⟩) (by show g1 < _; omega)).trans ((HL2.out.cell (p := ⟨g1, j * 2 + 1, none⟩) lg1).trans e2), e3⟩
      have HT2 : Hid (tgtAt w (w5.alloc (.cells #[.slice none 0 0, .slice none 0 0, .slice (some ⟨g1, 0, none⟩) m1 q1, .slice none 0 0, .slice none 0 0, .slice (some ⟨g2, 0, none⟩) m2 q2] 65)) w5.heap.size 1 m2 n a2 c2 G) := by
        refine ⟨HG.out, h2, g2, q2, hrow.cell 5, fun j hj => ?_⟩
        obtain ⟨e1, e2, e3⟩ := HC2.out j hj
        exact ⟨(hba.cell (p := ⟨g2, j * 2, none⟩) lg2).trans e1, (hba.cell (p := ⟨g2, j * 2 + 1, none⟩) lg2).trans e2, e3⟩
      have HX6 : Hid (allAt (w5.alloc (.cells #[.slice none 0 0, .slice none 0 0, .slice (some ⟨g1, 0, none⟩) m1 q1, .slice none 0 0, .slice none 0 0, .slice (some ⟨g2, 0, none⟩) m2 q2] 65)) w.heap.size bN (cntL C) n) := allAt_below HX5.out hba (by omega) (by omega)
      have HB6 : Hid (Below w.heap.size w (w5.alloc (.cells #[.slice none 0 0, .slice none 0 0, .slice (some ⟨g1, 0, none⟩) m1 q1, .slice none 0 0, .slice none 0 0, .slice (some ⟨g2, 0, none⟩) m2 q2] 65))) := HB5.out.trans (hba.mono (by omega))
      clear hrow hba HC1 HC2 HX5 HB5 HO1 HO2 HL1 HL2 HB4 HAL
      go_cut [18, 19] (fun v t wc => ∃ (q m : Nat) (al : Option Addr) (cl : Nat) (L : List (Int × Int)), q < 2 ∧ v = .int .i32 q ∧ t = .slice al m cl ∧ tgtAt w wc w5.heap.size q m n al cl L ∧ allAt wc w.heap.size bN (cntL C) n ∧ Below w.heap.size w wc ∧ w5.heap.size < wc.heap.size)
      case first =>
        cases p with
        | false =>
          go_wp2_with fail
          go_meet
          case rel => exact ⟨0, m1, a1, c1, F, by omega, rfl, rfl, HT1.out, HX6.out, HB6.out, by simp⟩
        | true =>
          go_wp2_with fail
          go_meet
          case rel => exact ⟨1, m2, a2, c2, G, by omega, rfl, rfl, HT2.out, HX6.out, HB6.out, by simp⟩
      case rest =>
        obtain ⟨q, m, al, cl, L, hq, rfl, rfl, htg, hall, hbw, hsw⟩ := hcut
        have HT := (show Hid (tgtAt _ _ _ _ _ _ _ _ _) from htg)
        have HX := (show Hid (allAt _ _ _ _ _) from hall)
        have HB := (show Hid (Below _ _ _) from hbw)
        have hm : m ≤ 1024 := htg.2.1
        have hsz := hbw.size
        clear htg hall hbw HT1 HT2 HX6 HB6
        obtain ⟨cs1, d9, hbd1⟩ := build74 (some ⟨w5.heap.size, 0, none⟩) 2 2
        obtain ⟨cs2, e0, e3, hbd2⟩ := build84 (some ⟨wc.heap.size, 0, none⟩) (some ⟨w.heap.size, 0, none⟩) n n
        have HD9 := (show Hid _ from d9)
        have HE0 := (show Hid _ from e0)
        have HE3 := (show Hid _ from e3)
        have HBD1 := (show Hid _ from hbd1)
        have HBD2 := (show Hid _ from hbd2)
        clear d9 e0 e3 hbd1 hbd2
        have TOK1 : True := trivial
        have TOK2 : True := trivial
        go_upto_region 24 with fail
        go_wp2_with (have _t := TOK1; refine wpList_build_as rfl 74 [(5, .tmp 92)] rfl [(5, .slice (some ⟨w5.heap.size, 0, none⟩) 2 2)] (by rfl) cs1.toArray HBD1.out ?_; clear TOK1 _t; refine Hid.out ?_)
        unfold Hid
        iterate 9 (first | go_guarded | go_step)
        refine wpList_build_as rfl 84 [(0, .tmp 94), (3, .tmp 96)] rfl [(0, .pointer (some ⟨wc.heap.size, 0, none⟩)), (3, .agg #[.slice (some ⟨w.heap.size, 0, none⟩) n n, .slice none 0 0])] (by rfl) cs2.toArray HBD2.out ?_
        go_wp2_with fail
        have hr1 : rowIs ((wc.alloc (Obj.cells cs1.toArray 74)).alloc (Obj.cells cs2.toArray 84)) wc.heap.size 74 cs1 := (rowIs_new wc cs1 74).alloc _
        have hr2 : rowIs ((wc.alloc (Obj.cells cs1.toArray 74)).alloc (Obj.cells cs2.toArray 84)) (wc.heap.size + 1) 84 cs2 := heap_new2 wc _ _
        have hbb : Below wc.heap.size wc ((wc.alloc (Obj.cells cs1.toArray 74)).alloc (Obj.cells cs2.toArray 84)) := (((Below.refl _ wc).alloc (Nat.le_refl _) _).alloc (by simp) _)
        generalize (wc.alloc (Obj.cells cs1.toArray 74)).alloc (Obj.cells cs2.toArray 84) = w8 at *
        have HT8 := (show Hid (tgtAt _ _ _ _ _ _ _ _ _) from tgtAt_below HT.out hbb (Nat.le_refl _))
        have lbN : bN < wc.heap.size := by omega
        have HX8 := (show Hid (allAt _ _ _ _ _) from allAt_below HX.out hbb (by omega) lbN)
        have HB8 : Hid (Below w.heap.size w w8) := HB.out.trans (hbb.mono hsz)
        have HR1 := (show Hid (rowIs _ _ _ _) from hr1)
        have HR2 := (show Hid (rowIs _ _ _ _) from hr2)
        have hs8 : wc.heap.size + 1 < w8.heap.size := hr2.lt
        have HML : Hid (L.length = m) := HT8.out.1.1
        have HFL : Hid ((foldL L n).length = m) := by show _ = _; rw [← HML.out]; simp [foldL]
        clear hr1 hr2 hbb HT HX HB HBD1 HBD2 HF HG HC
        go_loopw [21, 101] (fun v i wr => ∃ j : Nat, j ≤ m ∧ i = .int .i64 j ∧ v = .bool (moreB (cntL C) ((foldL L n).take j)) ∧ Below w8.heap.size w8 wr) (fun _ i _ => m - (intOf i).toNat)
        case atStart => exact ⟨0, Nat.zero_le _, rfl, rfl, Below.refl _ _⟩
        case round =>
          obtain ⟨j, hjm, rfl, rfl, hb⟩ := hrel
          have hsr := hb.size
          by_cases hlt : j < m
          · have hlt1 : j < L.length := by rw [HML.out]; exact hlt
            have hlt2 : j < (foldL L n).length := by rw [HFL.out]; exact hlt
            obtain ⟨b, off, rfl, hbl, e0, e1⟩ := HT8.out.1.at hlt hlt1
            obtain ⟨l1, l2, l3, l4⟩ := HT8.out.1.2.2.2 j hlt1
            obtain ⟨f1, f2⟩ := foldL_at L n j hlt1 hlt2
            have hmt := moreB_take (cntL C) (foldL L n) j hlt2
            rw [f1, f2] at hmt
            generalize L[j].1 = it at *
            generalize L[j].2 = ow at *
            have t0 : 0 ≤ it % (n : Int) := Int.emod_nonneg _ (by omega)
            have t1 : it % (n : Int) < (n : Int) := Int.emod_lt_of_pos _ (by omega)
            have hT : it.tmod (n : Int) = it % (n : Int) := Int.tmod_eq_emod_of_nonneg l1
            obtain ⟨xn, hxn⟩ : ∃ xn : Nat, it % (n : Int) = (xn : Int) := ⟨(it % (n : Int)).toNat, by omega⟩
            rw [hxn] at hT t0 t1 hmt
            rw [Int.toNat_natCast] at hmt
            have cN := (hb.cell (p := ⟨bN, xn, none⟩) (by show bN < _; omega)).trans (HX8.out.2 xn (by omega))
            have kle := cntL_le C xn
            generalize (cntL C).getD xn 0 = kx at *
            have r0 := (hb.cell (p := ⟨b, off + j * 2, none⟩) (by show b < _; omega)).trans ((HB8.out.cell (p := ⟨b, off + j * 2, none⟩) hbl).trans e0)
            have r1 := (hb.cell (p := ⟨b, off + j * 2 + 1, none⟩) (by show b < _; omega)).trans ((HB8.out.cell (p := ⟨b, off + j * 2 + 1, none⟩) hbl).trans e1)
            have hw1 : IntKind.i64.wrap it = it := by rw [IntKind.wrap_i64]; omega
            have hnn : ¬ n = 0 := by omega
            have lbN' : bN < wr.heap.size := by omega
            have lb' : b < wr.heap.size := by omega
            have HMT := (show Hid _ from hmt)
            have HBQ := (show Hid (Below _ _ _) from hb)
            clear hb e0 e1 f1 f2 hmt
            by_cases hgt : ow < (kx : Int)
            · go_wp2_with fail
              go_quiet (fail)
              go_wp2_with fail
              go_roundw
              case rel =>
                refine ⟨j + 1, by omega, by go_num, ?_, below_drewN (HBQ.out.alloc hsr _) _⟩
                rw [HMT.out, decide_eq_true hgt, Bool.or_true]
              case measure => simp [intOf]; omega
            · have hgf : decide (ow < (kx : Int)) = false := by simpa using hgt
              have HGF := (show Hid _ from hgf)
              clear hgf
              go_wp2_with fail
              go_quiet (fail)
              go_wp2_with fail
              go_roundw
              case rel =>
                refine ⟨j + 1, by omega, by go_num, ?_, below_drewN (HBQ.out.alloc hsr _) _⟩
                rw [HMT.out, HGF.out, Bool.or_false]
              case measure => simp [intOf]; omega
          · obtain rfl : j = m := by omega
            obtain ⟨_, _, gq, cq, hI, hW⟩ := tgtAt_below HT8.out hb (Nat.le_refl _)
            have hX := allAt_below HX8.out hb (by omega) (by omega)
            have HB9 : Hid (Below w.heap.size w wr) := HB8.out.trans (hb.mono (by omega))
            have s0 := ((HR2.out.below hb HR2.out.lt).cell 0).trans HE0.out
            have s3 := ((HR2.out.below hb HR2.out.lt).cell 3).trans HE3.out
            have d9 := ((HR1.out.below hb HR1.out.lt).cell 9).trans HD9.out
            have HIN := (show Hid (Calls _ _ _ _ _) from inside_any (wc.heap.size + 1) wc.heap.size w5.heap.size w.heap.size gq n j cq q (cntL C) (foldL L n) wr HKL.out (by omega) HFL.out hm hq s0 s3 d9 hI hX.1 (fun i _ => cntL_le C i) hW)
            rw [List.take_of_length_le (by rw [HFL.out]; exact Nat.le_refl _)]
            generalize moreB (cntL C) (foldL L n) = mb at *
            clear hb hI hW hX s0 s3 d9 HT8 HX8 HR1 HR2
            go_wp2_with fail
            refine HIN.out.mono ?_
            rintro e w9 ⟨rfl, hb9⟩
            have HB10 : Hid (Below w.heap.size w w9) := HB9.out.trans (hb9.mono HB9.out.size)
            clear hb9
            go_wp2_with fail
            go_ret
            exact ⟨ret_bool (by simp), HB10.out⟩
end Go.Proofs.Ybulkajba
