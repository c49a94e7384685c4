import Derived.Test.YbulkaizkRMarshal
import Derived.Laws.CopyOwn
import Derived.Deep.QuietTactic
import Derived.BigQuiet
import Derived.Deep.LoopGhost
namespace Go.Proofs.YbulkaizkR
open Go.RowKit

theorem Yba.size5 : (Yba.prog.info? 5).map (·.size) = some 1 := by kernel_rfl

theorem oneCell_ints (Z : List Int) : ∀ u ∈ Z.map (Value.int .u8), u.oneCell' = true := by
  intro u hu
  obtain ⟨z, _, rfl⟩ := List.mem_map.1 hu
  rfl

/-- A slice that holds the bytes Z, made since w. -/
def ltAt (w wc : World) (Z : List Int) (m : Nat) (v : Value) : Prop :=
  ∃ al cl, v = .slice al m cl ∧ (al = none → m = 0 ∧ cl = 0) ∧ (∀ ad, al = some ad → ∀ j u, (Z.map (Value.int .u8))[j]? = some u → wc.cell? (ad.add j) = some u) ∧ Below w.heap.size w wc

/-- A row that is owned whole. -/
theorem ownsRow_whole {w : World} {B : Nat} {e : TypeId} {g n : Nat} {xs : List Value} (h : w.ownsRow B e 1 (.slice (some ⟨g, 0, none⟩) n n) n xs) : w.heap[g]? = some (.cells xs.toArray e (0, 0)) := by
  rcases h.2 with ⟨h2, _⟩ | ⟨g', cap', cur, h2, _, h4, _, _, h5, h6⟩
  · cases h2
  · simp only [Value.slice.injEq, Option.some.injEq, Addr.mk.injEq, and_true, true_and] at h2
    obtain ⟨rfl, rfl⟩ := h2
    rw [h4]
    have : xs = cur.toList := by rw [← h6]; exact List.take_of_length_le (by simp; omega)
    rw [this]

theorem splice_whole {L cs : List Value} (h : L.length = cs.length) : splice L 0 cs = cs := by
  simp [splice, ← h]

/-- What has been written of the wanted bytes since w1. -/
def wantAt (w1 wx : World) (sv : Value) (n : Nat) (xs : List Value) : Prop := wx.ownsRow w1.heap.size 5 1 sv n xs ∧ Below w1.heap.size w1 wx

theorem put_w {w1 wx : World} {sv : Value} {n : Nat} {xs : List Value} (v : Int) (hw : wantAt w1 wx sv n xs) (h0 : 0 ≤ v) (h1 : v ≤ 65535) (hn : n ≤ 100000) :
    Calls Yba.prog 5 #[sv, .int .u16 v] wx fun e w' => ∃ g cap, e = .returned (.slice (some ⟨g, 0, none⟩) (n + 2) cap) ∧ wantAt w1 w' (.slice (some ⟨g, 0, none⟩) (n + 2) cap) (n + 2) (xs ++ [.int .u8 (v / 256), .int .u8 (v % 256)]) := by
  refine (put_any w1.heap.size n v sv xs wx h0 h1 hw.1 hw.2.size hn).mono ?_
  rintro e w' ⟨g, cap, rfl, ho, hg⟩
  exact ⟨g, cap, rfl, ho, hw.2.grown hg hw.2.size (fun k hk => (hw.1.lt k hk).1)⟩

theorem wantAt_cast {w1 wx : World} {sv : Value} {n n' : Nat} {xs xs' : List Value} (h : wantAt w1 wx sv n xs) (hn : n = n') (hx : xs = xs') : wantAt w1 wx sv n' xs' := by
  subst hn; subst hx; exact h

theorem first2_le (c kl : Int) : (first2 c kl).length ≤ 2 := by
  unfold first2; split <;> simp

theorem encAll_more (L : List (Int × Int)) (h gr a : Int) : encAll L ++ [Value.int .u8 (32770 / 256), .int .u8 (32770 % 256)] ++ [.int .u8 (h / 256), .int .u8 (h % 256)] ++ [.int .u8 (32772 / 256), .int .u8 (32772 % 256)] ++ [.int .u8 (gr / 256), .int .u8 (gr % 256)]
    ++ [.int .u8 (32771 / 256), .int .u8 (32771 % 256)] ++ [.int .u8 (a / 256), .int .u8 (a % 256)] = encAll (L ++ [(2, h), (4, gr), (3, a)]) := by
  simp [encAll, encOne]

theorem lt_cell {al : Option Addr} {m cl : Nat} {Z : List Int} {w : World} (hal : al = none → m = 0 ∧ cl = 0) (hnews : ∀ ad, al = some ad → ∀ j u, (Z.map (Value.int .u8))[j]? = some u → w.cell? (ad.add j) = some u)
    (hZ : Z.length = m) {k : Nat} (hk : k < m) : ∃ b off, al = some ⟨b, off, none⟩ ∧ b < w.heap.size ∧ w.cell? ⟨b, off + k, none⟩ = some (.int .u8 (Z.getD k 0)) := by
  rcases al with _ | ⟨b, off, spot⟩
  · have := (hal rfl).1; omega
  · have h := hnews _ rfl k (.int .u8 (Z.getD k 0)) (by simp [List.getElem?_eq_getElem (by omega : k < Z.length)])
    have h' := hnews _ rfl 0 (.int .u8 (Z.getD 0 0)) (by simp [List.getElem?_eq_getElem (by omega : 0 < Z.length)])
    have hs : spot = none := by simpa [Addr.add] using World.cell?_spot h'
    subst hs
    have ha : (⟨b, off, none⟩ : Addr).add k = ⟨b, off + k, none⟩ := by unfold Addr.add; split <;> simp_all
    rw [ha] at h
    exact ⟨b, off, rfl, World.block_lt_of_cell? w _ h, h⟩

theorem news1 {w : World} {g : Nat} {x : Value} {t : TypeId} (h : w.heap[g]? = some (.cells #[x] t (0, 0))) : ∀ j u, [x][j]? = some u → w.cell? ((⟨g, 0, none⟩ : Addr).add j) = some u := fun j u hu => World.news_of_block h j u hu

def encInts (L : List (Int × Int)) : List Int := L.flatMap fun p => [(32768 + p.1) / 256, (32768 + p.1) % 256, p.2 / 256, p.2 % 256]
theorem encAll_ints (L : List (Int × Int)) (Z : List Int) : encAll L ++ Z.map (Value.int .u8) = (encInts L ++ Z).map (Value.int .u8) := by
  rw [List.map_append]
  congr 1
  induction L with
  | nil => rfl
  | cons p L ih => simp only [encAll, encInts, List.flatMap_cons, List.map_append] at ih ⊢; rw [ih]; rfl

theorem cell_ints {w : World} {B g n cap : Nat} {Y : List Int} (h : w.ownsRow B 5 1 (.slice (some ⟨g, 0, none⟩) n cap) n (Y.map (Value.int .u8))) {j : Nat} (hj : j < n) : w.cell? ⟨g, j, none⟩ = some (.int .u8 (Y.getD j 0)) := by
  have hl : Y.length = n := by simpa using h.1
  rw [h.cellAt j (by omega)]
  simp [List.getElem?_eq_getElem (by omega : j < Y.length)]

set_option maxHeartbeats 1000000 in
set_option maxRecDepth 100000 in
theorem law_small (c kl h a gr : Int) (al : Option Addr) (m cl : Nat) (Z : List Int) (w : World) (c0 : 0 ≤ c) (c1 : c ≤ 65535) (h0 : 0 ≤ h) (h1 : h ≤ 65535) (a0 : 0 ≤ a) (a1 : a ≤ 65535) (g0 : 0 ≤ gr) (g1 : gr ≤ 65535)
    (hm : m ≤ 1024) (hal : al = none → m = 0 ∧ cl = 0) (hZ : Z.length = m) (hnews : ∀ ad, al = some ad → ∀ j u, (Z.map (Value.int .u8))[j]? = some u → w.cell? (ad.add j) = some u) :
    Calls Yba.prog 3 #[.int .u16 c, .int .i64 kl, .int .u16 h, .int .u16 a, .int .u16 gr, .slice al m cl] w fun e w' => e = .returned (.bool true) ∧ Below w.heap.size w w' := by
  obtain ⟨i0, hi, hz0, hz1, hz2⟩ := info_parts Yba.info5
  obtain ⟨k1, k2⟩ := wrap16 kl
  have hu23 := Yba.underlying23
  have HN : Hid (∀ ad, al = some ad → ∀ j u, (Z.map (Value.int .u8))[j]? = some u → w.cell? (ad.add j) = some u) := hnews
  have HZ : Hid (Z.length = m) := hZ
  clear hnews hZ
  go_enter Yba.func3, Yba.ntmps3
  go_upto_if 23 with fail
  go_cut [13] (fun v wc => ltAt w wc Z m v)
  case first =>
    rcases al with _ | ad
    · obtain ⟨rfl, rfl⟩ := hal rfl
      go_wp2_with fail
      go_meet
      case rel =>
        exact ⟨none, 0, rfl, fun _ => ⟨rfl, rfl⟩, fun ad h => by (cases h), Below.refl _ _⟩
    · have hmn : (Z.map (Value.int .u8)).length = Nat.min m m := by rw [List.length_map, HZ.out]; exact (Nat.min_self m).symm
      have HMN := (show Hid _ from hmn)
      clear hmn
      go_wp2_with (first
        | (at_make; refine wpList_make_full _ rfl _ _ 23 rfl w.heap.size 5 i0 (.int .u8 0) 1 hu23 hi hz0 hz1 .i64 .i64 _ _ m rfl rfl rfl rfl (by rw [hz2]; omega) (by unfold maxLen; omega) (Nat.le_refl _) ?_; intro w1 hown1 hgrow1; have HW1 : Hid _ := ownsRow_whole hown1; have HB1 : Hid (Below w.heap.size w w1) := (Below.refl _ _).grown hgrow1 (Nat.le_refl _) (by simp); clear hown1 hgrow1)
        | (have _t := HW1; refine wpList_copy_splice rfl (.tmp 27) (.tmp 28) 23 23 rfl 5 hu23 Yba.size5 (some ⟨w.heap.size, 0, none⟩) (some ad) m m m cl rfl rfl w.heap.size 0 _ 5 HW1.out (Z.map (Value.int .u8)) HMN.out ?_ ?_ (oneCell_ints Z) w.heap.size w HB1.out (Nat.le_refl _) ?_; (intro _; exact ⟨rfl, ad, rfl, fun j u hu => (HB1.out.cell (World.block_lt_of_cell? w _ (HN.out ad rfl j u hu))).trans (HN.out ad rfl j u hu)⟩); (simp [madeCells, HZ.out]); intro w2 HG2 hb2))
      go_meet
      case rel =>
        have hsp : splice (madeCells (Value.int IntKind.u8 0).cells (m * 1)).toList 0 (Z.map (Value.int .u8)) = Z.map (Value.int .u8) := splice_whole (by simp [madeCells, HZ.out])
        have hg2 := HG2.out
        rw [hsp] at hg2
        refine ⟨some ⟨w.heap.size, 0, none⟩, m, rfl, fun h => (by cases h), ?_, hb2⟩
        intro ad' had j u hu
        obtain rfl := Option.some.inj had
        exact World.news_of_block hg2 j u (by simpa using hu)
  case rest =>
    obtain ⟨al', cl', rfl, hal', hn', hb'⟩ := hcut
    have HN' := (show Hid _ from hn')
    have HB' := (show Hid _ from hb')
    have hsz' := hb'.size
    have HAL := (show Hid _ from hal)
    clear hn' hb' hal
    go_wp2_with fail
    refine (marshal_any c kl h a gr al' m cl' (Z.map (Value.int .u8)) _ c0 c1 h0 h1 a0 a1 g0 g1 hm hal' (by rw [List.length_map]; exact HZ.out) (oneCell_ints Z) ?_).mono ?_
    · intro ad had j u hu
      exact (((Below.refl _ _).alloc (Nat.le_refl _) _).cell (World.block_lt_of_cell? wc _ (HN'.out ad had j u hu))).trans (HN'.out ad had j u hu)
    rintro e w1 ⟨gG, cG, rfl, hownG, hbG⟩
    have HG : Hid (w1.ownsRow 0 5 1 _ _ _) := ownsRow_mono hownG (Nat.zero_le _)
    have HB1 : Hid (Below w.heap.size w w1) := (HB'.out.alloc hsz' _).trans (hbG.mono (by simp; omega))
    clear hownG hbG HB' HN'
    go_wp2_with fail
    refine (put_w 32769 ⟨World.ownsRow_nil w1 w1.heap.size 5 1, Below.refl _ _⟩ (by omega) (by omega) (by omega)).mono ?_
    rintro e w2 ⟨g2, cp2, rfl, hw2⟩
    have HW2 := (show Hid _ from hw2)
    clear hw2
    go_wp2_with fail
    refine (put_w c HW2.out c0 c1 (by omega)).mono ?_
    rintro e w3 ⟨g3, cp3, rfl, hw3⟩
    have HW3 := (show Hid _ from hw3)
    clear hw3 HW2
    go_upto_if 45 with fail
    go_cut [16] (fun v wx => ∃ g cp, v = .slice (some ⟨g, 0, none⟩) (4 * (first2 c kl).length) cp ∧ wantAt w1 wx v (4 * (first2 c kl).length) (encAll (first2 c kl)))
    case first =>
      by_cases hk : kl = 0
      · subst hk
        go_wp2_with fail
        go_meet
        case rel => exact ⟨g3, cp3, rfl, HW3.out⟩
      · have hkb : (kl != 0) = true := by simp [hk]
        go_wp2_with fail
        refine (put_w 32782 HW3.out (by omega) (by omega) (by omega)).mono ?_
        rintro e w4 ⟨g4, cp4, rfl, hw4⟩
        have HW4 := (show Hid _ from hw4)
        clear hw4 HW3
        go_wp2_with fail
        refine (put_w (IntKind.u16.wrap kl) HW4.out k1 k2 (by omega)).mono ?_
        rintro e w5 ⟨g5, cp5, rfl, hw5⟩
        have HW5 := (show Hid _ from hw5)
        clear hw5 HW4
        go_wp2_with fail
        go_meet
        case rel =>
          have e : first2 c kl = [(1, c), (14, IntKind.u16.wrap kl)] := if_neg hk
          rw [e]
          exact ⟨g5, cp5, rfl, HW5.out⟩
    case rest =>
      obtain ⟨gw, cw, rfl, hv0⟩ := hcut
      have HV0 := (show Hid _ from hv0)
      have hf2 := first2_le c kl
      clear hv0 HW3
      go_wp2_with fail
      refine (put_w (32770) HV0.out (by omega) (by omega) (by omega)).mono ?_
      rintro e v1 ⟨q1, r1, rfl, hv1⟩
      have HV1 := (show Hid _ from hv1)
      clear hv1 HV0
      go_wp2_with fail
      refine (put_w (h) HV1.out h0 h1 (by omega)).mono ?_
      rintro e v2 ⟨q2, r2, rfl, hv2⟩
      have HV2 := (show Hid _ from hv2)
      clear hv2 HV1
      go_wp2_with fail
      refine (put_w (32772) HV2.out (by omega) (by omega) (by omega)).mono ?_
      rintro e v3 ⟨q3, r3, rfl, hv3⟩
      have HV3 := (show Hid _ from hv3)
      clear hv3 HV2
      go_wp2_with fail
      refine (put_w (gr) HV3.out g0 g1 (by omega)).mono ?_
      rintro e v4 ⟨q4, r4, rfl, hv4⟩
      have HV4 := (show Hid _ from hv4)
      clear hv4 HV3
      go_wp2_with fail
      refine (put_w (32771) HV4.out (by omega) (by omega) (by omega)).mono ?_
      rintro e v5 ⟨q5, r5, rfl, hv5⟩
      have HV5 := (show Hid _ from hv5)
      clear hv5 HV4
      go_wp2_with fail
      refine (put_w (a) HV5.out a0 a1 (by omega)).mono ?_
      rintro e v6 ⟨q6, r6, rfl, hv6⟩
      have HV6 := (show Hid _ from hv6)
      clear hv6 HV5
      have HV : Hid (wantAt w1 v6 _ (4 * ((first2 c kl).length + 3) + 0) (encAll (first2 c kl ++ [(2, h), (4, gr), (3, a)]) ++ (Z.take 0).map (Value.int .u8))) := wantAt_cast HV6.out (by omega) (by rw [encAll_more]; simp)
      clear HV6
      go_wp2_with fail
      go_loopw [16, 17] (fun v i wr => ∃ k : Nat, k ≤ m ∧ i = .int .i64 k ∧ wantAt w1 wr v (4 * ((first2 c kl).length + 3) + k) (encAll (first2 c kl ++ [(2, h), (4, gr), (3, a)]) ++ (Z.take k).map (Value.int .u8)))
        (fun _ i _ => m - (intOf i).toNat)
      case atStart => exact ⟨0, Nat.zero_le _, rfl, HV.out⟩
      case round =>
        obtain ⟨k, hk, rfl, hw⟩ := hrel
        by_cases hlt : k < m
        · obtain ⟨b, off, rfl, hb, hcell⟩ := lt_cell HAL.out HN.out HZ.out hlt
          have hc := ((HB1.out.trans (hw.2.mono HB1.out.size)).cell (p := ⟨b, off + k, none⟩) hb).trans hcell
          have HW := (show Hid (wantAt _ _ _ _ _) from hw)
          have hs := hw.2.size
          have HS : Hid ((Z.take (k + 1)).map (Value.int .u8) = (Z.take k).map (Value.int .u8) ++ [.int .u8 (Z.getD k 0)]) := by
            have hkz : k < Z.length := by rw [HZ.out]; exact hlt
            show _ = _
            rw [List.take_succ_eq_append_getElem hkz, List.map_append]
            simp [List.getElem?_eq_getElem hkz]
          generalize Z.getD k 0 = zk at *
          clear hw HV hcell
          go_wp2_with (at_builtin; refine wpList_append_lies _ rfl _ _ 23 rfl w1.heap.size 5 i0 (.int .u8 0) 1 1 hu23 hi hz0 hz1 hz2 rfl (by omega) _ (4 * ((first2 c kl).length + 3) + k) _ rfl (HW.out.1.alloc _) ⟨wr.heap.size, 0, none⟩ 1 1 [.int .u8 zk] rfl rfl (news1 (heap_alloc_new wr _)) (by simp [Value.oneCell']) (by omega) (by unfold maxLen; omega) (by omega) (by simp; omega) _ rfl ?_; intro g3 cap3 w2 hown2 hgrow2 hat2 hlt2)
          go_roundw
          case rel =>
            refine ⟨k + 1, by omega, by go_num, ?_⟩
            rw [HS.out, ← List.append_assoc]
            exact ⟨hown2, (HW.out.2.alloc hs _).grown hgrow2 (by simp; omega) (fun j hj => (HW.out.1.lt j hj).1)⟩
          case measure => simp [intOf]; omega
        · obtain rfl : k = m := by omega
          obtain ⟨gw, cw, hv, _, hlw⟩ := hw.1.form (by omega)
          subst hv
          have HW := (show Hid (wantAt _ _ _ _ _) from hw)
          clear hw HV hlt
          have HW' := HW.out
          rw [List.take_of_length_le (by rw [HZ.out]; exact Nat.le_refl _), encAll_ints] at HW'
          have HG' := HG.out
          rw [encAll_ints] at HG'
          have HGc : Hid (∀ j, j < 4 * ((first2 c kl).length + 3) + k → wr.cell? ⟨gG, j, none⟩ = some (.int .u8 ((encInts (first2 c kl ++ [(2, h), (4, gr), (3, a)]) ++ Z).getD j 0))) := fun j hj => (HW'.2.cell (p := ⟨gG, j, none⟩) (HG'.lt gG rfl).2).trans (cell_ints HG' hj)
          have HWc : Hid (∀ j, j < 4 * ((first2 c kl).length + 3) + k → wr.cell? ⟨gw, j, none⟩ = some (.int .u8 ((encInts (first2 c kl ++ [(2, h), (4, gr), (3, a)]) ++ Z).getD j 0))) := fun j hj => cell_ints HW'.1 hj
          have HB2 : Hid (Below w.heap.size w wr) := HB1.out.trans (HW'.2.mono HB1.out.size)
          have hlg : gG < wr.heap.size := Nat.lt_of_lt_of_le (HG'.lt gG rfl).2 HW'.2.size
          clear HW HG HW' HG' HN HB1
          generalize encInts (first2 c kl ++ [(2, h), (4, gr), (3, a)]) ++ Z = Y at *
          obtain ⟨N, hN⟩ : ∃ N, N = 4 * ((first2 c kl).length + 3) + k := ⟨_, rfl⟩
          rw [← hN] at HGc HWc
          have hNb : N ≤ 2000 := by omega
          simp only [← hN]
          clear hN
          go_wp2_with fail
          obtain ⟨wo, rfl⟩ : ∃ wo : World, wo = wr := ⟨_, rfl⟩
          go_loopw [18] (fun i wr => ∃ j : Nat, j ≤ N ∧ i = .int .i64 j ∧ Below wo.heap.size wo wr) (fun i _ => N - (intOf i).toNat)
          case atStart => exact ⟨0, Nat.zero_le _, rfl, Below.refl _ _⟩
          case round =>
            obtain ⟨j, hj, rfl, hb⟩ := hrel
            by_cases hlt : j < N
            · have c1 := (hb.cell (p := ⟨gG, j, none⟩) hlg).trans (HGc.out j hlt)
              have c2 := (hb.cell (p := ⟨gw, j, none⟩) hlw).trans (HWc.out j hlt)
              generalize Y.getD j 0 = y at *
              have hi1 : (j : Int) < (N : Int) := by omega
              have hi0 : (0 : Int) ≤ (j : Int) := by omega
              have HBQ := (show Hid _ from hb)
              clear hb
              go_wp2_with fail
              go_quiet (fail)
              go_wp2_with fail
              go_roundw
              case rel => exact ⟨j + 1, by omega, by go_num, below_drewN HBQ.out _⟩
              case measure => simp [intOf]; omega
            · have HBQ := (show Hid _ from hb)
              clear hb
              go_wp2_with fail
              go_ret
              exact ⟨rfl, HB2.out.trans (HBQ.out.mono HB2.out.size)⟩
end Go.Proofs.YbulkaizkR
