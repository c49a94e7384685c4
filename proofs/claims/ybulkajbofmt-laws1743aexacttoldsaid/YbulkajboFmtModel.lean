/- The walk of zzs1743amodel. -/
import Derived.Test.YbulkajboFmtSched
namespace Go.Proofs.YbulkajboFmt
open Go.RowKit
set_option linter.unusedVariables false
attribute [local go_sem ↓] Go.wp_at_zero Go.wp_at_succ

/-- The bits of K, for n processes, as they lie in memory. -/
def bitsV (n K : Nat) : List Value := ((List.range n).map (fun q => K.testBit q)).map Value.bool
theorem bitsV_at {n K q : Nat} (h : q < n) : (bitsV n K)[q]? = some (.bool (K.testBit q)) := by simp [bitsV, h]
theorem bitsV_zero (n : Nat) : bitsV n 0 = (List.replicate n false).map Value.bool := by
  unfold bitsV; congr 1; apply List.ext_getElem <;> simp
theorem bitsV_set (n K p : Nat) : (bitsV n K).set p (.bool true) = bitsV n (K ||| 2 ^ p) := by
  unfold bitsV
  rw [← List.map_set]
  congr 1
  apply List.ext_getElem
  · simp
  · intro i h1 h2
    simp only [List.getElem_set, List.getElem_map, List.getElem_range]
    by_cases e : p = i
    · subst e; simp
    · rw [if_neg e, Plain.bit_or]
      have : decide (i = p) = false := by simp; omega
      simp [this]

def slV (n : Nat) (G : Nat → Nat) (l : Nat) : Value := .slice (some ⟨G l, 0, none⟩) n n
/-- The table of who knows which label: its first m labels are laid. -/
structure Tab (bT n m : Nat) (G Kf : Nat → Nat) (w wr : World) : Prop where
  row : rowIs wr bT 75 ((List.range 3).map fun x => if x < m then slV n G x else .slice none 0 0)
  bits : ∀ l, l < m → rowIs wr (G l) 4 (bitsV n (Kf l))
  hi : ∀ l, l < m → bT < G l
  inj : ∀ l l', l < m → l' < m → G l = G l' → l = l'
  kp : Kept (fun _ => False) w wr
  wT : w.heap.size ≤ bT

theorem Tab.kept {bT n m : Nat} {G Kf : Nat → Nat} {w wr w' : World} (h : Tab bT n m G Kf w wr) (k : Kept (fun _ => False) wr w') : Tab bT n m G Kf w w' :=
  ⟨k.row h.row (by simp), fun l hl => k.row (h.bits l hl) (by simp), h.hi, h.inj, h.kp.trans k, h.wT⟩
theorem Tab.new {bT n m : Nat} {G : Nat → Nat} {w wr w1 : World} (h : Tab bT n m G (fun _ => 0) w wr) (hm : m < 3) (hr : rowIs w1 wr.heap.size 4 (bitsV n 0)) (k : Kept (fun _ => False) wr w1) :
    Tab bT n (m + 1) (fun x => if x = m then wr.heap.size else G x) (fun _ => 0) w (w1.setCell ⟨bT, m, none⟩ (.slice (some ⟨wr.heap.size, 0, none⟩) n n)) := by
  have lT := h.row.lt
  have old : ∀ l, l < m → G l < wr.heap.size := fun l hl => (h.bits l hl).lt
  refine ⟨?_, fun l hl => ?_, fun l hl => ?_, fun l l' hl hl' e => ?_, (h.kp.trans k).setCell (p := ⟨bT, m, none⟩) (fun hh => by have := h.wT; exact absurd hh (show ¬ bT < w.heap.size by omega)) _, h.wT⟩
  · have r := (k.row h.row (by simp)).set m (.slice (some ⟨wr.heap.size, 0, none⟩) n n)
    have e : ((List.range 3).map fun x => if x < m then slV n G x else .slice none 0 0).set m (.slice (some ⟨wr.heap.size, 0, none⟩) n n) = (List.range 3).map fun x => if x < m + 1 then slV n (fun x => if x = m then wr.heap.size else G x) x else .slice none 0 0 := by
      apply List.ext_getElem
      · simp
      · intro i h1 h2
        simp only [List.getElem_set, List.getElem_map, List.getElem_range]
        by_cases e : m = i
        · subst e; simp [slV]
        · rw [if_neg e]
          by_cases hi : i < m
          · simp [hi, show i < m + 1 by omega, slV, show ¬ i = m by omega]
          · simp [hi, show ¬ i < m + 1 by omega]
    rw [e] at r
    exact r
  · by_cases e : l = m
    · subst e; simp only [if_true]; exact hr.other (p := ⟨bT, l, none⟩) (show wr.heap.size ≠ bT by omega) _
    · simp only [if_neg e]
      have hl' : l < m := by omega
      exact (k.row (h.bits l hl') (by simp)).other (p := ⟨bT, m, none⟩) (show G l ≠ bT by have := h.hi l hl'; omega) _
  · by_cases e : l = m
    · subst e; simp only [if_true]; exact lT
    · simp only [if_neg e]; exact h.hi l (by omega)
  · by_cases e1 : l = m <;> by_cases e2 : l' = m
    · omega
    · simp only [if_pos e1, if_neg e2] at e; have := old l' (by omega); omega
    · simp only [if_neg e1, if_pos e2] at e; have := old l (by omega); omega
    · simp only [if_neg e1, if_neg e2] at e; exact h.inj l l' (by omega) (by omega) e
theorem Tab.store {bT n : Nat} {G Kf : Nat → Nat} {w wr : World} (h : Tab bT n 3 G Kf w wr) {l p : Nat} (hl : l < 3) : Tab bT n 3 G (fun x => if x = l then Kf l ||| 2 ^ p else Kf x) w (wr.setCell ⟨G l, p, none⟩ (.bool true)).drew := by
  have hT := h.hi l hl
  refine ⟨(h.row.other (p := ⟨G l, p, none⟩) (show bT ≠ G l by omega) _).drew, fun x hx => ?_, h.hi, h.inj, (h.kp.setCell (p := ⟨G l, p, none⟩) (fun hh => by have := h.wT; exact absurd hh (show ¬ G l < w.heap.size by omega)) _).drew, h.wT⟩
  by_cases e : x = l
  · subst e
    simp only [if_true]
    have r := (h.bits x hx).set p (.bool true)
    rw [bitsV_set] at r
    exact r.drew
  · simp only [if_neg e]
    exact ((h.bits x hx).other (p := ⟨G l, p, none⟩) (fun e' => e (h.inj x l hx hl e')) _).drew
theorem Tab.sl {bT n : Nat} {G Kf : Nat → Nat} {w wr : World} (h : Tab bT n 3 G Kf w wr) {l : Nat} (hl : l < 3) : wr.cell? ⟨bT, l, none⟩ = some (.slice (some ⟨G l, 0, none⟩) n n) := by
  rw [h.row.cell]; simp [hl, slV]
theorem Tab.bit {bT n : Nat} {G Kf : Nat → Nat} {w wr : World} (h : Tab bT n 3 G Kf w wr) {l q : Nat} (hl : l < 3) (hq : q < n) : wr.cell? ⟨G l, q, none⟩ = some (.bool ((Kf l).testBit q)) ∧ wr.frozen? ⟨G l, q, none⟩ = false := by
  exact ⟨by rw [(h.bits l hl).cell]; exact bitsV_at hq, (h.bits l hl).free q⟩

theorem max0_nat (y a m : Nat) (hm : y - a = m) (w : World) : Calls Ybaf.prog 23 #[.int .i64 ((y : Int) - (a : Int))] w fun e w' => e = .returned (.int .i64 (m : Int)) ∧ w' = w := by
  refine (max0_any _ w).mono ?_
  rintro e w' ⟨rfl, rfl⟩
  refine ⟨?_, rfl⟩
  congr 2
  split <;> omega
/-- The pairs i and j are no bad ones. -/
def BD (n : Nat) (ps : List HP) (i j : Nat) : Prop := ∀ (hi : i < ps.length) (hj : j < ps.length), ¬ Plain.Bad n (knowB ps ps[i].l) ps[i].c (knowB ps ps[j].l) ps[j].c
theorem all_BD {n : Nat} {ps : List HP} (h : ∀ i j, i < ps.length → j < ps.length → BD n ps i j) : ∀ a ∈ ps, ∀ b ∈ ps, ¬ Plain.Bad n (knowB ps a.l) a.c (knowB ps b.l) b.c := by
  intro a ha b hb
  obtain ⟨i, hi, rfl⟩ := List.getElem_of_mem ha
  obtain ⟨j, hj, rfl⟩ := List.getElem_of_mem hb
  exact h i j hi hj hi hj

def row3 (h : Nat → Nat) : List Value := [.int .i64 (h 0 : Int), .int .i64 (h 1 : Int), .int .i64 (h 2 : Int)]
def upd3 (h : Nat → Nat) (l v : Nat) : Nat → Nat := fun x => if x = l then v else h x
theorem row3_at (h : Nat → Nat) {l : Nat} (hl : l < 3) : (row3 h)[l]? = some (.int .i64 (h l : Int)) := by
  rcases (show l = 0 ∨ l = 1 ∨ l = 2 by omega) with rfl | rfl | rfl <;> rfl
theorem row3_set (h : Nat → Nat) {l : Nat} (hl : l < 3) (v : Nat) : (row3 h).set l (.int .i64 (v : Int)) = row3 (upd3 h l v) := by
  rcases (show l = 0 ∨ l = 1 ∨ l = 2 by omega) with rfl | rfl | rfl <;> simp [row3, upd3]
/-- How many correct processes know label l. -/
def NN (n : Nat) (cr : Nat → Bool) (ps : List HP) (l : Nat) : Nat := Plain.cnt n (fun q => (knowB ps l).testBit q && !cr q)
def hasL (n : Nat) (cr : Nat → Bool) (all : List HP) (p : Nat) (ps : List HP) : Bool := ps.any (fun h => decide (h.p = p ∧ h.c ≤ NN n cr all h.l))
theorem hasL_succ (n : Nat) (cr : Nat → Bool) (all : List HP) (p : Nat) (ps : List HP) (k : Nat) (h : k < ps.length) : hasL n cr all p (ps.take (k + 1)) = (hasL n cr all p (ps.take k) || decide (ps[k].p = p ∧ ps[k].c ≤ NN n cr all ps[k].l)) := by
  rw [take_snoc ps k h, hasL, List.any_append]; simp [hasL]
theorem hasL_iff (n : Nat) (cr : Nat → Bool) (ps : List HP) (p : Nat) : hasL n cr ps p ps = true ↔ ∃ h ∈ ps, h.p = p ∧ h.c ≤ Plain.cnt n (fun q => (knowB ps h.l).testBit q && !cr q) := by
  rw [hasL, List.any_eq_true]
  constructor
  · rintro ⟨x, hx, h⟩; simp at h; exact ⟨x, hx, h.1, h.2⟩
  · rintro ⟨x, hx, h1, h2⟩; exact ⟨x, hx, by simp [h1]; exact h2⟩

def hasS (p : Nat) (ps : List HP) : Bool := ps.any (fun h => decide (h.p = p ∧ h.w = 0))
theorem hasS_succ (p : Nat) (ps : List HP) (k : Nat) (h : k < ps.length) : hasS p (ps.take (k + 1)) = (hasS p (ps.take k) || decide (ps[k].p = p ∧ ps[k].w = 0)) := by
  rw [take_snoc ps k h, hasS, List.any_append]; simp [hasS]
theorem hasS_iff (p : Nat) (ps : List HP) : hasS p ps = (startB ps).testBit p := by
  rw [Bool.eq_iff_iff, startB_bit, hasS, List.any_eq_true]
  constructor
  · rintro ⟨x, hx, h⟩; simp at h; exact ⟨x, hx, h.2, h.1⟩
  · rintro ⟨x, hx, h1, h2⟩; exact ⟨x, hx, by simp [h1, h2]⟩

set_option maxRecDepth 100000 in
set_option maxHeartbeats 8000000 in
theorem model_any (n bD : Nat) (al : Option Addr) (cap : Nat) (ps : List HP) (cr : Nat → Bool) (h1 : 1 ≤ n) (h9 : n ≤ 9) (hlen : ps.length ≤ 400) (hok : ∀ h ∈ ps, okHP n h) (w : World)
    (hcr : rowIs w bD 4 (((List.range n).map cr).map Value.bool)) (hps : heldAt w al ps) :
    Calls Ybaf.prog 9 #[.int .i64 n, .slice (some ⟨bD, 0, none⟩) n n, .slice al ps.length cap] w fun e w' => ∃ b : Bool, e = .returned (.bool b) ∧ (b = true ↔ Good n cr ps) ∧ Kept (fun _ => False) w w' := by
  obtain ⟨i0, hi, hz0, hz1, hz2⟩ := info_parts Ybaf.info4
  have hu22 := Ybaf.underlying22
  have HPS := (show Hid (heldAt _ _ _) from hps)
  have HOK := (show Hid (∀ h ∈ ps, okHP n h) from hok)
  have HCR := (show Hid (rowIs _ _ _ _) from hcr)
  have lD := hcr.lt
  clear hps hok hcr
  go_enter Ybaf.func9, Ybaf.ntmps9
  go_upto_block 0 with fail
  have T0 := (show Hid (Tab w.heap.size n 0 (fun _ => 0) (fun _ => 0) w (w.alloc (.cells #[.slice none 0 0, .slice none 0 0, .slice none 0 0] 75))) from ⟨rowIs_new _ _ _, fun l hl => by omega, fun l hl => by omega, fun l l' hl => by omega, (Kept.refl _ w).alloc _, Nat.le_refl _⟩)
  obtain ⟨bT, hbT⟩ : ∃ b, w.heap.size = b := ⟨_, rfl⟩
  obtain ⟨w1, hw1⟩ : ∃ x, w.alloc (.cells #[.slice none 0 0, .slice none 0 0, .slice none 0 0] 75) = x := ⟨_, rfl⟩
  rw [hw1, hbT] at T0 ⊢
  clear hw1 hbT
  go_cut [8] (fun _ wx => ∃ G, Tab bT n 3 G (fun _ => 0) w wx)
  case first =>
    go_wp2_with fail
    go_loopw [8] (fun q wr => ∃ (l : Nat) (G : Nat → Nat), l ≤ 3 ∧ q = .int .i64 l ∧ Tab bT n l G (fun _ => 0) w wr) (fun q _ => 3 - (intOf q).toNat)
    case atStart => exact ⟨0, _, by omega, rfl, T0.out⟩
    case round =>
      clear T0
      obtain ⟨l, G, hl, rfl, hT⟩ := hrel
      have HT := (show Hid (Tab _ _ _ _ _ _ _) from hT)
      clear hT
      by_cases hl3 : l < 3
      · have hld : (l : Int) < 3 := by omega
        go_wp2_with (at_make; refine wpList_make_full _ rfl _ _ 22 rfl wr.heap.size 4 i0 (.bool false) 1 hu22 hi hz0 hz1 .i64 .i64 _ _ n rfl rfl rfl rfl (by rw [hz2]; omega) (by unfold maxLen; omega) (Nat.le_refl _) ?_; intro wm hown1 hgrow1; have HO1 := (show Hid (rowIs wm wr.heap.size 4 (bitsV n 0)) from by rw [bitsV_zero, ← made_bools]; exact owned_whole hown1); have HK1 := (show Hid (Kept (fun _ => False) wr wm) from (Kept.ofGrown hgrow1).mono (fun _ _ h => by simp at h)); have hT0 := HK1.out.row HT.out.row (by simp); have f0 := hT0.free l; have c0 : wm.cell? ⟨bT, l, none⟩ = some (.slice none 0 0) := (by rw [hT0.cell]; simp [hl3]); clear hown1 hgrow1 hT0)
        go_roundw
        case rel => exact ⟨l + 1, _, by omega, by go_num, HT.out.new hl3 HO1.out HK1.out⟩
        case measure => go_light; simp [intOf]; omega
      · obtain rfl : l = 3 := by omega
        go_wp2_with fail
        go_meet
        exact ⟨G, HT.out⟩
  case rest =>
    obtain ⟨G, hT⟩ := hcut
    have T1 := (show Hid (Tab _ _ _ _ _ _ _) from hT)
    obtain ⟨w2, rfl⟩ : ∃ x, x = wc := ⟨_, rfl⟩
    clear hT T0
    go_upto_block 2 with fail
    go_cut [44] (fun _ wx => Tab bT n 3 G (fun l => knowB ps l) w wx)
    case first =>
      go_wp2_with fail
      go_loopw [44] (fun q wr => ∃ k : Nat, k ≤ ps.length ∧ q = .int .i64 k ∧ Tab bT n 3 G (fun l => knowB (ps.take k) l) w wr) (fun q _ => ps.length - (intOf q).toNat)
      case atStart => exact ⟨0, by omega, rfl, T1.out⟩
      case round =>
        clear T1
        obtain ⟨k, hk, rfl, hT⟩ := hrel
        have HT := (show Hid (Tab _ _ _ _ _ _ _) from hT)
        clear hT
        by_cases hlt : k < ps.length
        · obtain ⟨q1, q2, q3, q4, q5⟩ := HOK.out _ (List.getElem_mem hlt)
          obtain ⟨gp, rfl, hgp, c0, c1, c2, c3⟩ := (HPS.out.kept HT.out.kp (fun _ _ => by simp)) k hlt
          have HK1 := (show Hid (∀ l, _ = _) from fun l => knowB_succ ps k l hlt)
          obtain ⟨hh, hhe⟩ : ∃ hh, ps[k] = hh := ⟨_, rfl⟩
          rw [hhe] at q1 q2 q3 q4 q5 c0 c1 c2 c3 HK1
          clear hhe
          obtain ⟨p, wv, l, c⟩ := hh
          dsimp only at q1 q2 q3 q4 q5 c0 c1 c2 c3 HK1
          have T2 := (show Hid (Tab _ _ _ _ _ _ _) from HT.out.kept ((Kept.refl (fun _ => False) wr).alloc (.cells #[.int .i64 (p : Int), .int .i64 (wv : Int), .int .i64 (l : Int), .int .i64 (c : Int)] 35)))
          have s1 := T2.out.sl q3
          obtain ⟨s2, s3⟩ := T2.out.bit q3 q1
          have d0 := (rowIs_new wr [.int .i64 (p : Int), .int .i64 (wv : Int), .int .i64 (l : Int), .int .i64 (c : Int)] 35).cell 0
          have d2 := (rowIs_new wr [.int .i64 (p : Int), .int .i64 (wv : Int), .int .i64 (l : Int), .int .i64 (c : Int)] 35).cell 2
          have b1 : (0 : Int) ≤ (l : Int) := by omega
          have b2 : (l : Int) < 3 := by omega
          have b3 : (0 : Int) ≤ (p : Int) := by omega
          have b4 : (p : Int) < (n : Int) := by omega
          go_upto_region 9 with fail
          obtain ⟨wq, hwq⟩ : ∃ wq, wr.alloc (.cells #[.int .i64 (p : Int), .int .i64 (wv : Int), .int .i64 (l : Int), .int .i64 (c : Int)] 35) = wq := ⟨_, rfl⟩
          rw [hwq] at T2 s1 s2 s3 ⊢
          have d0' : wq.cell? ⟨wr.heap.size, 0, none⟩ = some (.int .i64 (p : Int)) := by rw [← hwq]; exact d0
          have d2' : wq.cell? ⟨wr.heap.size, 2, none⟩ = some (.int .i64 (l : Int)) := by rw [← hwq]; exact d2
          clear d0 d2 hwq c0 c1 c2 c3
          go_region
          go_wp2_with fail
          go_roundw
          case rel =>
            refine ⟨k + 1, by omega, by go_num, ?_⟩
            have h := T2.out.store (p := p) q3
            have e : (fun x => if x = l then knowB (ps.take k) l ||| 2 ^ p else knowB (ps.take k) x) = fun l => knowB (ps.take (k + 1)) l := by
              funext x
              rw [HK1.out x]
              by_cases ex : x = l
              · subst ex; simp
              · rw [if_neg ex, if_neg (fun e' => ex e'.symm)]
            rw [e] at h
            exact h
          case measure => go_light; simp [intOf]; omega
        · obtain rfl : k = ps.length := by omega
          go_wp2_with fail
          go_meet
          have h := HT.out
          rw [List.take_length] at h
          exact h
    case rest =>
      have TB := (show Hid (Tab _ _ _ _ _ _ _) from hcut)
      obtain ⟨w3, rfl⟩ : ∃ x, x = wc := ⟨_, rfl⟩
      clear hcut T1
      go_upto_block 4 with fail
      go_cut [11] (fun _ wx => Kept (fun _ => False) w3 wx ∧ ∀ x, x < n → (startB ps).testBit x = true)
      case first =>
        go_wp2_with fail
        go_loopw [11] (fun q wr => ∃ p : Nat, p ≤ n ∧ q = .int .i64 p ∧ Kept (fun _ => False) w3 wr ∧ ∀ x, x < p → (startB ps).testBit x = true) (fun q _ => n - (intOf q).toNat)
        case atStart => exact ⟨0, by omega, rfl, Kept.refl _ _, fun x hx => by omega⟩
        case round =>
          obtain ⟨p, hp, rfl, hkp, hall⟩ := hrel
          have HKP := (show Hid (Kept _ _ _) from hkp)
          have HALL := (show Hid (∀ x, _ → _) from hall)
          clear hkp hall
          by_cases hpn : p < n
          · have hpd : decide ((p : Int) < (n : Int)) = true := by simp; omega
            have hpd2 : decide (p < n) = true := by simpa using hpn
            go_upto_block 6 with fail
            go_cut [12] (fun v wx => v = .bool (hasS p ps) ∧ Kept (fun _ => False) w3 wx)
            case first =>
              go_wp2_with fail
              go_loopw [12, 63] (fun v q wr => ∃ k : Nat, k ≤ ps.length ∧ q = .int .i64 k ∧ v = .bool (hasS p (ps.take k)) ∧ Kept (fun _ => False) w3 wr) (fun _ q _ => ps.length - (intOf q).toNat)
              case atStart => exact ⟨0, by omega, rfl, rfl, HKP.out⟩
              case round =>
                obtain ⟨k, hk, rfl, rfl, hkk⟩ := hrel
                have HKK := (show Hid (Kept _ _ _) from hkk)
                clear hkk
                by_cases hlt : k < ps.length
                · obtain ⟨gp, rfl, hgp, c0, c1, c2, c3⟩ := (HPS.out.kept (TB.out.kp.trans HKK.out) (fun _ _ => by simp)) k hlt
                  have HSU := (show Hid (_ = _) from hasS_succ p ps k hlt)
                  obtain ⟨hh, hhe⟩ : ∃ hh, ps[k] = hh := ⟨_, rfl⟩
                  rw [hhe] at c0 c1 c2 c3 HSU
                  clear hhe
                  obtain ⟨p', wv, l, c⟩ := hh
                  dsimp only at c0 c1 c2 c3 HSU
                  obtain ⟨old, hold⟩ : ∃ old, hasS p (ps.take k) = old := ⟨_, rfl⟩
                  rw [hold] at HSU ⊢
                  clear hold
                  by_cases e1 : p' = p
                  · subst e1
                    by_cases e2 : wv = 0
                    · subst e2
                      go_wp2_with fail
                      go_roundw
                      case rel => exact ⟨k + 1, by omega, by go_num, by rw [HSU.out]; simp, HKK.out.alloc _⟩
                      case measure => go_light; simp [intOf]; omega
                    · have e3 : ((wv : Int) == 0) = false := by simp; omega
                      have HE := (show Hid (¬ wv = 0) from e2)
                      clear e2
                      go_wp2_with fail
                      go_roundw
                      case rel => exact ⟨k + 1, by omega, by go_num, by rw [HSU.out]; simp [HE.out], HKK.out.alloc _⟩
                      case measure => go_light; simp [intOf]; omega
                  · have e3 : ((p' : Int) == (p : Int)) = false := by simp; omega
                    have HE := (show Hid (¬ p' = p) from e1)
                    clear e1
                    go_wp2_with fail
                    go_roundw
                    case rel => exact ⟨k + 1, by omega, by go_num, by rw [HSU.out]; simp [HE.out], HKK.out.alloc _⟩
                    case measure => go_light; simp [intOf]; omega
                · obtain rfl : k = ps.length := by omega
                  go_wp2_with fail
                  go_meet
                  exact ⟨by rw [List.take_length], HKK.out⟩
            case rest =>
              obtain ⟨rfl, hkx⟩ := hcut
              have HKX := (show Hid (Kept _ _ _) from hkx)
              have HHI := (show Hid (_ = _) from hasS_iff p ps)
              clear hkx
              obtain ⟨bb, hbb⟩ : ∃ bb, hasS p ps = bb := ⟨_, rfl⟩
              rw [hbb] at HHI ⊢
              clear hbb
              cases bb
              · go_wp2_with fail
                go_ret
                refine ⟨false, rfl, ⟨fun h => (by cases h), fun hG => ?_⟩, TB.out.kp.trans HKX.out⟩
                have := hG.1 p hpn
                rw [← HHI.out] at this; cases this
              · go_wp2_with fail
                go_roundw
                case rel =>
                  refine ⟨p + 1, by omega, by go_num, HKX.out, fun x hx => ?_⟩
                  rcases Nat.lt_or_ge x p with h | h
                  · exact HALL.out x h
                  · rw [show x = p by omega]; exact HHI.out.symm
                case measure => go_light; simp [intOf]; omega
          · go_wp2_with fail
            go_meet
            exact ⟨HKP.out, fun x hx => HALL.out x (by omega)⟩
      case rest =>
        obtain ⟨hk4, hst⟩ := hcut
        have HK4 := (show Hid (Kept _ _ _) from hk4)
        have HST := (show Hid (∀ x, _ → _) from hst)
        obtain ⟨w4, rfl⟩ : ∃ x, x = wc := ⟨_, rfl⟩
        have TB4 := (show Hid (Tab _ _ _ _ _ _ _) from TB.out.kept hk4)
        clear hk4 hst TB HK4
        go_upto_block 8 with fail
        go_cut [81] (fun _ wx => (∃ d, wx = w4.drewN d) ∧ ∀ i j, i < ps.length → j < ps.length → BD n ps i j)
        case first =>
          go_wp2_with fail
          go_loopw [81] (fun q wr => ∃ i : Nat, i ≤ ps.length ∧ q = .int .i64 i ∧ (∃ d, wr = w4.drewN d) ∧ ∀ x y, x < i → y < ps.length → BD n ps x y) (fun q _ => ps.length - (intOf q).toNat)
          case atStart => exact ⟨0, by omega, rfl, ⟨0, rfl⟩, fun x y hx => by omega⟩
          case round =>
            obtain ⟨i, hi', rfl, ⟨d, rfl⟩, hall⟩ := hrel
            have HALL := (show Hid (∀ x y, _ → _ → _) from hall)
            clear hall
            by_cases hil : i < ps.length
            · obtain ⟨gp, rfl, hgp, _, _, x2, x3⟩ := (HPS.out.kept TB4.out.kp (fun _ _ => by simp)) i hil
              obtain ⟨_, _, hl1, _, hc1⟩ := HOK.out _ (List.getElem_mem hil)
              have HI := (show Hid (∀ y (hy : y < ps.length), BD n ps i y ↔ ¬ Plain.Bad n (knowB ps ps[i].l) ps[i].c (knowB ps ps[y].l) ps[y].c) from fun y hy => ⟨fun h => h hil hy, fun h _ _ => h⟩)
              obtain ⟨hh1, hhe1⟩ : ∃ hh, ps[i] = hh := ⟨_, rfl⟩
              rw [hhe1] at x2 x3 hl1 hc1 HI
              clear hhe1
              obtain ⟨p1, wv1, l1, y1⟩ := hh1
              dsimp only at x2 x3 hl1 hc1 HI
              have hid : decide ((i : Int) < (ps.length : Int)) = true := by simp; omega
              have hid2 : decide (i < ps.length) = true := by simpa using hil
              go_wp2_with fail
              go_loopw [86] (fun q wr => ∃ j : Nat, j ≤ ps.length ∧ q = .int .i64 j ∧ (∃ d, wr = w4.drewN d) ∧ ∀ y, y < j → BD n ps i y) (fun q _ => ps.length - (intOf q).toNat)
              case atStart => exact ⟨0, by omega, rfl, ⟨_, rfl⟩, fun y hy => by omega⟩
              case round =>
                obtain ⟨j, hj', rfl, ⟨d2, rfl⟩, hal2⟩ := hrel
                have HAL2 := (show Hid (∀ y, _ → _) from hal2)
                clear hal2
                by_cases hjl : j < ps.length
                · obtain ⟨gp', hgpe, _, _, _, x6, x7⟩ := (HPS.out.kept TB4.out.kp (fun _ _ => by simp)) j hjl
                  have hgg : gp' = gp := by simpa using hgpe.symm
                  subst hgg
                  obtain ⟨_, _, hl2, _, hc2⟩ := HOK.out _ (List.getElem_mem hjl)
                  have HIJ := (show Hid (_ ↔ _) from HI.out j hjl)
                  obtain ⟨hh2, hhe2⟩ : ∃ hh, ps[j] = hh := ⟨_, rfl⟩
                  rw [hhe2] at x6 x7 hl2 hc2 HIJ
                  clear hhe2 hgpe
                  obtain ⟨p2, wv2, l2, y2⟩ := hh2
                  dsimp only at x6 x7 hl2 hc2 HIJ
                  go_upto_region 29 with fail
                  go_quiet (fail)
                  go_upto_block 12 with fail
                  obtain ⟨K1, hK1⟩ : ∃ K, knowB ps l1 = K := ⟨_, rfl⟩
                  obtain ⟨K2, hK2⟩ : ∃ K, knowB ps l2 = K := ⟨_, rfl⟩
                  have s1 := TB4.out.sl hl1
                  have s2 := TB4.out.sl hl2
                  have BT := (show Hid (∀ q, q < n → w4.cell? ⟨G l1, q, none⟩ = some (.bool (K1.testBit q)) ∧ w4.cell? ⟨G l2, q, none⟩ = some (.bool (K2.testBit q))) from fun q hq => ⟨by rw [← hK1]; exact (TB4.out.bit hl1 hq).1, by rw [← hK2]; exact (TB4.out.bit hl2 hq).1⟩)
                  rw [hK1, hK2] at HIJ
                  clear hK1 hK2 x2 x3 x6 x7
                  obtain ⟨g1, hg1⟩ : ∃ g, G l1 = g := ⟨_, rfl⟩
                  obtain ⟨g2, hg2⟩ : ∃ g, G l2 = g := ⟨_, rfl⟩
                  rw [hg1] at s1 BT
                  rw [hg2] at s2 BT
                  clear hg1 hg2
                  have b1 : (l1 : Int) < 3 := by omega
                  have b2 : (l2 : Int) < 3 := by omega
                  go_cut [21, 22, 23] (fun a b c wx => a = .int .i64 (Plain.ca n K1 K2 : Nat) ∧ b = .int .i64 (Plain.ca n K2 K1 : Nat) ∧ c = .int .i64 (Plain.cc n K1 K2 : Nat) ∧ ∃ d, wx = w4.drewN d)
                  case first =>
                    go_wp2_with fail
                    go_loopw [21, 22, 23, 24] (fun a b c t wr => ∃ q : Nat, q ≤ n ∧ t = .int .i64 q ∧ a = .int .i64 (Plain.ca q K1 K2 : Nat) ∧ b = .int .i64 (Plain.ca q K2 K1 : Nat) ∧ c = .int .i64 (Plain.cc q K1 K2 : Nat) ∧ ∃ d, wr = w4.drewN d) (fun _ _ _ t _ => n - (intOf t).toNat)
                    case atStart => exact ⟨0, by omega, rfl, rfl, rfl, rfl, ⟨d2 + nq, by simp⟩⟩
                    case round =>
                      obtain ⟨q, hq, rfl, rfl, rfl, rfl, ⟨d3, rfl⟩⟩ := hrel
                      by_cases hqn : q < n
                      · obtain ⟨z1, z2⟩ := BT.out q hqn
                        have A1 := (show Hid (_ = _) from Plain.cnt_succ q (fun x => K1.testBit x && !K2.testBit x))
                        have A2 := (show Hid (_ = _) from Plain.cnt_succ q (fun x => K2.testBit x && !K1.testBit x))
                        have A3 := (show Hid (_ = _) from Plain.cnt_succ q (fun x => K1.testBit x && K2.testBit x))
                        have r1 := Plain.cnt_le q (fun x => K1.testBit x && !K2.testBit x)
                        have r2 := Plain.cnt_le q (fun x => K2.testBit x && !K1.testBit x)
                        have r3 := Plain.cnt_le q (fun x => K1.testBit x && K2.testBit x)
                        obtain ⟨v1, hv1⟩ : ∃ v, K1.testBit q = v := ⟨_, rfl⟩
                        obtain ⟨v2, hv2⟩ : ∃ v, K2.testBit q = v := ⟨_, rfl⟩
                        rw [hv1] at z1
                        rw [hv2] at z2
                        have A1 := (show Hid (Plain.ca (q + 1) K1 K2 = Plain.ca q K1 K2 + if (v1 && !v2) = true then 1 else 0) from (show Plain.ca (q + 1) K1 K2 = Plain.ca q K1 K2 + if (v1 && !v2) = true then 1 else 0 by rw [← hv1, ← hv2]; exact A1.out))
                        have A2 := (show Hid (Plain.ca (q + 1) K2 K1 = Plain.ca q K2 K1 + if (v2 && !v1) = true then 1 else 0) from (show Plain.ca (q + 1) K2 K1 = Plain.ca q K2 K1 + if (v2 && !v1) = true then 1 else 0 by rw [← hv1, ← hv2]; exact A2.out))
                        have A3 := (show Hid (Plain.cc (q + 1) K1 K2 = Plain.cc q K1 K2 + if (v1 && v2) = true then 1 else 0) from (show Plain.cc (q + 1) K1 K2 = Plain.cc q K1 K2 + if (v1 && v2) = true then 1 else 0 by rw [← hv1, ← hv2]; exact A3.out))
                        clear hv1 hv2
                        change Plain.ca q K1 K2 ≤ q at r1
                        change Plain.ca q K2 K1 ≤ q at r2
                        change Plain.cc q K1 K2 ≤ q at r3
                        obtain ⟨a0, ha0⟩ : ∃ a, Plain.ca q K1 K2 = a := ⟨_, rfl⟩
                        obtain ⟨b0, hb0⟩ : ∃ a, Plain.ca q K2 K1 = a := ⟨_, rfl⟩
                        obtain ⟨c0, hc0⟩ : ∃ a, Plain.cc q K1 K2 = a := ⟨_, rfl⟩
                        rw [ha0] at r1 A1 ⊢
                        rw [hb0] at r2 A2 ⊢
                        rw [hc0] at r3 A3 ⊢
                        clear ha0 hb0 hc0
                        have b3 : (q : Int) < (n : Int) := by omega
                        cases v1 <;> cases v2
                        all_goals
                          go_upto_region 34 with fail
                          go_quiet (fail)
                          go_wp2_with fail
                          go_roundw
                          case rel => exact ⟨q + 1, by omega, by go_num, by rw [A1.out]; simp, by rw [A2.out]; simp, by rw [A3.out]; simp, ⟨_, rfl⟩⟩
                          case measure => go_light; simp [intOf]; omega
                      · obtain rfl : q = n := by omega
                        go_wp2_with fail
                        go_meet
                        exact ⟨rfl, rfl, rfl, ⟨_, rfl⟩⟩
                  case rest =>
                    obtain ⟨rfl, rfl, rfl, ⟨d4, rfl⟩⟩ := hcut
                    have a1 := Plain.cnt_le n (fun x => K1.testBit x && !K2.testBit x)
                    have a2 := Plain.cnt_le n (fun x => K2.testBit x && !K1.testBit x)
                    have a3 := Plain.cnt_le n (fun x => K1.testBit x && K2.testBit x)
                    change Plain.ca n K1 K2 ≤ n at a1
                    change Plain.ca n K2 K1 ≤ n at a2
                    change Plain.cc n K1 K2 ≤ n at a3
                    unfold Plain.Bad at HIJ
                    obtain ⟨a0, ha0⟩ : ∃ a, Plain.ca n K1 K2 = a := ⟨_, rfl⟩
                    obtain ⟨b0, hb0⟩ : ∃ a, Plain.ca n K2 K1 = a := ⟨_, rfl⟩
                    obtain ⟨c0, hc0⟩ : ∃ a, Plain.cc n K1 K2 = a := ⟨_, rfl⟩
                    rw [ha0] at a1 HIJ ⊢
                    rw [hb0] at a2 HIJ ⊢
                    rw [hc0] at a3 HIJ ⊢
                    clear ha0 hb0 hc0
                    obtain ⟨m1, hm1⟩ : ∃ m, y1 - a0 = m := ⟨_, rfl⟩
                    obtain ⟨m2, hm2⟩ : ∃ m, y2 - b0 = m := ⟨_, rfl⟩
                    rw [hm1, hm2] at HIJ
                    have HM1 := (show Hid (_ = _) from hm1)
                    have HM2 := (show Hid (_ = _) from hm2)
                    have e1 : m1 ≤ 100 := by omega
                    have e2 : m2 ≤ 100 := by omega
                    clear hm1 hm2
                    have TK1 : True := trivial
                    have TK2 : True := trivial
                    by_cases k1 : y1 ≤ a0 + c0
                    · by_cases k2 : y2 ≤ b0 + c0
                      · by_cases k3 : m1 + m2 ≤ c0
                        · have t1 : decide ((y1 : Int) ≤ (a0 : Int) + (c0 : Int)) = true := by simp; omega
                          have t2 : decide ((y2 : Int) ≤ (b0 : Int) + (c0 : Int)) = true := by simp; omega
                          have t3 : decide ((m1 : Int) + (m2 : Int) ≤ (c0 : Int)) = true := by simp; omega
                          have NB := (show Hid (¬ BD n ps i j) from fun h => HIJ.out.1 h ⟨k1, k2, k3⟩)
                          go_wp2_with (first
                            | (go_at_call 23; have _t := TK1; refine Calls.mono (max0_nat y1 a0 m1 HM1.out _) ?_; rintro e w' ⟨rfl, rfl⟩; clear _t TK1)
                            | (go_at_call 23; have _t := TK2; refine Calls.mono (max0_nat y2 b0 m2 HM2.out _) ?_; rintro e w' ⟨rfl, rfl⟩; clear _t TK2))
                          go_ret
                          refine ⟨false, rfl, ⟨fun h => (by cases h), fun hG => ?_⟩, TB4.out.kp.drewN _⟩
                          exact absurd (fun hi hj => hG.2.1 _ (List.getElem_mem hi) _ (List.getElem_mem hj)) NB.out
                        · have t1 : decide ((y1 : Int) ≤ (a0 : Int) + (c0 : Int)) = true := by simp; omega
                          have t2 : decide ((y2 : Int) ≤ (b0 : Int) + (c0 : Int)) = true := by simp; omega
                          have t3 : decide ((m1 : Int) + (m2 : Int) ≤ (c0 : Int)) = false := by simp; omega
                          have GB := (show Hid (BD n ps i j) from HIJ.out.2 (fun h => k3 h.2.2))
                          go_wp2_with (first
                            | (go_at_call 23; have _t := TK1; refine Calls.mono (max0_nat y1 a0 m1 HM1.out _) ?_; rintro e w' ⟨rfl, rfl⟩; clear _t TK1)
                            | (go_at_call 23; have _t := TK2; refine Calls.mono (max0_nat y2 b0 m2 HM2.out _) ?_; rintro e w' ⟨rfl, rfl⟩; clear _t TK2))
                          go_roundw
                          case rel =>
                            refine ⟨j + 1, by omega, by go_num, ⟨_, rfl⟩, fun y hy => ?_⟩
                            rcases Nat.lt_or_ge y j with h | h
                            · exact HAL2.out y h
                            · rw [show y = j by omega]; exact GB.out
                          case measure => go_light; simp [intOf]; omega
                      · have t1 : decide ((y1 : Int) ≤ (a0 : Int) + (c0 : Int)) = true := by simp; omega
                        have t2 : decide ((y2 : Int) ≤ (b0 : Int) + (c0 : Int)) = false := by simp; omega
                        have GB := (show Hid (BD n ps i j) from HIJ.out.2 (fun h => k2 h.2.1))
                        go_wp2_with fail
                        go_roundw
                        case rel =>
                          refine ⟨j + 1, by omega, by go_num, ⟨_, rfl⟩, fun y hy => ?_⟩
                          rcases Nat.lt_or_ge y j with h | h
                          · exact HAL2.out y h
                          · rw [show y = j by omega]; exact GB.out
                        case measure => go_light; simp [intOf]; omega
                    · have t1 : decide ((y1 : Int) ≤ (a0 : Int) + (c0 : Int)) = false := by simp; omega
                      have GB := (show Hid (BD n ps i j) from HIJ.out.2 (fun h => k1 h.1))
                      go_wp2_with fail
                      go_roundw
                      case rel =>
                        refine ⟨j + 1, by omega, by go_num, ⟨_, rfl⟩, fun y hy => ?_⟩
                        rcases Nat.lt_or_ge y j with h | h
                        · exact HAL2.out y h
                        · rw [show y = j by omega]; exact GB.out
                      case measure => go_light; simp [intOf]; omega
                · go_wp2_with fail
                  go_roundw
                  case rel =>
                    refine ⟨i + 1, by omega, by go_num, ⟨_, rfl⟩, fun x y hx hy => ?_⟩
                    rcases Nat.lt_or_ge x i with h | h
                    · exact HALL.out x y h hy
                    · rw [show x = i by omega]; exact HAL2.out y (by omega)
                  case measure => go_light; simp [intOf]; omega
            · go_wp2_with fail
              go_meet
              exact ⟨⟨_, rfl⟩, fun x y hx hy => HALL.out x y (by omega) hy⟩
        case rest =>
          obtain ⟨⟨d5, rfl⟩, hbd⟩ := hcut
          have G2 := (show Hid (∀ a ∈ ps, ∀ b ∈ ps, ¬ Plain.Bad n (knowB ps a.l) a.c (knowB ps b.l) b.c) from all_BD hbd)
          have T5 := (show Hid (Tab _ _ _ _ _ _ _) from TB4.out.kept ((Kept.refl (fun _ => False) w4).drewN d5))
          obtain ⟨w5, hw5⟩ : ∃ x, w4.drewN d5 = x := ⟨_, rfl⟩
          rw [hw5] at T5 ⊢
          clear hw5 hbd TB4
          go_upto_block 14 with fail
          obtain ⟨bQ, hbQ⟩ : ∃ b, w5.heap.size = b := ⟨_, rfl⟩
          obtain ⟨w6, hw6⟩ : ∃ x, w5.alloc (.cells #[.int .i64 0, .int .i64 0, .int .i64 0] 77) = x := ⟨_, rfl⟩
          have RQ := (show Hid (rowIs w6 bQ 77 (row3 (fun _ => 0))) from (show rowIs w6 bQ 77 (row3 (fun _ => 0)) by rw [← hw6, ← hbQ]; exact rowIs_new _ _ _))
          have T6 := (show Hid (Tab bT n 3 G (fun l => knowB ps l) w w6) from (show Tab bT n 3 G (fun l => knowB ps l) w w6 by rw [← hw6]; exact T5.out.kept ((Kept.refl _ _).alloc _)))
          have NQ := (show Hid (∀ l, l < 3 → G l ≠ bQ) from fun l hl => by have := (T5.out.bits l hl).lt; omega)
          have nQT : bT ≠ bQ := by have := T5.out.row.lt; omega
          have wQ : w.heap.size ≤ bQ := by rw [← hbQ]; exact T5.out.kp.size
          rw [hw6, hbQ]
          clear hw6 hbQ T5
          go_cut [28] (fun _ wx => ∃ h, rowIs wx bQ 77 (row3 h) ∧ (∀ x, x < 3 → h x = NN n cr ps x) ∧ Kept (fun j => j = bQ) w6 wx)
          case first =>
            go_wp2_with fail
            go_loopw [28] (fun t wr => ∃ (l : Nat) (h : Nat → Nat), l ≤ 3 ∧ t = .int .i64 l ∧ rowIs wr bQ 77 (row3 h) ∧ (∀ x, x < l → h x = NN n cr ps x) ∧ (∀ x, l ≤ x → h x = 0) ∧ Kept (fun j => j = bQ) w6 wr) (fun t _ => 3 - (intOf t).toNat)
            case atStart => exact ⟨0, _, by omega, rfl, RQ.out, fun x hx => by omega, fun _ _ => rfl, Kept.refl _ _⟩
            case round =>
              clear RQ
              obtain ⟨l, h, hl, rfl, hr, h0, h1', hkl⟩ := hrel
              have HR := (show Hid (rowIs _ _ _ _) from hr)
              have H0 := (show Hid (∀ x, _ → _) from h0)
              have H1 := (show Hid (∀ x, _ → _) from h1')
              have HKL := (show Hid (Kept _ _ _) from hkl)
              clear hr h0 h1' hkl
              by_cases hl3 : l < 3
              · have hld : (l : Int) < 3 := by omega
                have hldd : decide ((l : Int) < 3) = true := by simp; omega
                obtain ⟨K, hK⟩ : ∃ K, knowB ps l = K := ⟨_, rfl⟩
                have HKK := (show Hid (_ = _) from hK)
                go_wp2_with fail
                try rw [hldd]
                go_loopw [29] (fun t wr => ∃ (q : Nat) (h' : Nat → Nat), q ≤ n ∧ t = .int .i64 q ∧ rowIs wr bQ 77 (row3 h') ∧ (∀ x, x ≠ l → h' x = h x) ∧ h' l = Plain.cnt q (fun x => K.testBit x && !cr x) ∧ Kept (fun j => j = bQ) w6 wr) (fun t _ => n - (intOf t).toNat)
                case atStart => exact ⟨0, h, by omega, rfl, HR.out, fun _ _ => rfl, H1.out l (Nat.le_refl _), HKL.out⟩
                case round =>
                  obtain ⟨q, h', hq, rfl, hr', hx', hl', hkq⟩ := hrel
                  have HR' := (show Hid (rowIs _ _ _ _) from hr')
                  have HX' := (show Hid (∀ x, _ → _) from hx')
                  have HL' := (show Hid (_ = _) from hl')
                  have HKQ := (show Hid (Kept _ _ _) from hkq)
                  clear hx' hl'
                  by_cases hqn : q < n
                  · have s1 : wr.cell? ⟨bT, l, none⟩ = some (.slice (some ⟨G l, 0, none⟩) n n) := (hkq.cell (p := ⟨bT, l, none⟩) T6.out.row.lt (show ¬ bT = bQ from nQT)).trans (T6.out.sl hl3)
                    have s2 : wr.cell? ⟨G l, q, none⟩ = some (.bool (K.testBit q)) := (hkq.cell (p := ⟨G l, q, none⟩) (T6.out.bits l hl3).lt (show ¬ G l = bQ from NQ.out l hl3)).trans (by rw [← HKK.out]; exact (T6.out.bit hl3 hqn).1)
                    have s3 : wr.cell? ⟨bD, q, none⟩ = some (.bool (cr q)) := (hkq.cell (p := ⟨bD, q, none⟩) (Nat.lt_of_lt_of_le lD T6.out.kp.size) (show ¬ bD = bQ by omega)).trans ((T6.out.kp.cell (p := ⟨bD, q, none⟩) lD (by simp)).trans (by rw [HCR.out.cell]; simp [hqn]))
                    have s4 : wr.cell? ⟨bQ, l, none⟩ = some (.int .i64 (h' l : Int)) := by rw [hr'.cell]; exact row3_at h' hl3
                    have f4 := hr'.free l
                    have CS := (show Hid (_ = _) from Plain.cnt_succ q (fun x => K.testBit x && !cr x))
                    have r1 : h' l ≤ q := by rw [HL'.out]; exact Plain.cnt_le q _
                    clear hr' hkq
                    obtain ⟨v1, hv1⟩ : ∃ v, K.testBit q = v := ⟨_, rfl⟩
                    obtain ⟨v2, hv2⟩ : ∃ v, cr q = v := ⟨_, rfl⟩
                    rw [hv1] at s2
                    rw [hv2] at s3
                    have CS2 := (show Hid (Plain.cnt (q + 1) (fun x => K.testBit x && !cr x) = h' l + if (v1 && !v2) = true then 1 else 0) from (show Plain.cnt (q + 1) (fun x => K.testBit x && !cr x) = h' l + if (v1 && !v2) = true then 1 else 0 by rw [HL'.out, ← hv1, ← hv2]; exact CS.out))
                    clear hv1 hv2 CS
                    obtain ⟨c0, hc0⟩ : ∃ a, h' l = a := ⟨_, rfl⟩
                    have HC0 := (show Hid (_ = _) from hc0)
                    rw [hc0] at s4 r1 CS2
                    clear hc0
                    cases v1
                    · go_wp2_with fail
                      go_roundw
                      case rel => exact ⟨q + 1, h', by omega, by go_num, HR'.out, HX'.out, by rw [CS2.out, HC0.out]; simp, HKQ.out⟩
                      case measure => go_light; simp [intOf]; omega
                    · cases v2
                      · go_wp2_with fail
                        go_roundw
                        case rel =>
                          refine ⟨q + 1, upd3 h' l (c0 + 1), by omega, by go_num, ?_, fun x hx => ?_, by rw [CS2.out]; simp [upd3], HKQ.out.setCell (p := ⟨bQ, l, none⟩) (fun _ => rfl) _⟩
                          · rw [← row3_set h' hl3]; exact HR'.out.set l _
                          · simp [upd3, hx]; exact HX'.out x hx
                        case measure => go_light; simp [intOf]; omega
                      · go_wp2_with fail
                        go_roundw
                        case rel => exact ⟨q + 1, h', by omega, by go_num, HR'.out, HX'.out, by rw [CS2.out, HC0.out]; simp, HKQ.out⟩
                        case measure => go_light; simp [intOf]; omega
                  · obtain rfl : q = n := by omega
                    clear hr' hkq
                    go_wp2_with fail
                    go_roundw
                    case rel =>
                      refine ⟨l + 1, h', by omega, by go_num, HR'.out, fun x hx => ?_, fun x hx => ?_, HKQ.out⟩
                      · by_cases e : x = l
                        · rw [e, HL'.out, ← HKK.out]; rfl
                        · rw [HX'.out x e]; exact H0.out x (by omega)
                      · rw [HX'.out x (by omega)]; exact H1.out x (by omega)
                    case measure => go_light; simp [intOf]; omega
              · obtain rfl : l = 3 := by omega
                go_wp2_with fail
                go_meet
                exact ⟨h, HR.out, H0.out, HKL.out⟩
          case rest =>
            obtain ⟨w7, rfl⟩ : ∃ x, x = wc := ⟨_, rfl⟩
            obtain ⟨h, hr, hh, hk7⟩ := hcut
            have HR7 := (show Hid (rowIs _ _ _ _) from hr)
            have HH := (show Hid (∀ x, _ → _) from hh)
            have KW7 := (show Hid (Kept (fun _ => False) w w7) from T6.out.kp.then hk7 (fun j hj e => by omega))
            clear hr hh hk7 RQ T6 NQ
            go_wp2_with fail
            go_loopw [30] (fun t wr => ∃ p : Nat, p ≤ n ∧ t = .int .i64 p ∧ Kept (fun _ => False) w7 wr ∧ ∀ x, x < p → cr x = false → hasL n cr ps x ps = true) (fun t _ => n - (intOf t).toNat)
            case atStart => exact ⟨0, by omega, rfl, Kept.refl _ _, fun x hx => by omega⟩
            case round =>
              obtain ⟨p, hp, rfl, hkp, hall⟩ := hrel
              have HKP := (show Hid (Kept _ _ _) from hkp)
              have HALL := (show Hid (∀ x, _ → _ → _) from hall)
              clear hkp hall
              by_cases hpn : p < n
              · have s3 : wr.cell? ⟨bD, p, none⟩ = some (.bool (cr p)) := (HKP.out.cell (p := ⟨bD, p, none⟩) (Nat.lt_of_lt_of_le lD KW7.out.size) (by simp)).trans ((KW7.out.cell (p := ⟨bD, p, none⟩) lD (by simp)).trans (by rw [HCR.out.cell]; simp [hpn]))
                have hpd : decide ((p : Int) < (n : Int)) = true := by simp; omega
                have hpd2 : decide (p < n) = true := by simpa using hpn
                obtain ⟨v2, hv2⟩ : ∃ v, cr p = v := ⟨_, rfl⟩
                rw [hv2] at s3
                have HV := (show Hid (_ = _) from hv2)
                clear hv2
                cases v2
                · go_upto_block 20 with fail
                  go_cut [31] (fun v wx => v = .bool (hasL n cr ps p ps) ∧ Kept (fun _ => False) w7 wx)
                  case first =>
                    go_wp2_with fail
                    go_loopw [31, 203] (fun v q wr => ∃ k : Nat, k ≤ ps.length ∧ q = .int .i64 k ∧ v = .bool (hasL n cr ps p (ps.take k)) ∧ Kept (fun _ => False) w7 wr) (fun _ q _ => ps.length - (intOf q).toNat)
                    case atStart => exact ⟨0, by omega, rfl, rfl, HKP.out⟩
                    case round =>
                      obtain ⟨k, hk, rfl, rfl, hkk⟩ := hrel
                      have HKK := (show Hid (Kept _ _ _) from hkk)
                      clear hkk
                      by_cases hlt : k < ps.length
                      · obtain ⟨gp, rfl, hgp, c0, c1, c2, c3⟩ := (HPS.out.kept (KW7.out.trans HKK.out) (fun _ _ => by simp)) k hlt
                        obtain ⟨_, _, hl3, _, hc3⟩ := HOK.out _ (List.getElem_mem hlt)
                        have HSU := (show Hid (_ = _) from hasL_succ n cr ps p ps k hlt)
                        obtain ⟨hh, hhe⟩ : ∃ hh, ps[k] = hh := ⟨_, rfl⟩
                        rw [hhe] at c0 c1 c2 c3 HSU hl3 hc3
                        clear hhe
                        obtain ⟨p', wv, l, c⟩ := hh
                        dsimp only at c0 c1 c2 c3 HSU hl3 hc3
                        obtain ⟨old, hold⟩ : ∃ old, hasL n cr ps p (ps.take k) = old := ⟨_, rfl⟩
                        rw [hold] at HSU ⊢
                        clear hold
                        obtain ⟨M, hM⟩ : ∃ M, NN n cr ps l = M := ⟨_, rfl⟩
                        rw [hM] at HSU
                        have r7 := HKK.out.row HR7.out (by simp)
                        have s4 : wr.cell? ⟨bQ, l, none⟩ = some (.int .i64 (M : Int)) := by rw [r7.cell, row3_at h hl3, HH.out l hl3, hM]
                        have l7 := r7.lt
                        clear hM r7
                        have hl3i : (l : Int) < 3 := by omega
                        by_cases e1 : p' = p
                        · subst e1
                          by_cases e2 : c ≤ M
                          · have e3 : decide ((c : Int) ≤ (M : Int)) = true := by simp; omega
                            have e4 : decide (c ≤ M) = true := by simpa using e2
                            have HE := (show Hid (c ≤ M) from e2)
                            clear e2
                            go_upto_region 62 with fail
                            go_quiet (fail)
                            go_wp2_with fail
                            go_roundw
                            case rel => exact ⟨k + 1, by omega, by go_num, by rw [HSU.out]; simp [HE.out], (HKK.out.alloc _).drewN _⟩
                            case measure => go_light; simp [intOf]; omega
                          · have e3 : decide ((c : Int) ≤ (M : Int)) = false := by simp; omega
                            have e4 : decide (c ≤ M) = false := by simpa using e2
                            have HE := (show Hid (¬ c ≤ M) from e2)
                            clear e2
                            go_upto_region 62 with fail
                            go_quiet (fail)
                            go_wp2_with fail
                            go_roundw
                            case rel => exact ⟨k + 1, by omega, by go_num, by rw [HSU.out]; simp [HE.out], (HKK.out.alloc _).drewN _⟩
                            case measure => go_light; simp [intOf]; omega
                        · have e3 : ((p' : Int) == (p : Int)) = false := by simp; omega
                          have HE := (show Hid (¬ p' = p) from e1)
                          clear e1
                          go_upto_region 62 with fail
                          go_quiet (fail)
                          go_wp2_with fail
                          go_roundw
                          case rel => exact ⟨k + 1, by omega, by go_num, by rw [HSU.out]; simp [HE.out], (HKK.out.alloc _).drewN _⟩
                          case measure => go_light; simp [intOf]; omega
                      · obtain rfl : k = ps.length := by omega
                        go_wp2_with fail
                        go_meet
                        exact ⟨by rw [List.take_length], HKK.out⟩
                  case rest =>
                    obtain ⟨rfl, hkx⟩ := hcut
                    have HKX := (show Hid (Kept _ _ _) from hkx)
                    clear hkx
                    obtain ⟨bb, hbb⟩ : ∃ bb, hasL n cr ps p ps = bb := ⟨_, rfl⟩
                    have HBB := (show Hid (_ = _) from hbb)
                    rw [hbb]
                    clear hbb
                    cases bb
                    · go_wp2_with fail
                      go_ret
                      refine ⟨false, rfl, ⟨fun h => (by cases h), fun hG => ?_⟩, KW7.out.trans HKX.out⟩
                      have := (hasL_iff n cr ps p).2 (hG.2.2 p hpn HV.out)
                      rw [HBB.out] at this; cases this
                    · go_wp2_with fail
                      go_roundw
                      case rel =>
                        refine ⟨p + 1, by omega, by go_num, HKX.out, fun x hx hcx => ?_⟩
                        rcases Nat.lt_or_ge x p with hxp | hxp
                        · exact HALL.out x hxp hcx
                        · rw [show x = p by omega]; exact HBB.out
                      case measure => go_light; simp [intOf]; omega
                · go_wp2_with fail
                  go_roundw
                  case rel =>
                    refine ⟨p + 1, by omega, by go_num, HKP.out, fun x hx hcx => ?_⟩
                    rcases Nat.lt_or_ge x p with hxp | hxp
                    · exact HALL.out x hxp hcx
                    · rw [show x = p by omega, HV.out] at hcx; cases hcx
                  case measure => go_light; simp [intOf]; omega
              · go_wp2_with fail
                go_ret
                exact ⟨true, rfl, ⟨fun _ => ⟨HST.out, G2.out, fun x hx hcx => (hasL_iff n cr ps x).1 (HALL.out x (by omega) hcx)⟩, fun _ => rfl⟩, KW7.out.trans HKP.out⟩
end Go.Proofs.YbulkajboFmt
