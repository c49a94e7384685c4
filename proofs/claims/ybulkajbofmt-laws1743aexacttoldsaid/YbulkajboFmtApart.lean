/- The walk of apart's closure (choose) and of apart. -/
import Derived.Test.YbulkajboFmtSet
import Derived.Maps.AppendAt
namespace Go.Proofs.YbulkajboFmt
open Go.RowKit
open Plain (pass chooseP pstep)
set_option linter.unusedVariables false
attribute [local go_sem ↓] Go.wp_at_zero Go.wp_at_succ

theorem Ybaf.info3 : (Ybaf.prog.info? 3).map (fun i => (i.zero, i.size, i.bytes)) = some (some (.int .i64 0), 1, 8) := by kernel_rfl

/-- The slice v holds the processes of L. -/
def listIs (w : World) (B : Nat) (v : Value) (L : List Nat) : Prop := w.ownsRow B 3 1 v L.length (L.map (fun (x : Nat) => Value.int .i64 (x : Int))) ∧ ∀ x ∈ L, x < 9

theorem pstep_lt {k o y : Nat} {lack : Bool} {s : Nat × Nat} {p : Nat} (hs : s.2 < 512) (hp : p < 9) : (pstep k o y lack s p).2 < 512 := by
  unfold pstep
  split
  · exact or_lt p hs hp
  · exact hs
theorem pass_lt {k o y : Nat} {lack : Bool} {s : Nat × Nat} (n : Nat) (hn : n ≤ 9) (hs : s.2 < 512) : (pass n k o y lack s).2 < 512 := by
  induction n with
  | zero => exact hs
  | succ n ih => rw [Plain.pass_succ]; exact pstep_lt (ih (by omega)) (by omega)
theorem pass_stop {k o y : Nat} {lack : Bool} {s : Nat × Nat} (p d : Nat) (h : ¬ (pass p k o y lack s).1 < y) : pass (p + d) k o y lack s = pass p k o y lack s := by
  induction d with
  | zero => rfl
  | succ d ih => rw [← Nat.add_assoc, Plain.pass_succ, ih, pstep, if_neg (fun hc => h hc.1)]

theorem own_slice {w : World} {B : Nat} {e : TypeId} {size : Nat} {v : Value} {n : Nat} {xs : List Value} (h : w.ownsRow B e size v n xs) : ∃ al cap, v = .slice al n cap := by
  rcases h.2 with ⟨h2, h3⟩ | ⟨g, cap, cur, h2, _⟩
  · exact ⟨none, 0, by rw [h2, h3]⟩
  · exact ⟨_, cap, h2⟩
theorem set_has_b (b cap i R : Nat) (bb : Bool) (hi : i < 9) (hR : R < 512) (w : World) (hS : setIs w b R) (hb : R.testBit i = bb) : Calls Ybaf.prog 13 #[.slice (some ⟨b, 0, none⟩) 1 cap, .int .i64 i] w fun e w' =>
    e = .returned (.bool bb) ∧ ∃ q, w' = w.drewN q := by
  rw [← hb]; exact set_has b cap i R hi hR w hS

theorem ownsRow_kept {w w' : World} {S : Nat → Prop} {B : Nat} {e : TypeId} {size : Nat} {v : Value} {n : Nat} {xs : List Value} (h : w.ownsRow B e size v n xs) (k : Kept S w w') (hS : ∀ j, S j → j < B) : w'.ownsRow B e size v n xs := by
  refine ⟨h.1, ?_⟩
  rcases h.2 with h | ⟨g, cap, cur, h1, h2, h3, h4⟩
  · exact .inl h
  · exact .inr ⟨g, cap, cur, h1, h2, (k.block g (lt_of_block h3) (fun hs => by have := hS g hs; omega)).trans h3, h4⟩

theorem add_done {w wr w5 w6 : World} {bT B p nq T' : Nat} {v v' : Value} {L : List Nat} {xs : List Value} {o : Obj} (hb : bT < w.heap.size) (hB : B = w.heap.size + 1) (HL : listIs wr B v L) (HP : Kept (fun j => j = bT) w wr) (HB : rowIs wr w.heap.size 4 xs)
    (HS5 : setIs w5 bT T') (HK5 : Kept (fun j => j = bT) (wr.drewN nq) w5) (HO6 : w6.ownsRow B 3 1 v' (L.length + 1) (L.map (fun (x : Nat) => Value.int .i64 (x : Int)) ++ [.int .i64 p])) (HG6 : (w5.alloc o).grownBy w6 v.ownBlock) (hp : p < 9) :
    listIs w6 B v' (L ++ [p]) ∧ setIs w6 bT T' ∧ Kept (fun j => j = bT) w w6 ∧ rowIs w6 w.heap.size 4 xs := by
  have k1 : Kept (fun j => j = bT) wr w5 := Kept.trans ((Kept.refl (fun j => j = bT) wr).drewN nq) HK5
  have k2 : Kept (fun j => v.ownBlock = some j) w5 w6 := ((Kept.refl (fun j => v.ownBlock = some j) w5).alloc o).grown HG6 (fun k e _ => e)
  have hlo : ∀ j, j < B → ¬ v.ownBlock = some j := fun j hj e => own_lo HL.1 hj e.symm
  refine ⟨⟨?_, ?_⟩, k2.set HS5 (hlo _ (by omega)), (HP.trans k1).then k2 (fun j hj e => absurd e (hlo j (by omega))), k2.row (k1.row HB (by omega)) (hlo _ (by omega))⟩
  · simpa using HO6
  · intro x hx
    rcases List.mem_append.1 hx with h | h
    · exact HL.2 x h
    · rw [List.mem_singleton.1 h]; exact hp

/-- Where 'choose' stands ahead of its pass k. -/
def st (n k o y T : Nat) : Nat → Nat × Nat
  | 0 => (0, T)
  | 1 => pass n k o y true (0, T)
  | _ => chooseP n k o y T

set_option maxRecDepth 100000 in
set_option maxHeartbeats 4000000 in
theorem choose_any (n K O y T bs bS bt bT bk bo ck co : Nat) (h1 : 1 ≤ n) (h9 : n ≤ 9) (hK : K < 512) (hO : O < 512) (hT : T < 512) (hy : y ≤ 100) (w : World)
    (cs : w.cell? ⟨bs, 0, none⟩ = some (.pointer (some ⟨bS, 0, none⟩))) (cn : w.cell? ⟨bS, 0, none⟩ = some (.int .i64 n)) (ct : w.cell? ⟨bt, 0, none⟩ = some (.slice (some ⟨bT, 0, none⟩) 1 1))
    (hsT : setIs w bT T) (hsK : setIs w bk K) (hsO : setIs w bo O) (n1 : bs ≠ bT) (n2 : bS ≠ bT) (n3 : bt ≠ bT) (n4 : bk ≠ bT) (n5 : bo ≠ bT) :
    Calls Ybaf.prog 32 #[.slice (some ⟨bk, 0, none⟩) 1 ck, .slice (some ⟨bo, 0, none⟩) 1 co, .int .i64 y, .pointer (some ⟨bs, 0, none⟩), .pointer (some ⟨bt, 0, none⟩)] w fun e w' =>
      ∃ v L, e = .returned v ∧ listIs w' w.heap.size v L ∧ L.length = (chooseP n K O y T).1 ∧ setIs w' bT (chooseP n K O y T).2 ∧ Kept (fun k => k = bT) w w' := by
  obtain ⟨i0, hi, hz0, hz1, hz2⟩ := info_parts Ybaf.info3
  have hu65 := Ybaf.underlying65
  have HT := (show Hid (setIs _ _ _) from hsT)
  have HK := (show Hid (setIs _ _ _) from hsK)
  have HO := (show Hid (setIs _ _ _) from hsO)
  have C0 := (show Hid (w.cell? ⟨bs, 0, none⟩ = _ ∧ w.cell? ⟨bS, 0, none⟩ = _ ∧ w.cell? ⟨bt, 0, none⟩ = _) from ⟨cs, cn, ct⟩)
  have lt1 : bs < w.heap.size := World.block_lt_of_cell? w _ cs
  have lt2 : bS < w.heap.size := World.block_lt_of_cell? w _ cn
  have lt3 : bt < w.heap.size := World.block_lt_of_cell? w _ ct
  have lt4 := hsT.lt
  have lt5 := hsK.lt
  have lt6 := hsO.lt
  clear hsT hsK hsO cs cn ct
  go_enter Ybaf.func32, Ybaf.ntmps32
  go_wp2_with fail
  go_loopw [9, 15] (fun v q wr => ∃ (k : Nat) (L : List Nat), k ≤ 2 ∧ q = .int .i64 k ∧ listIs wr (w.heap.size + 1) v L ∧ L.length = (st n K O y T k).1 ∧ setIs wr bT (st n K O y T k).2 ∧ Kept (fun j => j = bT) w wr ∧ rowIs wr w.heap.size 4 [.bool true, .bool false]) (fun _ q _ => 2 - (intOf q).toNat)
  case atStart =>
    refine ⟨0, [], by omega, rfl, ⟨⟨rfl, .inl ⟨rfl, rfl⟩⟩, by simp⟩, rfl, ?_, (Kept.refl _ _).alloc _, rowIs_new _ _ _⟩
    exact ((Kept.refl (fun _ => False) w).alloc _).set HT.out (by simp)
  case round =>
    obtain ⟨k, L, hk, rfl, hL, hLn, hsT, hkp, hbl⟩ := hrel
    obtain ⟨al, cap, rfl⟩ := own_slice hL.1
    have HL := (show Hid (listIs _ _ _ _) from hL)
    have HS := (show Hid (setIs _ _ _) from hsT)
    have HP := (show Hid (Kept _ _ _) from hkp)
    have HB := (show Hid (rowIs _ _ _ _) from hbl)
    by_cases hk2 : k < 2
    · obtain ⟨lk, hlk, hst⟩ : ∃ lk : Bool, wr.cell? ⟨w.heap.size, k, none⟩ = some (.bool lk) ∧ st n K O y T (k + 1) = pass n K O y lk (st n K O y T k) := by
        rcases (show k = 0 ∨ k = 1 by omega) with rfl | rfl
        · exact ⟨true, by rw [hbl.cell]; rfl, rfl⟩
        · exact ⟨false, by rw [hbl.cell]; rfl, rfl⟩
      have hst2 : (st n K O y T k).2 < 512 := by
        rcases (show k = 0 ∨ k = 1 by omega) with rfl | rfl
        · exact hT
        · exact pass_lt n h9 hT
      have HST := (show Hid (_ = _) from hst)
      have HLN := (show Hid (_ = _) from hLn)
      clear hL hsT hkp hbl hst hLn
      obtain ⟨s, hs⟩ : ∃ s, s = st n K O y T k := ⟨_, rfl⟩
      rw [← hs] at HST HLN HS hst2
      clear hs
      go_wp2_with fail
      clear hlk
      have hd : decide ((k : Int) < 2) = true := by simp; omega
      rw [hd]
      go_loopw [9, 12] (fun v q wc => ∃ (p : Nat) (L' : List Nat), p ≤ n ∧ q = .int .i64 p ∧ listIs wc (w.heap.size + 1) v L' ∧ L'.length = (pass p K O y lk s).1 ∧ setIs wc bT (pass p K O y lk s).2 ∧ Kept (fun j => j = bT) w wc ∧ rowIs wc w.heap.size 4 [.bool true, .bool false]) (fun _ q _ => n - (intOf q).toNat)
      case atStart => exact ⟨0, L, by omega, rfl, HL.out, HLN.out, HS.out, HP.out, HB.out⟩
      case round =>
        clear HL HLN HS HP HB
        obtain ⟨p, L', hp, rfl, hL, hLn, hsT, hkp, hbl⟩ := hrel
        obtain ⟨al', cap', rfl⟩ := own_slice hL.1
        have hTc : (pass p K O y lk s).2 < 512 := pass_lt p (by omega) hst2
        have HPS := (show Hid (_ = _) from Plain.pass_succ p K O y lk s)
        have HPE := (show Hid (∀ d, ¬ (pass p K O y lk s).1 < y → pass (p + d) K O y lk s = pass p K O y lk s) from fun d => pass_stop p d)
        obtain ⟨t, ht⟩ : ∃ t, t = pass p K O y lk s := ⟨_, rfl⟩
        rw [← ht] at hLn hsT hTc HPS HPE
        have HPQ := (show Hid (_ = _) from ht)
        have HL := (show Hid (listIs _ _ _ _) from hL)
        have HLN := (show Hid (_ = _) from hLn)
        have HS := (show Hid (setIs _ _ _) from hsT)
        have HP := (show Hid (Kept _ _ _) from hkp)
        have HB := (show Hid (rowIs _ _ _ _) from hbl)
        have cs := (hkp.cell (p := ⟨bs, 0, none⟩) lt1 n1).trans C0.out.1
        have cn := (hkp.cell (p := ⟨bS, 0, none⟩) lt2 n2).trans C0.out.2.1
        have ct := (hkp.cell (p := ⟨bt, 0, none⟩) lt3 n3).trans C0.out.2.2
        have HK' := (show Hid (setIs _ _ _) from hkp.set HK.out n4)
        have HO' := (show Hid (setIs _ _ _) from hkp.set HO.out n5)
        clear ht hL hLn hsT hkp hbl
        by_cases hpn : p < n
        · by_cases hmy : L'.length < y
          · have hp9 : p < 9 := by omega
            have tk1 : True := trivial
            have tk2 : True := trivial
            have tk3 : True := trivial
            cases e1 : K.testBit p
            · have hfin : pass (p + 1) K O y lk s = t := by rw [HPS.out, pstep, if_neg (by simp [e1])]
              have HF := (show Hid (_ = _) from hfin)
              have E1 := (show Hid (_ = _) from e1)
              clear hfin e1
              go_wp2_with (go_at_call 13; refine Calls.mono (set_has_b bk ck p K _ hp9 hK _ (by exact HK'.out) E1.out) ?_; rintro e w' ⟨rfl, q, rfl⟩)
              go_roundw
              case rel => 
                refine ⟨p + 1, L', by omega, by go_num, HL.out, by rw [HF.out]; exact HLN.out, by rw [HF.out]; exact HS.out, HP.out.drewN _, HB.out⟩
              case measure => go_light; simp [intOf]; omega
            · have E1 := (show Hid (_ = _) from e1)
              cases e2 : t.2.testBit p
              · have E2 := (show Hid (_ = _) from e2)
                have APP := (show Hid (∀ w5 : World, Kept (fun j => j = bT) wr w5 → World.ownsRow (w5.alloc (.cells #[.int .i64 p] 3)) (w.heap.size + 1) 3 1 (.slice al' L'.length cap') L'.length (L'.map (fun (x : Nat) => Value.int .i64 (x : Int)))) from fun w5 hk5 => (ownsRow_kept HL.out.1 hk5 (fun j hj => by omega)).alloc _)
                cases lk
                · have hfin : pass (p + 1) K O y false s = (t.1 + 1, t.2 ||| 2 ^ p) := by rw [HPS.out, pstep, if_pos ⟨by rw [← HLN.out]; exact hmy, e1, e2, .inl rfl⟩]
                  have HF := (show Hid (_ = _) from hfin)
                  clear hfin e1 e2 tk3
                  go_wp2_with (first
                | (go_at_call 13; have _t := tk1; refine Calls.mono (set_has_b bk ck p K _ hp9 hK _ (by exact HK'.out) E1.out) ?_; rintro e w' ⟨rfl, q, rfl⟩; clear _t tk1)
                | (go_at_call 13; have _t := tk2; refine Calls.mono (set_has_b bT 1 p t.2 _ hp9 hTc _ (by exact HS.out) E2.out) ?_; rintro e w' ⟨rfl, q2, rfl⟩; clear _t tk2)
                | (go_at_call 12; refine Calls.mono (set_add bT 1 p t.2 hp9 hTc _ (by exact HS.out)) ?_; rintro e w5 ⟨rfl, hs5, hk5⟩; have HS5 := (show Hid (setIs _ _ _) from hs5); have HK5 := (show Hid (Kept _ _ _) from hk5); clear hs5 hk5)
                | (at_builtin; have _t := HS5; refine wpList_append_own_at _ rfl _ _ 65 rfl (w.heap.size + 1) 3 i0 (.int .i64 0) 1 8 hu65 hi hz0 hz1 hz2 rfl (by decide) (.slice al' L'.length cap') L'.length _ rfl (APP.out w5 (Kept.trans ((Kept.refl (fun j => j = bT) wr).drewN _) HK5.out)) ⟨w5.heap.size, 0, none⟩ 1 1 [.int .i64 p] rfl rfl (fun j u hu => by rw [add_lit0, (rowIs_new w5 [Value.int .i64 p] 3).cell]; exact hu) (fun u hu => by simp at hu; subst hu; rfl) (by unfold maxLen; omega) (by omega) (by rw [World.size_alloc]; have h5 : wr.heap.size ≤ w5.heap.size := HK5.out.size; have h6 := HB.out.lt; omega) ?_; intro v' w6 hown6 hgrow6 hnil6 hloc6; have HO6 := (show Hid (World.ownsRow _ _ _ _ _ _ _) from hown6); have HG6 := (show Hid (World.grownBy _ _ _) from hgrow6); clear _t hown6 hgrow6 hnil6 hloc6))
                  go_roundw
                  case rel =>
                    obtain ⟨r1, r2, r3, r4⟩ := add_done lt4 rfl HL.out HP.out HB.out HS5.out HK5.out HO6.out HG6.out hp9
                    exact ⟨p + 1, L' ++ [p], by omega, by go_num, r1, by rw [HF.out]; simp [HLN.out], by rw [HF.out]; exact r2, r3, r4⟩
                  case measure => go_light; simp [intOf]; omega
                · cases e3 : O.testBit p
                  · have E3 := (show Hid (_ = _) from e3)
                    have hfin : pass (p + 1) K O y true s = (t.1 + 1, t.2 ||| 2 ^ p) := by rw [HPS.out, pstep, if_pos ⟨by rw [← HLN.out]; exact hmy, e1, e2, .inr e3⟩]
                    have HF := (show Hid (_ = _) from hfin)
                    clear hfin e1 e2 e3
                    go_wp2_with (first
                  | (go_at_call 13; have _t := tk1; refine Calls.mono (set_has_b bk ck p K _ hp9 hK _ (by exact HK'.out) E1.out) ?_; rintro e w' ⟨rfl, q, rfl⟩; clear _t tk1)
                  | (go_at_call 13; have _t := tk2; refine Calls.mono (set_has_b bT 1 p t.2 _ hp9 hTc _ (by exact HS.out) E2.out) ?_; rintro e w' ⟨rfl, q2, rfl⟩; clear _t tk2)
                  | (go_at_call 13; have _t := tk3; refine Calls.mono (set_has_b bo co p O _ hp9 hO _ (by exact HO'.out) E3.out) ?_; rintro e w' ⟨rfl, q3, rfl⟩; clear _t tk3)
                  | (go_at_call 12; refine Calls.mono (set_add bT 1 p t.2 hp9 hTc _ (by exact HS.out)) ?_; rintro e w5 ⟨rfl, hs5, hk5⟩; have HS5 := (show Hid (setIs _ _ _) from hs5); have HK5 := (show Hid (Kept _ _ _) from hk5); clear hs5 hk5)
                  | (at_builtin; have _t := HS5; refine wpList_append_own_at _ rfl _ _ 65 rfl (w.heap.size + 1) 3 i0 (.int .i64 0) 1 8 hu65 hi hz0 hz1 hz2 rfl (by decide) (.slice al' L'.length cap') L'.length _ rfl (APP.out w5 (Kept.trans ((Kept.refl (fun j => j = bT) wr).drewN _) HK5.out)) ⟨w5.heap.size, 0, none⟩ 1 1 [.int .i64 p] rfl rfl (fun j u hu => by rw [add_lit0, (rowIs_new w5 [Value.int .i64 p] 3).cell]; exact hu) (fun u hu => by simp at hu; subst hu; rfl) (by unfold maxLen; omega) (by omega) (by rw [World.size_alloc]; have h5 : wr.heap.size ≤ w5.heap.size := HK5.out.size; have h6 := HB.out.lt; omega) ?_; intro v' w6 hown6 hgrow6 hnil6 hloc6; have HO6 := (show Hid (World.ownsRow _ _ _ _ _ _ _) from hown6); have HG6 := (show Hid (World.grownBy _ _ _) from hgrow6); clear _t hown6 hgrow6 hnil6 hloc6))
                    go_roundw
                    case rel =>
                      obtain ⟨r1, r2, r3, r4⟩ := add_done lt4 rfl HL.out HP.out HB.out HS5.out HK5.out HO6.out HG6.out hp9
                      exact ⟨p + 1, L' ++ [p], by omega, by go_num, r1, by rw [HF.out]; simp [HLN.out], by rw [HF.out]; exact r2, r3, r4⟩
                    case measure => go_light; simp [intOf]; omega
                  · have E3 := (show Hid (_ = _) from e3)
                    have hfin : pass (p + 1) K O y true s = t := by rw [HPS.out, pstep, if_neg (by simp [e3])]
                    have HF := (show Hid (_ = _) from hfin)
                    clear hfin e1 e2 e3 APP
                    go_wp2_with (first
                      | (go_at_call 13; have _t := tk1; refine Calls.mono (set_has_b bk ck p K _ hp9 hK _ (by exact HK'.out) E1.out) ?_; rintro e w' ⟨rfl, q, rfl⟩; clear _t tk1)
                      | (go_at_call 13; have _t := tk2; refine Calls.mono (set_has_b bT 1 p t.2 _ hp9 hTc _ (by exact HS.out) E2.out) ?_; rintro e w' ⟨rfl, q2, rfl⟩; clear _t tk2)
                      | (go_at_call 13; have _t := tk3; refine Calls.mono (set_has_b bo co p O _ hp9 hO _ (by exact HO'.out) E3.out) ?_; rintro e w' ⟨rfl, q3, rfl⟩; clear _t tk3))
                    go_roundw
                    case rel => 
                      refine ⟨p + 1, L', by omega, by go_num, HL.out, by rw [HF.out]; exact HLN.out, by rw [HF.out]; exact HS.out, HP.out.drewN _, HB.out⟩
                    case measure => go_light; simp [intOf]; omega
              · have E2 := (show Hid (_ = _) from e2)
                have hfin : pass (p + 1) K O y lk s = t := by rw [HPS.out, pstep, if_neg (by simp [e2])]
                have HF := (show Hid (_ = _) from hfin)
                clear hfin e1 e2 tk3
                go_wp2_with (first
                  | (go_at_call 13; have _t := tk1; refine Calls.mono (set_has_b bk ck p K _ hp9 hK _ (by exact HK'.out) E1.out) ?_; rintro e w' ⟨rfl, q, rfl⟩; clear _t tk1)
                  | (go_at_call 13; have _t := tk2; refine Calls.mono (set_has_b bT 1 p t.2 _ hp9 hTc _ (by exact HS.out) E2.out) ?_; rintro e w' ⟨rfl, q2, rfl⟩; clear _t tk2))
                go_roundw
                case rel => 
                  refine ⟨p + 1, L', by omega, by go_num, HL.out, by rw [HF.out]; exact HLN.out, by rw [HF.out]; exact HS.out, HP.out.drewN _, HB.out⟩
                case measure => go_light; simp [intOf]; omega
          · go_wp2_with fail
            go_roundw
            case rel =>
              have hfin : st n K O y T (k + 1) = t := by
                rw [HST.out, ← HPE.out (n - p) (by rw [← HLN.out]; exact hmy), show p + (n - p) = n by omega]
              exact ⟨k + 1, L', by omega, rfl, HL.out, by rw [hfin]; exact HLN.out, by rw [hfin]; exact HS.out, HP.out, HB.out⟩

            case measure => go_light; simp [intOf]; omega
        · go_wp2_with fail
          go_roundw
          case rel =>
            have hfin : st n K O y T (k + 1) = t := by
              rw [HST.out, HPQ.out, show p = n by omega]
            exact ⟨k + 1, L', by omega, rfl, HL.out, by rw [hfin]; exact HLN.out, by rw [hfin]; exact HS.out, HP.out, HB.out⟩
          case measure => go_light; simp [intOf]; omega
    · obtain rfl : k = 2 := by omega
      clear hL hsT hkp hbl
      go_wp2_with fail
      go_ret
      exact ⟨_, L, rfl, ⟨ownsRow_mono HL.out.1 (by omega), HL.out.2⟩, hLn, HS.out, HP.out⟩
end Go.Proofs.YbulkajboFmt
