import Derived.Test.YbulkajccEnc
namespace Go.Proofs.Ybulkajcc
open Go.RowKit
open Go.Lib (HoldsBytes PartsAt)
set_option linter.unusedVariables false

theorem Yba.info23 : (Yba.prog.info? 23).map (fun i => (i.zero, i.size, i.bytes)) = some (some (.slice none 0 0), 1, 24) := by kernel_rfl

theorem own_empty (w : World) : (w.alloc (.cells #[] 5)).ownsRow w.heap.size 5 1 (.slice (some ⟨w.heap.size, 0, none⟩) 0 0) 0 [] :=
  ⟨by simp, .inr ⟨w.heap.size, 0, #[], rfl, Nat.le_refl _, heap_alloc_new w _, Nat.le_refl _, by unfold maxLen; omega, by simp, by simp⟩⟩
theorem holds_news {w : World} {a : Option Addr} {m c : Nat} {l : List UInt8} (h : HoldsBytes w (.slice a m c) l) : l.length = m ∧ (a = none → l = []) ∧ ∀ ad, a = some ad → ∀ j u, (bv l)[j]? = some u → w.cell? (ad.add j) = some u := by
  obtain ⟨p, cap, e, h1, h2⟩ := h
  simp only [Value.slice.injEq] at e
  obtain ⟨rfl, rfl, rfl⟩ := e
  refine ⟨rfl, h1, fun b hb j u hu => ?_⟩
  unfold bv at hu
  rw [List.getElem?_map] at hu
  obtain ⟨x, hx, rfl⟩ := Option.map_eq_some_iff.1 hu
  exact h2 b hb j x hx

theorem nums_at (l : List UInt8) (i : Nat) (h : i < l.length) : (Lib.numsL l).getD i 0 = (l[i].toNat : Int) := by simp [Lib.numsL, h]
theorem holds_in {w : World} {a : Option Addr} {m c : Nat} {l : List UInt8} (h : HoldsBytes w (.slice a m c) l) : Lib.BytesIn w a m (Lib.numsL l) := by
  obtain ⟨p, cap, e, h1, h2⟩ := h
  simp only [Value.slice.injEq] at e
  obtain ⟨rfl, rfl, rfl⟩ := e
  cases a with
  | none => rw [h1 rfl]; exact Lib.BytesIn.nil _ _ _
  | some ad => exact Lib.BytesIn.of_cells fun i hi => by rw [h2 ad rfl i l[i] (List.getElem?_eq_getElem hi), nums_at l i hi]
theorem enc_one (la : List UInt8) : enc [la] = 91 :: (la ++ [93]) := by simp [enc, Lib.join_one]

set_option maxHeartbeats 4000000 in
theorem single_small (a : Option Addr) (m c : Nat) (la : List UInt8) (x y : Int) (w : World) (h0 : 0 ≤ x) (h1 : x ≤ 255) (h2 : 0 ≤ y) (h3 : y ≤ 255) (hm : m ≤ 4096) (hH : HoldsBytes w (.slice a m c) la) (hac : a = none → c = 0) :
    Calls Yba.prog 4 #[.slice a m c, .int .u8 x, .int .u8 y] w fun e w' => e = .returned (.bool true) ∧ Below w.heap.size w w' := by
  obtain ⟨i5, h5, z0, z1, z2⟩ := info_parts Yba.info5
  obtain ⟨i23, h23, y0, y1, y2⟩ := info_parts Yba.info23
  have hu23 := Yba.underlying23
  have hu22 := Yba.underlying22
  obtain ⟨hla, hnil, hcells⟩ := holds_news hH
  obtain ⟨nb, hnb⟩ : ∃ nb : Nat, x % 8 = (nb : Int) := ⟨(x % 8).toNat, by omega⟩
  obtain ⟨na, hna⟩ : ∃ na : Nat, y % 8 = (na : Int) := ⟨(y % 8).toNat, by omega⟩
  obtain ⟨C, hC⟩ : ∃ C : Nat, (nb : Int) + (na : Int) + 1 = (C : Int) := ⟨nb + na + 1, by omega⟩
  have nb8 : nb < 8 := by omega
  have na8 : na < 8 := by omega
  have HH := (show Hid (HoldsBytes _ _ _) from hH)
  have HAL : Hid (a = none → m = 0 ∧ c = 0) := fun e => ⟨by rw [← hla, hnil e]; rfl, hac e⟩
  have HCS : Hid (∀ ad, a = some ad → ∀ j u, (bv la)[j]? = some u → (w.alloc (.cells #[] 5)).cell? (ad.add j) = some u) := fun ad e j u hu => Lib.cell?_alloc_marked _ (hcells ad e j u hu)
  have HBL : Hid ((bv la).length = m * 1) := by show _ = _; rw [bv_length, hla]; omega
  have HON := (show Hid _ from bv_one la)
  have HOE := (show Hid (World.ownsRow _ _ _ _ _ _ _) from own_empty w)
  have TK1 : True := trivial
  clear hH hnil hcells hac
  go_enter Yba.func4, Yba.ntmps4
  go_upto_block 0 with (first
    | (at_make; have _t := HO1; refine wpList_make_own _ rfl _ _ 22 rfl w1.heap.size 23 i23 (.slice none 0 0) 1 hu22 h23 y0 y1 .i64 .i64 _ C rfl rfl rfl (by rw [y2]; omega) (by unfold maxLen; omega) (Nat.le_refl _) ?_; intro w2 hown2 hgrow2; clear _t; have HO2 := (show Hid (World.ownsRow _ _ _ _ _ _ _) from hown2); have HG2 := (show Hid (World.grownBy _ _ _) from hgrow2); clear hown2 hgrow2)
    | (at_builtin; have _t := TK1; refine wpList_append_gen _ rfl (.tmp 23) (.tmp 24) 23 rfl w.heap.size 5 i5 (.int .u8 0) 1 1 hu23 h5 z0 z1 z2 rfl (by omega) (.slice (some ⟨w.heap.size, 0, none⟩) 0 0) 0 [] rfl HOE.out a m c (bv la) rfl HAL.out HBL.out HCS.out HON.out (by unfold maxLen; omega) (by omega) (by simp) ?_; intro v1 w1 ho1 hg1 hn1; obtain ⟨gb, cb, rfl⟩ := own_form ho1 (fun e => by have := hn1.1 e; simp at this); have HO1 := (show Hid (World.ownsRow _ _ _ _ _ _ _) from ho1); have HG1 := (show Hid (World.grownBy _ _ _) from hg1); clear TK1 _t ho1 hg1 hn1))
  have hd : decide ((4096 : Int) < (m : Int)) = false := decide_eq_false (by omega)
  simp only [hd]
  clear hd
  have HO1' : Hid (w1.ownsRow w.heap.size 5 1 (.slice (some ⟨gb, 0, none⟩) m cb) m (bv la)) := by show World.ownsRow _ _ _ _ _ _ _; have := HO1.out; simpa using this
  have lgb := (HO1'.out.lt gb rfl)
  have k1 : Kept (fun _ => False) w w1 := ((Kept.refl (fun _ => False) w).alloc _).grown HG1.out (fun k e hk => by simp [Value.ownBlock] at e; omega)
  have l1 := k1.size
  have k2 : Kept (fun _ => False) w w2 := k1.grown HG2.out (fun k e _ => by simp at e)
  have HB2 : Hid (w2.ownsRow w.heap.size 5 1 (.slice (some ⟨gb, 0, none⟩) m cb) m (bv la)) := HO1'.out.kept HG2.out (.inr (by simp [Value.ownBlock]))
  obtain ⟨gi, hgi⟩ : ∃ gi, gi = w1.heap.size := ⟨_, rfl⟩
  rw [← hgi] at HO2 lgb l1
  simp only [← hgi]
  have HK2 := (show Hid (Kept _ _ _) from k2)
  have lgi := (HO2.out.lt gi rfl).2
  clear hgi k1 k2 HO1 HO1' HG1 HG2 HOE HCS HAL HBL HON
  go_cut [10] (fun q wc => q = .slice (some ⟨gi, 0, none⟩) nb C ∧ wc.ownsRow gi 23 1 (.slice (some ⟨gi, 0, none⟩) nb C) nb (List.replicate nb (.slice none 0 0)) ∧ Kept (fun j => j = gi) w2 wc)
  case first =>
    go_wp2_with fail
    go_loopw [10, 11] (fun q p wr => ∃ k : Nat, k ≤ nb ∧ q = .slice (some ⟨gi, 0, none⟩) k C ∧ p = .int .i64 k ∧ wr.ownsRow gi 23 1 (.slice (some ⟨gi, 0, none⟩) k C) k (List.replicate k (.slice none 0 0)) ∧ Kept (fun j => j = gi) w2 wr) (fun _ p _ => nb - (intOf p).toNat)
    case atStart => exact ⟨0, Nat.zero_le _, rfl, rfl, HO2.out, Kept.refl _ _⟩
    case round =>
      obtain ⟨k, hk, rfl, rfl, hown, hkept⟩ := hrel
      have HOW := (show Hid (World.ownsRow _ _ _ _ _ _ _) from hown)
      have HKP := (show Hid (Kept _ _ _) from hkept)
      clear hown hkept HO2
      by_cases hlt : k < nb
      · have TK : True := trivial
        go_wp2_with (at_builtin; have _t := TK; refine wpList_append_fits _ rfl (.tmp 36) (.tmp 37) 22 rfl gi 23 i23 1 hu22 h23 y1 gi k C _ rfl (HOW.out.alloc _) ⟨wr.heap.size, 0, none⟩ 1 1 [.slice none 0 0] rfl rfl (news_row (rowIs_new wr [.slice none 0 0] 23)) (by simp [Value.oneCell']) (by omega) ?_; intro w3 hown3 hgrow3; clear TK _t; have HO3 := (show Hid (World.ownsRow _ _ _ _ _ _ _) from hown3); have HG3 := (show Hid (World.grownBy _ _ _) from hgrow3); clear hown3 hgrow3)
        go_roundw
        case rel =>
          refine ⟨k + 1, by omega, rfl, by go_num, ?_, (HKP.out.alloc _).grown HG3.out (fun j e _ => by simp at e; exact e.symm)⟩
          rw [List.replicate_succ']; exact HO3.out
        case measure => simp [intOf]; omega
      · obtain rfl : k = nb := by omega
        go_wp2_with fail
        go_meet
        case rel => exact ⟨rfl, HOW.out, HKP.out⟩
  case rest =>
    obtain ⟨rfl, hown, hkept⟩ := hcut
    obtain ⟨w3, rfl⟩ : ∃ w3 : World, w3 = wc := ⟨_, rfl⟩
    have HO3 := (show Hid (World.ownsRow _ _ _ _ _ _ _) from hown)
    have HK3 := (show Hid (Kept _ _ _) from hkept)
    clear hown hkept HO2
    have TK : True := trivial
    go_upto_block 2 with (at_builtin; have _t := TK; refine wpList_append_fits _ rfl _ _ 22 rfl gi 23 i23 1 hu22 h23 y1 gi nb C _ rfl (HO3.out.alloc _) ⟨w3.heap.size, 0, none⟩ 1 1 [.slice (some ⟨gb, 0, none⟩) m cb] rfl rfl (news_row (rowIs_new w3 [.slice (some ⟨gb, 0, none⟩) m cb] 23)) (by simp [Value.oneCell']) (by omega) ?_; intro w4 hown4 hgrow4; clear TK _t; have HO4 := (show Hid (World.ownsRow _ _ _ _ _ _ _) from hown4); have HG4 := (show Hid (World.grownBy _ _ _) from hgrow4); clear hown4 hgrow4)
    have HK4 : Hid (Kept (fun j => j = gi) w2 w4) := (HK3.out.alloc _).grown HG4.out (fun j e _ => by simp at e; exact e.symm)
    clear HO3 HK3 HG4
    go_cut [10] (fun q wc => q = .slice (some ⟨gi, 0, none⟩) C C ∧ wc.ownsRow gi 23 1 (.slice (some ⟨gi, 0, none⟩) C C) C (List.replicate nb (.slice none 0 0) ++ [.slice (some ⟨gb, 0, none⟩) m cb] ++ List.replicate na (.slice none 0 0)) ∧ Kept (fun j => j = gi) w2 wc)
    case first =>
      go_wp2_with fail
      go_loopw [10, 12] (fun q p wr => ∃ k : Nat, k ≤ na ∧ q = .slice (some ⟨gi, 0, none⟩) (nb + 1 + k) C ∧ p = .int .i64 k ∧ wr.ownsRow gi 23 1 (.slice (some ⟨gi, 0, none⟩) (nb + 1 + k) C) (nb + 1 + k) (List.replicate nb (.slice none 0 0) ++ [.slice (some ⟨gb, 0, none⟩) m cb] ++ List.replicate k (.slice none 0 0)) ∧ Kept (fun j => j = gi) w2 wr) (fun _ p _ => na - (intOf p).toNat)
      case atStart => exact ⟨0, Nat.zero_le _, rfl, rfl, by simpa using HO4.out, HK4.out⟩
      case round =>
        obtain ⟨k, hk, rfl, rfl, hown, hkept⟩ := hrel
        have HOW := (show Hid (World.ownsRow _ _ _ _ _ _ _) from hown)
        have HKP := (show Hid (Kept _ _ _) from hkept)
        clear hown hkept HO4 HK4
        by_cases hlt : k < na
        · have TK : True := trivial
          go_wp2_with (at_builtin; have _t := TK; refine wpList_append_fits _ rfl (.tmp 48) (.tmp 49) 22 rfl gi 23 i23 1 hu22 h23 y1 gi (nb + 1 + k) C _ rfl (HOW.out.alloc _) ⟨wr.heap.size, 0, none⟩ 1 1 [.slice none 0 0] rfl rfl (news_row (rowIs_new wr [.slice none 0 0] 23)) (by simp [Value.oneCell']) (by omega) ?_; intro w3 hown3 hgrow3; clear TK _t; have HO3 := (show Hid (World.ownsRow _ _ _ _ _ _ _) from hown3); have HG3 := (show Hid (World.grownBy _ _ _) from hgrow3); clear hown3 hgrow3)
          go_roundw
          case rel =>
            refine ⟨k + 1, by omega, by rw [← Nat.add_assoc (nb + 1) k 1], by go_num, ?_, (HKP.out.alloc _).grown HG3.out (fun j e _ => by simp at e; exact e.symm)⟩
            rw [List.replicate_succ', ← List.append_assoc, ← Nat.add_assoc (nb + 1) k 1]; exact HO3.out
          case measure => simp [intOf]; omega
        · obtain rfl : k = na := by omega
          obtain rfl : C = nb + 1 + k := by omega
          go_wp2_with fail
          go_meet
          case rel => exact ⟨rfl, HOW.out, HKP.out⟩
    case rest =>
      obtain ⟨rfl, hown, hkept⟩ := hcut
      obtain ⟨w5, rfl⟩ : ∃ w5 : World, w5 = wc := ⟨_, rfl⟩
      have hrow := owned_whole hown
      have HK5 : Hid (Kept (fun _ => False) w w5) := HK2.out.then hkept (fun j hj e => by omega)
      have hB5 : w5.ownsRow w.heap.size 5 1 (.slice (some ⟨gb, 0, none⟩) m cb) m (bv la) := by
        obtain ⟨cur, c1, c2, c3, c4, c5⟩ := owned_row HB2.out
        exact ⟨by rw [bv_length, hla]; omega, .inr ⟨gb, cb, cur.toArray, rfl, c4, hkept.row c1 (by show ¬ gb = gi; omega), c5, (by
          rcases HB2.out.2 with ⟨q, _⟩ | ⟨_, _, _, q, _, _, _, q5, _⟩
          · cases q
          · simp only [Value.slice.injEq] at q; rw [q.2.2]; exact q5), by simpa using c2, by simpa using c3⟩⟩
      have hHB : HoldsBytes w5 (.slice (some ⟨gb, 0, none⟩) m cb) la := by
        refine ⟨some ⟨gb, 0, none⟩, cb, by rw [hla], fun e => by (cases e), fun ad e i x hx => ?_⟩
        obtain rfl := Option.some.inj e
        have hi : i < m := by rw [← hla]; exact (List.getElem?_eq_some_iff.1 hx).1
        rw [add_lit0, hB5.cellAt i (by omega)]
        unfold bv; rw [List.getElem?_map, hx]; rfl
      obtain ⟨ps, hps⟩ : ∃ ps : List ((Option Addr × Nat × Nat) × List UInt8), ps = List.replicate nb ((none, 0, 0), []) ++ [((some ⟨gb, 0, none⟩, m, cb), la)] ++ List.replicate na ((none, 0, 0), []) := ⟨_, rfl⟩
      have e1 : (ps.map (·.1)).map encS = List.replicate nb (.slice none 0 0) ++ [.slice (some ⟨gb, 0, none⟩) m cb] ++ List.replicate na (.slice none 0 0) := by
        rw [hps]; simp [encS]
      have e2 : ps.length = C := by rw [hps]; simp; omega
      have e3 : keep ps = [((some ⟨gb, 0, none⟩, m, cb), la)] := by
        rw [hps]; simp [keep, isNil, List.filter_append]
      rw [← e1] at hrow
      have hen := enc_some gi C ps w5 hrow (by omega) (by omega) (fun p hp => ?_) (by rw [e3]; simp)
      · rw [e2, e3] at hen
        simp only [List.map_cons, List.map_nil] at hen
        have HEN := (show Hid (Calls _ _ _ _ _) from hen)
        clear hen hrow hB5 hHB e1 e2 e3 hps hown hkept
        go_wp2_with fail
        refine HEN.out.mono ?_
        rintro e w6 ⟨g, cp, rfl, ho6, hk6⟩
        have hel : (enc [la]).length = m + 2 := by rw [enc_one]; simp [hla]
        rw [hel] at ho6 ⊢
        have q0 : w6.cell? ⟨g, 0, none⟩ = some (.int .u8 91) := by
          rw [ho6.cellAt 0 (by omega), enc_one]; rfl
        have q1 : w6.cell? ⟨g, m + 1, none⟩ = some (.int .u8 93) := by
          rw [ho6.cellAt (m + 1) (by omega), enc_one]
          simp [bv, ← hla]
        have qi : ∀ i, i < m → w6.cell? ⟨g, 1 + i, none⟩ = (bv la)[i]? := fun i hi => by
          rw [ho6.cellAt (1 + i) (by omega), enc_one]
          simp [bv, Nat.add_comm 1 i, List.getElem?_append, hla, hi]
        have hcp : m + 2 ≤ cp := (owned_row ho6).choose_spec.2.2.2.2
        have k6 : Kept (fun _ => False) w w6 := HK5.out.then hk6 (fun j hj e => by omega)
        have HK6 := (show Hid (Kept _ _ _) from k6)
        have HHA := (show Hid (HoldsBytes _ _ _) from holds_kept HH.out k6 (fun _ _ _ _ => id))
        have HQI := (show Hid _ from qi)
        clear HEN ho6 hk6 qi hel k6
        go_wp2_with fail
        have b1 : Lib.BytesIn w6 (some ⟨g, 1, none⟩) m (Lib.numsL la) := Lib.BytesIn.of_cells fun i hi => by
          have hi' : i < la.length := by rw [hla]; exact hi
          rw [add_lit, HQI.out i hi, nums_at la i hi']
          simp [bv, List.getElem?_eq_getElem hi']
        refine (Yba.bytes_Equal_all (some ⟨g, 1, none⟩) a m (cp - 1) m c (Lib.numsL la) (Lib.numsL la) w6 (by rw [Lib.numsL_length, hla]) (by rw [Lib.numsL_length, hla]) b1 (holds_in HHA.out)).mono ?_
        rintro e w7 ⟨rfl, rfl⟩
        have hbt : (Lib.bytesOf (Lib.numsL la) == Lib.bytesOf (Lib.numsL la)) = true := by simp
        rw [hbt]
        clear b1 hbt
        go_wp2_with fail
        go_ret
        exact ⟨rfl, HK6.out.below (Nat.le_refl _) (fun _ _ => id)⟩
      · rw [hps] at hp
        simp only [List.mem_append, List.mem_replicate, List.mem_singleton] at hp
        rcases hp with (⟨_, rfl⟩ | rfl) | ⟨_, rfl⟩
        · exact ⟨⟨none, 0, rfl, fun _ => rfl, fun a e => by (cases e)⟩, by simp, fun a e => by (cases e)⟩
        · exact ⟨hHB, by simp only; omega, fun a e => by obtain rfl := Option.some.inj e; show gb ≠ gi; omega⟩
        · exact ⟨⟨none, 0, rfl, fun _ => rfl, fun a e => by (cases e)⟩, by simp, fun a e => by (cases e)⟩

set_option maxHeartbeats 1000000 in
theorem single_any (a : Option Addr) (m c : Nat) (la : List UInt8) (x y : Int) (w : World) (h0 : 0 ≤ x) (h1 : x ≤ 255) (h2 : 0 ≤ y) (h3 : y ≤ 255) (hH : HoldsBytes w (.slice a m c) la) (hac : a = none → c = 0) :
    Calls Yba.prog 4 #[.slice a m c, .int .u8 x, .int .u8 y] w fun e w' => e = .returned (.bool true) ∧ Below w.heap.size w w' := by
  by_cases hm : m ≤ 4096
  · exact single_small a m c la x y w h0 h1 h2 h3 hm hH hac
  · have l1 : (4096 : Int) < (m : Int) := by omega
    clear hH hac
    go_enter Yba.func4, Yba.ntmps4
    go_wp2_with fail
    go_ret
    exact ⟨rfl, Below.refl _ _⟩
end Go.Proofs.Ybulkajcc
