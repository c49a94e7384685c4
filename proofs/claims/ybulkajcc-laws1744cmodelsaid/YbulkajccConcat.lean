import Derived.Test.YbulkajccGrow
import Derived.Lib.SlParts
import Derived.Deep.DeepCutAuto
import Derived.Deep.CutBlock
namespace Go.Proofs.Ybulkajcc
open Go.RowKit
open Go.Lib (HoldsBytes PartsAt)
set_option linter.unusedVariables false

/-- The bytes' values. -/
def bv (l : List UInt8) : List Value := l.map fun x => .int .u8 (x.toNat : Int)
theorem bv_length (l : List UInt8) : (bv l).length = l.length := by simp [bv]
theorem bv_append (a b : List UInt8) : bv (a ++ b) = bv a ++ bv b := by simp [bv]
theorem bv_one (l : List UInt8) : ∀ u ∈ bv l, u.oneCell' = true := by
  intro u hu
  obtain ⟨z, _, rfl⟩ := List.mem_map.1 hu
  rfl
theorem holds_form {w : World} {v : Value} {l : List UInt8} (h : HoldsBytes w v l) : ∃ p cap, v = .slice p l.length cap := by
  obtain ⟨p, cap, h1, _⟩ := h
  exact ⟨p, cap, h1⟩

theorem flat_take (ls : List (List UInt8)) (k : Nat) (h : k < ls.length) : (ls.take (k + 1)).flatten = (ls.take k).flatten ++ ls[k] := by
  rw [List.take_succ_eq_append_getElem h, List.flatten_append]; simp
theorem flat_le (ls : List (List UInt8)) (k : Nat) : (ls.take k).flatten.length ≤ ls.flatten.length := by
  conv => rhs; rw [← List.take_append_drop k ls, List.flatten_append, List.length_append]
  omega

theorem own_form {w : World} {B : Nat} {e : TypeId} {size : Nat} {v : Value} {n : Nat} {xs : List Value} (h : w.ownsRow B e size v n xs) (hn : v ≠ .slice none 0 0) : ∃ g cap, v = .slice (some ⟨g, 0, none⟩) n cap := by
  rcases h.2 with ⟨h2, _⟩ | ⟨g, cap, cur, h2, _⟩
  · exact absurd h2 hn
  · exact ⟨g, cap, h2⟩
theorem add_block (a : Addr) (i : Nat) : (a.add i).block = a.block := by unfold Addr.add; split <;> rfl
theorem holds_kept {w w' : World} {S : Nat → Prop} {v : Value} {l : List UInt8} (h : HoldsBytes w v l) (k : Kept S w w') (hS : ∀ a n c, v = .slice (some a) n c → ¬ S a.block) : HoldsBytes w' v l := by
  obtain ⟨p, cap, h1, h2, h3⟩ := h
  refine ⟨p, cap, h1, h2, fun a ha i x hx => ?_⟩
  have hc := h3 a ha i x hx
  have hb := World.block_lt_of_cell? w _ hc
  exact (k.cell hb (by rw [add_block]; exact hS a l.length cap (by rw [h1, ha]))).trans hc
theorem parts_kept {w w' : World} {a : Addr} {vs : List Value} {ls : List (List UInt8)} (h : PartsAt w a vs ls) (k : Kept (fun _ => False) w w') : PartsAt w' a vs ls :=
  ⟨h.1, fun i v hv => (k.cell (World.block_lt_of_cell? w _ (h.2.1 i v hv)) id).trans (h.2.1 i v hv), fun i v l h1 h2 => holds_kept (h.2.2 i v l h1 h2) k (fun _ _ _ _ => id)⟩

theorem parts_at {w : World} {a : Addr} {vs : List Value} {ls : List (List UInt8)} (h : PartsAt w a vs ls) (i : Nat) (hi : i < ls.length) :
    ∃ (p : Option Addr) (cap : Nat), vs[i]? = some (.slice p ls[i].length cap) ∧ w.cell? (a.add i) = some (.slice p ls[i].length cap) ∧ (p = none → ls[i] = []) ∧ ∀ b, p = some b → ∀ j u, (bv ls[i])[j]? = some u → w.cell? (b.add j) = some u := by
  have hv : i < vs.length := by rw [h.1]; exact hi
  obtain ⟨p, cap, e, h1, h2⟩ := h.2.2 i vs[i] ls[i] (List.getElem?_eq_getElem hv) (List.getElem?_eq_getElem hi)
  refine ⟨p, cap, by rw [List.getElem?_eq_getElem hv, e], by rw [h.2.1 i vs[i] (List.getElem?_eq_getElem hv), e], h1, fun b hb j u hu => ?_⟩
  unfold bv at hu
  rw [List.getElem?_map] at hu
  obtain ⟨x, hx, rfl⟩ := Option.map_eq_some_iff.1 hu
  exact h2 b hb j x hx

set_option maxHeartbeats 1000000 in
theorem concat_any (b n c : Nat) (vs : List Value) (ls : List (List UInt8)) (w : World) (hn : ls.length = n) (hP : PartsAt w ⟨b, 0, none⟩ vs ls) (hpos : 0 < ls.flatten.length) (hbig : ls.flatten.length ≤ 10000000) (hn1 : n ≤ 1000)
    (hnil : ∀ (i : Nat) m cap, vs[i]? = some (.slice none m cap) → cap = 0) :
    Calls Yba.prog 11 #[.slice (some ⟨b, 0, none⟩) n c] w fun e w' => ∃ g cap, e = .returned (.slice (some ⟨g, 0, none⟩) ls.flatten.length cap) ∧ w'.ownsRow w.heap.size 5 1 (.slice (some ⟨g, 0, none⟩) ls.flatten.length cap) ls.flatten.length (bv ls.flatten) ∧ Kept (fun _ => False) w w' := by
  obtain ⟨i5, h5, z0, z1, z2⟩ := info_parts Yba.info5
  have HP := (show Hid (PartsAt _ _ _ _) from hP)
  have HNL := (show Hid _ from hnil)
  have HN := (show Hid (ls.length = n) from hn)
  obtain ⟨F, hF⟩ : ∃ F, F = ls.flatten.length := ⟨_, rfl⟩
  have HF := (show Hid (F = ls.flatten.length) from hF)
  rw [← hF] at hpos hbig
  clear hP hnil hn hF
  go_enter Yba.func11, Yba.ntmps11
  go_upto_block 0 with fail
  go_cut [3] (fun q wc => q = .int .i64 F ∧ wc = w)
  case first =>
    go_wp2_with fail
    go_loopw [3, 11] (fun q p wr => ∃ k : Nat, k ≤ n ∧ q = .int .i64 ((ls.take k).flatten.length : Nat) ∧ p = .int .i64 k ∧ wr = w) (fun _ p _ => n - (intOf p).toNat)
    case atStart => exact ⟨0, Nat.zero_le _, by simp, rfl, rfl⟩
    case round =>
      obtain ⟨k, hk, rfl, rfl, rfl⟩ := hrel
      by_cases hlt : k < n
      · have hlt' : k < ls.length := by rw [HN.out]; exact hlt
        obtain ⟨p, cap, l, hl, hc, _⟩ := HP.out.get k hlt'
        rw [add_lit0] at hc
        have hle := flat_le ls (k + 1)
        have hfe := flat_take ls k hlt'
        have hl' : ls[k] = l := (List.getElem?_eq_some_iff.1 hl).2
        rw [hl'] at hfe
        have hlen := congrArg List.length hfe
        rw [List.length_append] at hlen
        rw [← HF.out] at hle
        obtain ⟨s2, hs2⟩ : ∃ s2, s2 = (ls.take (k + 1)).flatten.length := ⟨_, rfl⟩
        rw [← hs2] at hlen hle
        have HS2 := (show Hid (s2 = _) from hs2)
        generalize (ls.take k).flatten.length = s1 at *
        generalize l.length = ll at *
        have HSS := (show Hid (s2 = s1 + ll) from hlen)
        have b1 : s1 ≤ 10000000 := by omega
        have b2 : ll ≤ 10000000 := by omega
        clear hs2 hlen hfe hl hl' hle
        have hnn : ¬ ((s1 : Int) + (ll : Int) < 0) := by omega
        go_wp2_with fail
        go_roundw
        case rel => exact ⟨k + 1, by omega, by rw [← HS2.out, HSS.out]; go_num, by go_num, trivial⟩
        case measure => simp [intOf]; omega
      · obtain rfl : k = n := by omega
        go_wp2_with fail
        go_meet
        case rel => exact ⟨by rw [HF.out, List.take_of_length_le (by rw [HN.out]; exact Nat.le_refl _)], rfl⟩
  case rest =>
    obtain ⟨rfl, rfl⟩ := hcut
    obtain ⟨w, rfl⟩ : ∃ w : World, w = wc := ⟨_, rfl⟩
    have hFp : 0 < F := hpos
    go_wp2_with (first | (refine (grow_any F _ hFp hbig).mono ?_; rintro e w1 ⟨g, cap, rfl, hown, hkept⟩; have HO := (show Hid (World.ownsRow _ _ _ _ _ _ _) from hown); have HK := (show Hid (Kept _ _ _) from hkept); clear hown hkept))
    have HPK := (show Hid (∀ wr, Kept (fun _ => False) w wr → PartsAt wr ⟨b, 0, none⟩ vs ls) from fun wr k => parts_kept HP.out k)
    clear HP
    go_loopw [6, 27] (fun q p wr => ∃ k g cap : Nat, k ≤ n ∧ q = .slice (some ⟨g, 0, none⟩) (ls.take k).flatten.length cap ∧ p = .int .i64 k ∧ wr.ownsRow w.heap.size 5 1 (.slice (some ⟨g, 0, none⟩) (ls.take k).flatten.length cap) (ls.take k).flatten.length (bv (ls.take k).flatten) ∧ Kept (fun _ => False) w wr) (fun _ p _ => n - (intOf p).toNat)
    case atStart => exact ⟨0, g, cap, Nat.zero_le _, by simp, rfl, by simpa [bv] using HO.out, HK.out⟩
    case round =>
      obtain ⟨k, g, cap, hk, rfl, rfl, hown, hkept⟩ := hrel
      clear HO HK
      by_cases hlt : k < n
      · have hlt' : k < ls.length := by rw [HN.out]; exact hlt
        obtain ⟨p, cp, hv, hc, hn0, hcs⟩ := parts_at (HPK.out wr hkept) k hlt'
        rw [add_lit0] at hc
        have hal : p = none → ls[k].length = 0 ∧ cp = 0 := fun hp => by
          subst hp
          exact ⟨by rw [hn0 rfl]; rfl, HNL.out k _ _ hv⟩
        have hle := flat_le ls (k + 1)
        have HFE := (show Hid _ from flat_take ls k hlt')
        have hlen := congrArg List.length HFE.out
        rw [List.length_append] at hlen
        rw [← HF.out] at hle
        have hbl := bv_length ls[k]
        have hon := bv_one ls[k]
        have hsz := hkept.size
        have HOW := (show Hid (World.ownsRow _ _ _ _ _ _ _) from hown)
        have HKP := (show Hid (Kept _ _ _) from hkept)
        have HAL := (show Hid _ from hal)
        have HCS := (show Hid _ from hcs)
        have HBL : Hid ((bv ls[k]).length = ls[k].length * 1) := by show _ = _; rw [hbl]; omega
        have HON := (show Hid _ from hon)
        have b1 : (ls.take k).flatten.length + ls[k].length ≤ 10000000 := by omega
        clear hown hkept hal hcs hbl hon hlen hle hn0 hv
        go_wp2_with (at_builtin; refine wpList_append_gen _ rfl (.tmp 31) (.tmp 32) 23 rfl w.heap.size 5 i5 (.int .u8 0) 1 1 Yba.underlying23 h5 z0 z1 z2 rfl (by omega) (.slice (some ⟨g, 0, none⟩) (ls.take k).flatten.length cap) _ _ rfl HOW.out p ls[k].length cp (bv ls[k]) rfl HAL.out HBL.out HCS.out HON.out (by unfold maxLen; omega) (by omega) hsz ?_; intro v' w' ho2 hg2 hnl; have HO2 := (show Hid (World.ownsRow _ _ _ _ _ _ _) from ho2); have HG2 := (show Hid (World.grownBy _ _ _) from hg2); have HNN : Hid (v' ≠ .slice none 0 0) := (fun e => by have := hnl.1 e; simp at this); clear ho2 hg2 hnl)
        go_roundw
        case rel =>
          obtain ⟨g', cap', hf⟩ := own_form HO2.out HNN.out
          have hlen := congrArg List.length HFE.out
          rw [List.length_append] at hlen
          refine ⟨k + 1, g', cap', by omega, ?_, by go_num, ?_, HKP.out.grown HG2.out (fun j e hj => ?_)⟩
          · rw [hf, hlen]
          · have := HO2.out
            rw [hf] at this
            rw [hlen, HFE.out, bv_append]
            exact this
          · exfalso
            have := (HOW.out.lt j e)
            omega
        case measure => simp [intOf]; omega
      · obtain rfl : k = n := by omega
        have HOW := (show Hid (World.ownsRow _ _ _ _ _ _ _) from hown)
        have HKP := (show Hid (Kept _ _ _) from hkept)
        clear hown hkept
        go_wp2_with fail
        go_ret
        have e : ls.take k = ls := List.take_of_length_le (by rw [HN.out]; exact Nat.le_refl _)
        have := HOW.out
        rw [e] at this
        exact ⟨g, cap, by rw [e]; rfl, this, HKP.out⟩
end Go.Proofs.Ybulkajcc
