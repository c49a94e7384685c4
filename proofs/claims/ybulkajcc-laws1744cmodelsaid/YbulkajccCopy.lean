import Derived.Test.YbulkajccModel
namespace Go.Proofs.Ybulkajcc
open Go.RowKit
open Go.Lib (HoldsBytes PartsAt)
set_option linter.unusedVariables false

theorem Kept.ofGrown {w w' : World} {row : Option Nat} (h : w.grownBy w' row) : Kept (fun k => row = some k) w w' :=
  ⟨h.os, h.tape, h.output, h.size, fun j hj hn => h.block j hj (fun e => hn e.symm)⟩
theorem made_slices (n : Nat) : (madeCells (Value.slice none 0 0).cells (n * 1)).toList = List.replicate n (.slice none 0 0) := by
  rw [show (Value.slice none 0 0).cells = #[Value.slice none 0 0] from rfl, toList_madeCells_one]; simp

/-- Behind k answers. -/
structure Cp (w wr : World) (bI n k : Nat) (ps qs : List ((Option Addr × Nat × Nat) × List UInt8)) : Prop where
  len : qs.length = k
  sig : qs.map sig = (ps.take k).map sig
  row : rowIs wr bI 23 ((qs.map (·.1)).map encS ++ List.replicate (n - k) (.slice none 0 0))
  el : ∀ p ∈ qs, HoldsBytes wr (encS p.1) p.2 ∧ ∀ a, p.1.1 = some a → a.block ≠ bI
  kept : Kept (fun _ => False) w wr

theorem row_step (A : List Value) (n k : Nat) (u : Value) (hA : A.length = k) (hk : k < n) : (A ++ List.replicate (n - k) (Value.slice none 0 0)).set k u = (A ++ [u]) ++ List.replicate (n - (k + 1)) (.slice none 0 0) := by
  obtain ⟨d, hd⟩ : ∃ d, n - k = d + 1 := ⟨n - k - 1, by omega⟩
  rw [hd, show n - (k + 1) = d by omega, List.replicate_succ, List.set_append]
  simp [hA]

theorem own_holds {w : World} {B g m cb : Nat} {l : List UInt8} (h : w.ownsRow B 5 1 (.slice (some ⟨g, 0, none⟩) m cb) m (bv l)) (hl : l.length = m) : HoldsBytes w (.slice (some ⟨g, 0, none⟩) m cb) l := by
  refine ⟨some ⟨g, 0, none⟩, cb, by rw [hl], fun e => by (cases e), fun ad e i x hx => ?_⟩
  obtain rfl := Option.some.inj e
  have hi : i < m := by rw [← hl]; exact (List.getElem?_eq_some_iff.1 hx).1
  rw [add_lit0, h.cellAt i (by omega)]
  unfold bv; rw [List.getElem?_map, hx]; rfl

theorem Cp.put {w wr w2 : World} {bI n k : Nat} {ps qs : List ((Option Addr × Nat × Nat) × List UInt8)} (h : Cp w wr bI n k ps qs) (hk : k < n) (hk' : k < ps.length) (hb : w.heap.size ≤ bI) (k2 : Kept (fun _ => False) wr w2) (x : Option Addr × Nat × Nat)
    (hx : isNil x = isNil ps[k].1) (hh : HoldsBytes w2 (encS x) ps[k].2) (hne : ∀ a, x.1 = some a → a.block ≠ bI) : Cp w (w2.setCell ⟨bI, k, none⟩ (encS x)) bI n (k + 1) ps (qs ++ [(x, ps[k].2)]) := by
  have ks : Kept (fun j => j = bI) w2 (w2.setCell ⟨bI, k, none⟩ (encS x)) := (Kept.refl (fun j => j = bI) w2).setCell (p := ⟨bI, k, none⟩) (fun _ => rfl) _
  refine ⟨by simp [h.len], ?_, ?_, ?_, ?_⟩
  · rw [List.map_append, h.sig, List.take_succ_eq_append_getElem hk', List.map_append]
    simp [Ybulkajcc.sig, hx]
  · have := (k2.row h.row id).set k (encS x)
    rw [row_step _ n k _ (by simp [h.len]) hk] at this
    simpa using this
  · intro p hp
    rcases List.mem_append.1 hp with h1 | h1
    · obtain ⟨a1, a2⟩ := h.el p h1
      exact ⟨holds_kept (holds_kept a1 k2 (fun _ _ _ _ => id)) ks (fun a n c e => a2 a (by simp [encS] at e; exact e.1)), a2⟩
    · obtain rfl := List.mem_singleton.1 h1
      exact ⟨holds_kept hh ks (fun a n c e => hne a (by simp [encS] at e; exact e.1)), hne⟩
  · exact (h.kept.then k2 (fun _ _ e => e.elim)).setCell (p := ⟨bI, k, none⟩) (fun hlt => absurd hlt (by show ¬ bI < _; omega)) _

theorem Cp.cell {w wr : World} {bI n k : Nat} {ps qs : List ((Option Addr × Nat × Nat) × List UInt8)} (h : Cp w wr bI n k ps qs) (hk : k < n) : wr.cell? ⟨bI, k, none⟩ = some (.slice none 0 0) := by
  rw [h.row.cell]
  have e : ((qs.map (·.1)).map encS).length = k := by simp [h.len]
  rw [List.getElem?_append_right (by omega), e, Nat.sub_self, List.getElem?_replicate, if_pos (by omega)]

set_option maxHeartbeats 4000000 in
theorem copy_any (ad : Addr) (n c : Nat) (ps : List ((Option Addr × Nat × Nat) × List UInt8)) (w : World) (hA : AnsIn w (some ad) n c ps) (hn : n ≤ 1024) (hl : ∀ p ∈ ps, p.2.length ≤ 4096) :
    Calls Yba.prog 7 #[.slice (some ad) n c] w fun e w' => ∃ bI qs, e = .returned (.slice (some ⟨bI, 0, none⟩) n n) ∧ w.heap.size ≤ bI ∧ Cp w w' bI n n ps qs := by
  obtain ⟨i5, h5, z0, z1, z2⟩ := info_parts Yba.info5
  obtain ⟨i23, h23, y0, y1, y2⟩ := info_parts Yba.info23
  have hu23 := Yba.underlying23
  have hu22 := Yba.underlying22
  have HA := (show Hid (AnsIn _ _ _ _ _) from hA)
  have HL : Hid (ps.length = n) := hA.len
  have HLL := (show Hid _ from hl)
  have hen := eqNil23
  have hen2 := eqNil22
  clear hA hl
  have TK : True := trivial
  go_enter Yba.func7, Yba.ntmps7
  go_upto_block 0 with (at_make; have _t := TK; refine wpList_make_full _ rfl _ _ 22 rfl w.heap.size 23 i23 (.slice none 0 0) 1 hu22 h23 y0 y1 .i64 .i64 _ _ n rfl rfl rfl rfl (by rw [y2]; omega) (by unfold maxLen; omega) (Nat.le_refl _) ?_; intro w1 hown1 hgrow1; clear TK _t)
  have hr1 := owned_whole hown1
  rw [made_slices] at hr1
  have hk1 : Kept (fun _ => False) w w1 := (Kept.ofGrown hgrow1).mono (fun _ _ e => by simp at e)
  obtain ⟨bI, hbI⟩ : ∃ bI, bI = w.heap.size := ⟨_, rfl⟩
  rw [← hbI] at hr1
  simp only [← hbI]
  have hbI1 : w.heap.size ≤ bI := by omega
  have HC0 : Hid (Cp w w1 bI n 0 ps []) := ⟨rfl, by simp, by simpa using hr1, fun p hp => by simp at hp, hk1⟩
  clear hbI hown1 hgrow1 hr1 hk1
  go_cut [4] (fun q wc => ∃ qs, Cp w wc bI n n ps qs)
  case first =>
    go_wp2_with fail
    go_loopw [4] (fun p wr => ∃ (k : Nat) (qs : List ((Option Addr × Nat × Nat) × List UInt8)), k ≤ n ∧ p = .int .i64 k ∧ Cp w wr bI n k ps qs) (fun p _ => n - (intOf p).toNat)
    case atStart => exact ⟨0, [], Nat.zero_le _, rfl, HC0.out⟩
    case round =>
      obtain ⟨k, qs, hk, rfl, hcp⟩ := hrel
      have HCP := (show Hid (Cp _ _ _ _ _ _ _) from hcp)
      clear HC0
      by_cases hlt : k < n
      · have hlt' : k < ps.length := by rw [HL.out]; exact hlt
        obtain ⟨b, off, p, m, cp, hade, hp, hc, hm, hal, hbl, hcs⟩ := HA.out.at k hlt'
        obtain rfl := Option.some.inj hade
        have hc' := (hcp.kept.cell (p := ⟨b, off + k, none⟩) (World.block_lt_of_cell? w ⟨b, off + k, none⟩ hc) id).trans hc
        have hbb := World.block_lt_of_cell? w ⟨b, off + k, none⟩ hc
        have ci := hcp.cell hlt
        have fi := hcp.row.free k
        have hm4 : m ≤ 4096 := by rw [← hm]; exact HLL.out ps[k] (List.getElem_mem hlt')
        have HPU := (show Hid _ from fun (w2 : World) (k2 : Kept (fun _ => False) wr w2) x hx hh hne => hcp.put (w2 := w2) hlt hlt' hbI1 k2 x hx hh hne)
        rw [hp] at HPU
        have lbI := hcp.row.lt
        have hbw : b < wr.heap.size := Nat.lt_of_lt_of_le hbb hcp.kept.size
        have nb : ¬ bI = b := by
          have h1 : b < w.heap.size := hbb
          omega
        rcases p with _ | pa
        · have hl0 : ps[k].2 = [] := by
            have := (hal rfl).1
            exact List.length_eq_zero_iff.1 (by omega)
          rw [hl0] at HPU
          clear hcs hbl hal hc hcp hm hm4 hl0 hp
          go_wp2_with fail
          go_roundw
          case rel =>
            exact ⟨k + 1, _, by omega, by go_num, HPU.out wr (Kept.refl _ _) (none, 0, 0) rfl ⟨none, 0, rfl, fun _ => rfl, fun a e => by (cases e)⟩ (fun a e => by (cases e))⟩
          case measure => simp [intOf]; omega
        · have HCS := (show Hid _ from news_kept ((hcp.kept).alloc (.cells #[] 5)) hcs)
          have HBL := (show Hid _ from hbl)
          have HON := (show Hid _ from bv_one ps[k].2)
          have HM := (show Hid _ from hm)
          generalize ps[k].2 = l at *
          have TK : True := trivial
          clear hcs hbl hal hc hcp hm hp
          go_wp2_with (at_builtin; have _t := TK; refine wpList_append_gen _ rfl (.tmp 26) (.tmp 30) 23 rfl wr.heap.size 5 i5 (.int .u8 0) 1 1 hu23 h5 z0 z1 z2 rfl (by omega) (.slice (some ⟨wr.heap.size, 0, none⟩) 0 0) 0 [] rfl (own_empty wr) (some pa) m cp (bv l) rfl (fun h => by cases h) HBL.out HCS.out HON.out (by unfold maxLen; omega) (by omega) (by simp) ?_; intro v2 w2 ho2 hg2 hn2; obtain ⟨gb, cb, rfl⟩ := own_form ho2 (fun e => by have := hn2.1 e; simp at this); have hk2 : Kept (fun _ => False) wr w2 := ((Kept.refl (fun _ => False) wr).alloc _).grown hg2 (fun j e hj => by simp [Value.ownBlock] at e; omega); have ci2 := (hk2.cell (p := ⟨bI, k, none⟩) lbI id).trans ci; have fi2 := (hk2.row HCP.out.row id).free k; have HO2 := (show Hid (World.ownsRow _ _ _ _ _ _ _) from ho2); have HK2 := (show Hid (Kept _ _ _) from hk2); clear TK _t ho2 hg2 hn2 hk2)
          go_roundw
          case rel =>
            have ho := HO2.out
            rw [Nat.zero_add, List.nil_append] at ho
            have hlt2 := (ho.lt gb rfl).1
            refine ⟨k + 1, qs ++ [((some ⟨gb, 0, none⟩, m, cb), l)], by omega, by go_num, ?_⟩
            have := HPU.out w2 HK2.out (some ⟨gb, 0, none⟩, m, cb) rfl (own_holds ho HM.out) (fun a e => by obtain rfl := Option.some.inj e; show gb ≠ bI; omega)
            exact this
          case measure => simp [intOf]; omega
      · obtain rfl : k = n := by omega
        clear hcp
        go_wp2_with fail
        go_meet
        case rel => exact ⟨qs, HCP.out⟩
  case rest =>
    obtain ⟨qs, hcp⟩ := hcut
    have HCP := (show Hid (Cp _ _ _ _ _ _ _) from hcp)
    clear hcp
    go_wp2_with fail
    go_ret
    exact ⟨bI, qs, rfl, hbI1, HCP.out⟩

theorem copy_nil (w : World) : Calls Yba.prog 7 #[.slice none 0 0] w fun e w' => e = .returned (.slice none 0 0) ∧ w' = w := by
  have hen2 := eqNil22
  go_enter Yba.func7, Yba.ntmps7
  go_wp2_with fail
  go_ret
  exact ⟨rfl, rfl⟩
end Go.Proofs.Ybulkajcc
