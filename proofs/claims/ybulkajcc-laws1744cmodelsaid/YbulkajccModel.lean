import Derived.Test.YbulkajccEnc2
namespace Go.Proofs.Ybulkajcc
open Go.RowKit
open Go.Lib (HoldsBytes PartsAt)
set_option linter.unusedVariables false

/-- What is known of answers that came in. -/
structure AnsIn (w : World) (a : Option Addr) (n c : Nat) (ps : List ((Option Addr × Nat × Nat) × List UInt8)) : Prop where
  len : ps.length = n
  nil : a = none → n = 0 ∧ c = 0
  cell : ∀ ad, a = some ad → ∀ i (h : i < ps.length), w.cell? (ad.add i) = some (encS ps[i].1)
  el : ∀ p ∈ ps, HoldsBytes w (encS p.1) p.2 ∧ (p.1.1 = none → p.1.2.2 = 0)

theorem AnsIn.kept {w w' : World} {a : Option Addr} {n c : Nat} {ps : List ((Option Addr × Nat × Nat) × List UInt8)} (h : AnsIn w a n c ps) (k : Kept (fun _ => False) w w') : AnsIn w' a n c ps :=
  ⟨h.len, h.nil, fun ad e i hi => (k.cell (World.block_lt_of_cell? w _ (h.cell ad e i hi)) id).trans (h.cell ad e i hi), fun p hp => ⟨holds_kept (h.el p hp).1 k (fun _ _ _ _ => id), (h.el p hp).2⟩⟩

theorem AnsIn.at {w : World} {a : Option Addr} {n c : Nat} {ps : List ((Option Addr × Nat × Nat) × List UInt8)} (h : AnsIn w a n c ps) (i : Nat) (hi : i < ps.length) :
    ∃ b off p m cp, a = some ⟨b, off, none⟩ ∧ ps[i].1 = (p, m, cp) ∧ w.cell? ⟨b, off + i, none⟩ = some (.slice p m cp) ∧ ps[i].2.length = m ∧ (p = none → m = 0 ∧ cp = 0) ∧ (bv ps[i].2).length = m * 1 ∧ (∀ ad, p = some ad → ∀ j u, (bv ps[i].2)[j]? = some u → w.cell? (ad.add j) = some u) := by
  rcases a with _ | ⟨b, off, spot⟩
  · have := (h.nil rfl).1; have := h.len; omega
  · have c0 := h.cell _ rfl 0 (by omega)
    have hs : spot = none := by simpa [Addr.add] using World.cell?_spot c0
    subst hs
    have ci := h.cell _ rfl i hi
    obtain ⟨e1, e2⟩ := h.el ps[i] (List.getElem_mem hi)
    obtain ⟨⟨p, m, cp⟩, hq⟩ : ∃ q : Option Addr × Nat × Nat, ps[i].1 = q := ⟨_, rfl⟩
    rw [hq] at ci e1 e2
    obtain ⟨g1, g2, g3⟩ := holds_news e1
    rw [add_lit] at ci
    exact ⟨b, off, _, _, _, rfl, hq, ci, g1, fun e => ⟨by have := g1; rw [g2 e] at this; exact this.symm, e2 e⟩, by rw [bv_length, g1]; simp, g3⟩

theorem keepL_len (ps : List ((Option Addr × Nat × Nat) × List UInt8)) : (keepL ps).length ≤ ps.length := by
  unfold keepL keep; rw [List.length_map]; exact List.length_filter_le _ _
theorem keepL_mem (ps : List ((Option Addr × Nat × Nat) × List UInt8)) (h : ∀ p ∈ ps, p.2.length ≤ 4096) : ∀ l ∈ keepL ps, l.length ≤ 4096 := by
  intro l hl
  obtain ⟨p, hp, rfl⟩ := List.mem_map.1 hl
  exact h p (List.mem_filter.1 hp).1
theorem pre_bound (ps : List ((Option Addr × Nat × Nat) × List UInt8)) (k : Nat) (hn : ps.length ≤ 1024) (h : ∀ p ∈ ps, p.2.length ≤ 4096) : (pre (keepL (ps.take k))).length ≤ 4195329 := by
  have h1 := pre_le (keepL (ps.take k)) (keepL_mem _ fun p hp => h p (List.mem_of_mem_take hp))
  have h2 := keepL_len (ps.take k)
  have h3 := List.length_take_le' k ps
  omega

structure Buf (w wr : World) (v : Value) (ls : List (List UInt8)) : Prop where
  own : wr.ownsRow w.heap.size 5 1 v (pre ls).length (bv (pre ls))
  nil : v = .slice none 0 0 ↔ ls = []
  kept : Kept (fun _ => False) w wr
theorem news_kept {w w' : World} {p : Option Addr} {l : List Value} (k : Kept (fun _ => False) w w') (h : ∀ ad, p = some ad → ∀ j u, l[j]? = some u → w.cell? (ad.add j) = some u) : ∀ ad, p = some ad → ∀ j u, l[j]? = some u → w'.cell? (ad.add j) = some u :=
  fun ad e j u hu => (k.cell (World.block_lt_of_cell? w _ (h ad e j u hu)) id).trans (h ad e j u hu)
theorem lit_news (wr : World) (x : Int) (t : TypeId) : ∀ ad, (some (⟨wr.heap.size, 0, none⟩ : Addr)) = some ad → ∀ j u, [Value.int .u8 x][j]? = some u → (wr.alloc (.cells #[.int .u8 x] t)).cell? (ad.add j) = some u := by
  intro ad e j u hu
  obtain rfl := Option.some.inj e
  exact news_row (rowIs_new wr [.int .u8 x] t) j u hu
theorem kept_grown {w wr wx : World} {v : Value} {n : Nat} {xs : List Value} {o : Obj} (k : Kept (fun _ => False) w wr) (h : wr.ownsRow w.heap.size 5 1 v n xs) (g : (wr.alloc o).grownBy wx v.ownBlock) : Kept (fun _ => False) w wx :=
  (k.alloc o).grown g (fun j e hj => by have := (h.lt j e).1; omega)
theorem kept_grown' {w wr wx : World} {v : Value} {n : Nat} {xs : List Value} (k : Kept (fun _ => False) w wr) (h : wr.ownsRow w.heap.size 5 1 v n xs) (g : wr.grownBy wx v.ownBlock) : Kept (fun _ => False) w wx :=
  k.grown g (fun j e hj => by have := (h.lt j e).1; omega)

set_option maxHeartbeats 4000000 in
theorem model_any (a : Option Addr) (n c : Nat) (ps : List ((Option Addr × Nat × Nat) × List UInt8)) (w : World) (hA : AnsIn w a n c ps) (hn : n ≤ 1024) (hl : ∀ p ∈ ps, p.2.length ≤ 4096) :
    Calls Yba.prog 5 #[.slice a n c] w fun e w' => ((keepL ps = [] ∧ e = .returned (.slice none 0 0)) ∨ (keepL ps ≠ [] ∧ ∃ g cp, e = .returned (.slice (some ⟨g, 0, none⟩) (enc (keepL ps)).length cp) ∧ w'.ownsRow w.heap.size 5 1 (.slice (some ⟨g, 0, none⟩) (enc (keepL ps)).length cp) (enc (keepL ps)).length (bv (enc (keepL ps))))) ∧ Kept (fun _ => False) w w' := by
  obtain ⟨i5, h5, z0, z1, z2⟩ := info_parts Yba.info5
  have hu23 := Yba.underlying23
  have HA := (show Hid (AnsIn _ _ _ _ _) from hA)
  have HL : Hid (ps.length = n) := hA.len
  have HPB := (show Hid _ from fun k => pre_bound ps k (by rw [hA.len]; exact hn) hl)
  have hen := eqNil23
  clear hA hl
  go_enter Yba.func5, Yba.ntmps5
  go_upto_block 0 with fail
  go_cut [3, 4] (fun q f wc => f = .bool (decide (keepL ps = [])) ∧ Buf w wc q (keepL ps))
  case first =>
    go_wp2_with fail
    go_loopw [3, 4, 5] (fun q f p wr => ∃ k : Nat, k ≤ n ∧ f = .bool (decide (keepL (ps.take k) = [])) ∧ p = .int .i64 k ∧ Buf w wr q (keepL (ps.take k))) (fun _ _ p _ => n - (intOf p).toNat)
    case atStart => exact ⟨0, Nat.zero_le _, by simp [keepL, keep], rfl, ⟨by simp [keepL, keep, pre, bv, World.ownsRow], by simp [keepL, keep], Kept.refl _ _⟩⟩
    case round =>
      obtain ⟨k, hk, rfl, rfl, hbuf⟩ := hrel
      by_cases hlt : k < n
      · have hlt' : k < ps.length := by rw [HL.out]; exact hlt
        obtain ⟨b, off, p, m, cp, rfl, hp, hc, hm, hal, hbl, hcs⟩ := HA.out.at k hlt'
        have hc' := (hbuf.kept.cell (p := ⟨b, off + k, none⟩) (World.block_lt_of_cell? w ⟨b, off + k, none⟩ hc) id).trans hc
        have hsn := keepL_snoc ps k hlt'
        rw [hp] at hsn
        have hpb := HPB.out (k + 1)
        have hpb0 := HPB.out k
        have HSN := (show Hid _ from hsn)
        rcases p with _ | ad
        · have e : keepL (ps.take (k + 1)) = keepL (ps.take k) := by rw [hsn]; simp [isNil]
          have HE := (show Hid (keepL (ps.take (k + 1)) = keepL (ps.take k)) from e)
          have HBF := (show Hid (Buf _ _ _ _) from hbuf)
          clear hbuf hsn hcs hal hbl hpb hpb0 HSN hc
          go_wp2_with fail
          go_roundw
          case rel => exact ⟨k + 1, by omega, by rw [HE.out], by go_num, by rw [HE.out]; exact HBF.out⟩
          case measure => simp [intOf]; omega
        · have e : keepL (ps.take (k + 1)) = keepL (ps.take k) ++ [ps[k].2] := by rw [hsn]; simp [isNil]
          rw [e] at hpb
          have HE := (show Hid (keepL (ps.take (k + 1)) = _) from e)
          have HCS := (show Hid _ from hcs)
          have HBL := (show Hid _ from hbl)
          have HON := (show Hid _ from bv_one ps[k].2)
          have HAL : Hid (some ad = none → m = 0 ∧ cp = 0) := fun h => by (cases h)
          generalize ps[k].2 = l at *
          obtain ⟨ls, hls⟩ : ∃ ls, ls = keepL (ps.take k) := ⟨_, rfl⟩
          rw [← hls] at hbuf hpb hpb0 HE ⊢
          have HBF := (show Hid (Buf _ _ _ _) from hbuf)
          have hsz := hbuf.kept.size
          clear hsn HSN hcs hbl hal hls e hc hp
          by_cases h0 : ls = []
          · subst h0
            have hq : u3 = .slice none 0 0 := hbuf.nil.2 rfl
            subst hq
            have HOW : Hid (wr.ownsRow w.heap.size 5 1 (.slice none 0 0) 0 []) := by show World.ownsRow _ _ _ _ _ _ _; have := hbuf.own; simpa [pre, bv] using this
            have hpl : (pre ([] ++ [l])).length = 1 + m := by rw [pre_one]; simp [hm]; omega
            have HPL := (show Hid (pre ([] ++ [l]) = [91] ++ l) from pre_one l)
            rw [hpl] at hpb
            have HPM : Hid ((pre ([] ++ [l])).length = 1 + m) := hpl
            have hde : decide (([] : List (List UInt8)) = []) = true := by simp
            rw [hde]
            have TK : True := trivial
            clear hbuf hpb0 hpl hde
            go_wp2_with (first
              | (at_builtin; have _t := HO2; refine wpList_append_gen _ rfl (.tmp 26) (.tmp 27) 23 rfl w.heap.size 5 i5 (.int .u8 0) 1 1 hu23 h5 z0 z1 z2 rfl (by omega) (.slice (some ⟨g2, 0, none⟩) (0 + 1) c2) (0 + 1) _ rfl HO2.out (some ad) m cp (bv l) rfl HAL.out HBL.out (news_kept HK2.out HCS.out) HON.out (by unfold maxLen; omega) (by omega) HK2.out.size ?_; intro v3 w3 ho3 hg3 hn3; have HO3 := (show Hid (World.ownsRow _ _ _ _ _ _ _) from ho3); have HG3 := (show Hid (World.grownBy _ _ _) from hg3); have HN3 := (show Hid _ from hn3); clear _t ho3 hg3 hn3)
              | (at_builtin; have _t := TK; refine wpList_append_gen _ rfl (.tmp 20) (.tmp 21) 23 rfl w.heap.size 5 i5 (.int .u8 0) 1 1 hu23 h5 z0 z1 z2 rfl (by omega) (.slice none 0 0) 0 [] rfl (HOW.out.alloc _) (some ⟨wr.heap.size, 0, none⟩) 1 1 [.int .u8 91] rfl (fun h => by cases h) rfl (lit_news wr 91 5) (by simp [Value.oneCell']) (by unfold maxLen; omega) (by omega) (by simp; omega) ?_; intro v2 w2 ho2 hg2 hn2; obtain ⟨g2, c2, rfl⟩ := own_form ho2 (fun e => by have := hn2.1 e; simp at this); have HO2 := (show Hid (World.ownsRow _ _ _ _ _ _ _) from ho2); have HK2 := (show Hid (Kept _ _ _) from kept_grown HBF.out.kept HOW.out hg2); clear TK _t ho2 hg2 hn2))
            go_roundw
            case rel =>
              refine ⟨k + 1, by omega, ?_, by go_num, ?_⟩
              · rw [HE.out]; simp
              · rw [HE.out]
                refine ⟨?_, ⟨fun e => ?_, fun e => absurd e (by simp)⟩, kept_grown' HK2.out HO2.out HG3.out⟩
                · rw [HPM.out, HPL.out, bv_append]; exact HO3.out
                · have := (HN3.out.1 e).1; simp at this
            case measure => simp [intOf]; omega
          · have hq : u3 ≠ .slice none 0 0 := fun e => h0 (hbuf.nil.1 e)
            obtain ⟨g1, c1, rfl⟩ := own_form hbuf.own hq
            have HPL := (show Hid _ from pre_snoc ls l h0)
            obtain ⟨L, hL⟩ : ∃ L, L = (pre ls).length := ⟨_, rfl⟩
            have hpl : (pre (ls ++ [l])).length = L + 1 + m := by rw [HPL.out]; simp [hm, hL]; omega
            have hown := hbuf.own
            rw [← hL] at hown hpb0 ⊢
            have HOW := (show Hid (World.ownsRow _ _ _ _ _ _ _) from hown)
            rw [hpl] at hpb
            have HPM : Hid ((pre (ls ++ [l])).length = L + 1 + m) := hpl
            have hde : decide (ls = []) = false := by simp [h0]
            rw [hde]
            have TK : True := trivial
            have H0 := (show Hid (¬ ls = []) from h0)
            clear hbuf hpl hde hown hL hq h0
            go_wp2_with (first
              | (at_builtin; have _t := HO2; refine wpList_append_gen _ rfl (.tmp 26) (.tmp 27) 23 rfl w.heap.size 5 i5 (.int .u8 0) 1 1 hu23 h5 z0 z1 z2 rfl (by omega) (.slice (some ⟨g2, 0, none⟩) (L + 1) c2) (L + 1) _ rfl HO2.out (some ad) m cp (bv l) rfl HAL.out HBL.out (news_kept HK2.out HCS.out) HON.out (by unfold maxLen; omega) (by omega) HK2.out.size ?_; intro v3 w3 ho3 hg3 hn3; have HO3 := (show Hid (World.ownsRow _ _ _ _ _ _ _) from ho3); have HG3 := (show Hid (World.grownBy _ _ _) from hg3); have HN3 := (show Hid _ from hn3); clear _t ho3 hg3 hn3)
              | (at_builtin; have _t := TK; refine wpList_append_gen _ rfl (.tmp 23) (.tmp 24) 23 rfl w.heap.size 5 i5 (.int .u8 0) 1 1 hu23 h5 z0 z1 z2 rfl (by omega) (.slice (some ⟨g1, 0, none⟩) L c1) L _ rfl (HOW.out.alloc _) (some ⟨wr.heap.size, 0, none⟩) 1 1 [.int .u8 44] rfl (fun h => by cases h) rfl (lit_news wr 44 5) (by simp [Value.oneCell']) (by unfold maxLen; omega) (by omega) (by simp; omega) ?_; intro v2 w2 ho2 hg2 hn2; obtain ⟨g2, c2, rfl⟩ := own_form ho2 (fun e => by have := hn2.1 e; simp at this); have HO2 := (show Hid (World.ownsRow _ _ _ _ _ _ _) from ho2); have HK2 := (show Hid (Kept _ _ _) from kept_grown HBF.out.kept HOW.out hg2); clear TK _t ho2 hg2 hn2))
            go_roundw
            case rel =>
              refine ⟨k + 1, by omega, ?_, by go_num, ?_⟩
              · rw [HE.out]; simp
              · rw [HE.out]
                refine ⟨?_, ⟨fun e => ?_, fun e => absurd e (by simp)⟩, kept_grown' HK2.out HO2.out HG3.out⟩
                · rw [HPM.out, HPL.out, bv_append, bv_append]; exact HO3.out
                · have := (HN3.out.1 e).1; simp at this
            case measure => simp [intOf]; omega
      · obtain rfl : k = n := by omega
        have e : ps.take k = ps := List.take_of_length_le (by rw [HL.out]; exact Nat.le_refl _)
        rw [e] at hbuf ⊢
        have HBF := (show Hid (Buf _ _ _ _) from hbuf)
        clear hbuf
        go_wp2_with fail
        go_meet
        case rel => exact ⟨rfl, HBF.out⟩
  case rest =>
    obtain ⟨rfl, hbuf⟩ := hcut
    have hpb := HPB.out ps.length
    rw [List.take_length] at hpb
    have HBF := (show Hid (Buf _ _ _ _) from hbuf)
    by_cases h0 : keepL ps = []
    · have hde : decide (keepL ps = []) = true := by simp [h0]
      rw [hde]
      have H0 := (show Hid (keepL ps = []) from h0)
      clear hbuf h0 hde hpb
      go_wp2_with fail
      go_ret
      exact ⟨.inl ⟨H0.out, rfl⟩, HBF.out.kept⟩
    · have hde : decide (keepL ps = []) = false := by simp [h0]
      rw [hde]
      have hq : u3 ≠ .slice none 0 0 := fun e => h0 (hbuf.nil.1 e)
      obtain ⟨g1, c1, rfl⟩ := own_form hbuf.own hq
      have HEN := (show Hid _ from pre_enc (keepL ps) h0)
      obtain ⟨L, hL⟩ : ∃ L, L = (pre (keepL ps)).length := ⟨_, rfl⟩
      have hown := hbuf.own
      have HLE : Hid ((enc (keepL ps)).length = L + 1) := by show _ = _; rw [← HEN.out]; simp [hL]
      rw [← hL] at hown hpb ⊢
      have HOW := (show Hid (World.ownsRow _ _ _ _ _ _ _) from hown)
      have H0 := (show Hid (¬ keepL ps = []) from h0)
      have hsz := hbuf.kept.size
      have TK : True := trivial
      clear hbuf h0 hde hown hL hq
      go_wp2_with (at_builtin; have _t := TK; refine wpList_append_gen _ rfl _ _ 23 rfl w.heap.size 5 i5 (.int .u8 0) 1 1 hu23 h5 z0 z1 z2 rfl (by omega) (.slice (some ⟨g1, 0, none⟩) L c1) L _ rfl (HOW.out.alloc _) (some ⟨wc.heap.size, 0, none⟩) 1 1 [.int .u8 93] rfl (fun h => by cases h) rfl (lit_news wc 93 5) (by simp [Value.oneCell']) (by unfold maxLen; omega) (by omega) (by simp; omega) ?_; intro v2 w2 ho2 hg2 hn2; obtain ⟨g2, c2, rfl⟩ := own_form ho2 (fun e => by have := hn2.1 e; simp at this); have HO2 := (show Hid (World.ownsRow _ _ _ _ _ _ _) from ho2); have HK2 := (show Hid (Kept _ _ _) from kept_grown HBF.out.kept HOW.out hg2); clear TK _t ho2 hg2 hn2)
      go_ret
      refine ⟨.inr ⟨H0.out, g2, c2, ?_, ?_⟩, HK2.out⟩
      · rw [HLE.out]; rfl
      · rw [HLE.out, ← HEN.out, bv_append]; exact HO2.out
end Go.Proofs.Ybulkajcc
