import Derived.Test.YbulkajboFmtList
import Derived.Test.YbulkajboFmtInv
import Derived.Test.YbulkajboFmtRange
namespace Go.Proofs.YbulkajboFmt
open Go.RowKit
set_option linter.unusedVariables false
attribute [local go_sem ↓] Go.wp_at_zero Go.wp_at_succ

/-- After the first k pairs. -/
def InvK (bA bM bG bV B k : Nat) (ps : List HP) (f : Nat → Option Nat) (Q : List (Nat × Nat)) (v : Value) (w wr : World) : Prop :=
  Inv bA bM bG bV B (2 * k) (startB (ps.take k)) (fun l => knowB (ps.take k) l) f Q v w wr ∧ Q.length ≤ k ∧ (∀ q, q ∈ Q ↔ ∃ h ∈ ps.take k, (h.l, h.c) = q) ∧ (∀ h ∈ ps.take k, (f h.l).isSome = true)

theorem inv_start {w w1 : World} (hs : setIs w1 w.heap.size 0) (hk : Kept (fun _ => False) w w1) (ps : List HP) :
    InvK w.heap.size w1.heap.size (w1.heap.size + 1) (w1.heap.size + 2) (w1.heap.size + 3) 0 ps (fun _ => none) [] (.slice none 0 0) w (((w1.alloc (.map #[] 0)).alloc (.map #[] 0)).alloc (.cells #[.slice none 0 0] 57)) := by
  have hsz := hk.size
  have hlt := hs.lt
  have k1 : Kept (fun _ => False) w1 (((w1.alloc (.map #[] 0)).alloc (.map #[] 0)).alloc (.cells #[.slice none 0 0] 57)) := (((Kept.refl _ w1).alloc _).alloc _).alloc _
  refine ⟨⟨by omega, by omega, by omega, by omega, by omega, by omega, by omega, by omega, by omega, by omega, ⟨by omega, by omega, by omega, by omega⟩, k1.set hs (by simp), ?_, fun l b hl hb => (by cases hb), fun l hl _ => rfl, fun l l' b hl hl' hb _ => (by cases hb), ?_, ?_, ⟨rfl, .inl ⟨rfl, rfl⟩⟩, hk.trans k1, by simp⟩, Nat.le_refl _, fun q => by simp, fun h hh => by simp at hh⟩
  · exact ((knowsAt_made w1).kept ((Kept.refl (fun _ => False) _).alloc _) (by simp)).kept ((Kept.refl (fun _ => False) _).alloc _) (by simp)
  · have := (givenAt_made (w1.alloc (.map #[] 0))).kept ((Kept.refl (fun _ => False) _).alloc (.cells #[.slice none 0 0] 57)) (by simp)
    rw [World.size_alloc] at this
    exact this
  · have := rowIs_new ((w1.alloc (.map #[] 0)).alloc (.map #[] 0)) [.slice none 0 0] 57
    rw [World.size_alloc, World.size_alloc] at this
    exact this

theorem Ybaf.info60 : (Ybaf.prog.info? 60).map (fun i => (i.zero, i.size, i.bytes)) = some (some (.agg #[.int .i64 0, .int .i64 0]), 2, 16) := by kernel_rfl
theorem store_knows_run {w : World} {b n : Nat} {f : Nat → Option Nat} (l s : Nat) (hl : l < 3) (hn : n < maxLen) (h : knowsAt w b n f) :
    ∃ w', (Instr.mapUpdate 55 (.map (some b)) (.int .i64 (l : Int)) (.slice (some ⟨s, 0, none⟩) 1 1)).run Ybaf.prog w = .ok () w' ∧ knowsAt w' b (n + 1) (upd f l s) ∧ Kept (fun k => k = b) w w' := by
  obtain ⟨D, hown, hD⟩ := h
  obtain ⟨w', hr, h1, h2⟩ := hown.update law3 Ybaf.underlying55 hn (key3 l hl) (RK_kv (some s))
  exact ⟨w', hr, ⟨_, h1, hD.put l s hl⟩, (Kept.ofGrown h2).mono (fun k _ e => by simpa using e.symm)⟩

set_option maxRecDepth 100000 in
theorem wpList_isnil (w : World) {ops : Array Oper} {rest : List Oper} {o : Oper} {a : Act} {Q : Exit → Act → World → Prop} (hg : o.guard = none) (x : Operand) (hop : o.op = Op.binOp .eql 53 x (.const (.slice none 0 0)) 53) (fo : Option Nat) (hx : a.eval x = kv fo)
    (hK : wpList Ybaf.prog ops Q rest (a.put o.dst (.bool fo.isNone)) w) : wpList Ybaf.prog ops Q (o :: rest) a w := by
  refine wpList_plain hg fun K hK' => ?_
  have h1 := hK' _ _ hK
  unfold Oper.wp
  cases fo with
  | none =>
    simp only [execOp, hop, hx, kv]
    go_simp
    exact h1
  | some b =>
    simp only [execOp, hop, hx, kv]
    go_simp
    exact h1

theorem new_cells (w : World) (xs : List Value) (t : TypeId) (j : Nat) (x : Value) (h : xs[j]? = some x) : (w.alloc (.cells xs.toArray t)).cell? ⟨w.heap.size, j, none⟩ = some x := by
  rw [(rowIs_new w xs t).cell]; exact h

theorem quorums_some {bA bM bG bV : Nat} {ps : List HP} {f : Nat → Option Nat} {Q : List (Nat × Nat)} {v : Value} {w wc : World} (hI : InvK bA bM bG bV (bV + 1) ps.length ps f Q v w wc) (h : ∃ x, x ∈ ps) :
    ∃ g capq, v = .slice (some ⟨g, 0, none⟩) Q.length capq ∧ pairsAt wc g Q ∧ g < wc.heap.size ∧ bV + 1 ≤ g ∧ ∀ l b, l < 3 → f l = some b → b ≠ g := by
  obtain ⟨x, hx⟩ := h
  have hQ : (x.l, x.c) ∈ Q := (hI.2.2.1 _).2 ⟨x, by rw [List.take_length]; exact hx, rfl⟩
  have hne : Q.length ≠ 0 := fun e => by rw [List.eq_nil_of_length_eq_zero e] at hQ; cases hQ
  obtain ⟨g, capq, rfl⟩ := own_form hI.1.ow (fun e => by
    rcases hI.1.ow.2 with ⟨_, h0⟩ | ⟨g, c, cur, h0, _⟩
    · exact hne h0
    · rw [e] at h0; cases h0)
  obtain ⟨h1, h2⟩ := own_pairs hI.1.ow
  exact ⟨g, capq, rfl, h1, h2, (hI.1.own_hi rfl).1, fun l b hl hb e => (hI.1.st l b hl hb).2.2 (by rw [e]; rfl)⟩

/-- What stays as it is behind the sort. -/
structure Fix (bM bV bS bA N n g m capq : Nat) (ps : List HP) (f : Nat → Option Nat) (Q : List (Nat × Nat)) (w x : World) : Prop where
  kn : knowsAt x bM N f
  st : ∀ l b, l < 3 → f l = some b → setIs x b (knowB ps l)
  pr : pairsAt x g Q
  lg : g < x.heap.size
  cv : x.cell? ⟨bV, 0, none⟩ = some (.slice (some ⟨g, 0, none⟩) m capq)
  cn : x.cell? ⟨bS, 0, none⟩ = some (.int .i64 n)
  kp : Kept (fun _ => False) w x
theorem Fix.kept {bM bV bS bA N n g m capq : Nat} {ps : List HP} {f : Nat → Option Nat} {Q : List (Nat × Nat)} {w x x' : World} (h : Fix bM bV bS bA N n g m capq ps f Q w x) (k : Kept (fun _ => False) x x') : Fix bM bV bS bA N n g m capq ps f Q w x' :=
  ⟨h.kn.kept k (by simp), fun l b hl hb => k.set (h.st l b hl hb) (by simp), pairsAt_kept h.pr k h.lg (by simp), Nat.lt_of_lt_of_le h.lg k.size, (k.cell (World.block_lt_of_cell? x _ h.cv) (by simp)).trans h.cv, (k.cell (World.block_lt_of_cell? x _ h.cn) (by simp)).trans h.cn, h.kp.trans k⟩

/-- Whether the quorums i and j can be met apart. -/
def AB (n : Nat) (ps : List HP) (Q : List (Nat × Nat)) (i j : Nat) : Bool := Plain.apartB n (knowB ps (Q.getD i (0, 0)).1) (Q.getD i (0, 0)).2 (knowB ps (Q.getD j (0, 0)).1) (Q.getD j (0, 0)).2
theorem quorum_at {n : Nat} {ps : List HP} {f : Nat → Option Nat} {Q Q' : List (Nat × Nat)} (hok : ∀ h ∈ ps, okHP n h) (hm : ∀ q, q ∈ Q ↔ ∃ h ∈ ps, (h.l, h.c) = q) (hp : Q'.Perm Q) (hf : ∀ h ∈ ps, (f h.l).isSome = true) (t : Nat) (ht : t < Q.length) :
    ∃ l c b, Q'.getD t (0, 0) = (l, c) ∧ l < 3 ∧ c ≤ n + 1 ∧ f l = some b := by
  have hl : t < Q'.length := by rw [hp.length_eq]; exact ht
  have hmem : Q'.getD t (0, 0) ∈ Q := by
    rw [List.getD_eq_getElem?_getD, List.getElem?_eq_getElem hl]
    exact hp.mem_iff.1 (List.getElem_mem hl)
  obtain ⟨h, hh, e⟩ := (hm _).1 hmem
  obtain ⟨b, hb⟩ := Option.isSome_iff_exists.1 (hf h hh)
  have := hok h hh
  exact ⟨h.l, h.c, b, e.symm, this.2.2.1, this.2.2.2.2, hb⟩

theorem quorum_mem {ps : List HP} {Q Q' : List (Nat × Nat)} (hm : ∀ q, q ∈ Q ↔ ∃ h ∈ ps, (h.l, h.c) = q) (hp : Q'.Perm Q) {t : Nat} (ht : t < Q.length) : ∃ h ∈ ps, Q'.getD t (0, 0) = (h.l, h.c) := by
  have hl : t < Q'.length := by rw [hp.length_eq]; exact ht
  have hmem : Q'.getD t (0, 0) ∈ Q := by
    rw [List.getD_eq_getElem?_getD, List.getElem?_eq_getElem hl]
    exact hp.mem_iff.1 (List.getElem_mem hl)
  obtain ⟨h, hh, e⟩ := (hm _).1 hmem
  exact ⟨h, hh, e.symm⟩
theorem not_good {n : Nat} {cr : Nat → Bool} {ps : List HP} {Q Q' : List (Nat × Nat)} (hm : ∀ q, q ∈ Q ↔ ∃ h ∈ ps, (h.l, h.c) = q) (hp : Q'.Perm Q) {i j : Nat} (hi : i < Q.length) (hj : j < Q.length) (h : AB n ps Q' i j = true) : ¬ Good n cr ps := by
  obtain ⟨a, ha, ea⟩ := quorum_mem hm hp hi
  obtain ⟨b, hb, eb⟩ := quorum_mem hm hp hj
  unfold AB at h
  rw [ea, eb] at h
  intro hG
  exact hG.2.1 a ha b hb ((Plain.apart_iff _ _ _ _ _).1 h)
theorem good_two {n : Nat} {ps : List HP} {Q Q' : List (Nat × Nat)} (hm : ∀ q, q ∈ Q ↔ ∃ h ∈ ps, (h.l, h.c) = q) (hp : Q'.Perm Q) (h : ∀ i j, i ≤ j → j < Q.length → AB n ps Q' i j = false) :
    ∀ a ∈ ps, ∀ b ∈ ps, ¬ Plain.Bad n (knowB ps a.l) a.c (knowB ps b.l) b.c := by
  have idx : ∀ a ∈ ps, ∃ i, i < Q.length ∧ Q'.getD i (0, 0) = (a.l, a.c) := by
    intro a ha
    have : (a.l, a.c) ∈ Q' := hp.mem_iff.2 ((hm _).2 ⟨a, ha, rfl⟩)
    obtain ⟨i, hi, e⟩ := List.getElem_of_mem this
    exact ⟨i, by rw [← hp.length_eq]; exact hi, by rw [List.getD_eq_getElem?_getD, List.getElem?_eq_getElem hi]; exact e⟩
  intro a ha b hb hbad
  obtain ⟨i, hi, ei⟩ := idx a ha
  obtain ⟨j, hj, ej⟩ := idx b hb
  rcases Nat.le_total i j with hij | hij
  · have := h i j hij hj
    unfold AB at this
    rw [ei, ej, (Plain.apart_iff _ _ _ _ _).2 hbad] at this
    cases this
  · have := h j i hij hi
    unfold AB at this
    rw [ei, ej, (Plain.apart_iff _ _ _ _ _).2 hbad.symm] at this
    cases this

theorem live_ok {n : Nat} {cr : Nat → Bool} {ps : List HP} {h : Nat → Nat} (h9 : n ≤ 9) (hh : ∀ x ∈ ps, h x.l = cntB n cr ps x.l) (p : Nat) :
    (liveB h ps).testBit p = true ↔ ∃ x ∈ ps, x.p = p ∧ x.c ≤ Plain.cnt n (fun q => (knowB ps x.l).testBit q && !cr q) := by
  rw [liveB_bit]
  constructor
  · rintro ⟨x, hx, h1, h2⟩
    rw [hh x hx, cntB_eq n h9] at h1
    exact ⟨x, hx, h2, h1⟩
  · rintro ⟨x, hx, h1, h2⟩
    rw [← cntB_eq n h9, ← hh x hx] at h2
    exact ⟨x, hx, h2, h1⟩

/-- The two quorums at hand stay where they are. -/
theorem two_kept {wA w w' : World} {b1 b2 : Nat} {x1 y1 x2 y2 : Value} (h : Kept (fun _ => False) wA w ∧ w.cell? ⟨b1, 0, none⟩ = some x1 ∧ w.cell? ⟨b1, 1, none⟩ = some y1 ∧ w.cell? ⟨b2, 0, none⟩ = some x2 ∧ w.cell? ⟨b2, 1, none⟩ = some y2) (k : Kept (fun _ => False) w w') :
    Kept (fun _ => False) wA w' ∧ w'.cell? ⟨b1, 0, none⟩ = some x1 ∧ w'.cell? ⟨b1, 1, none⟩ = some y1 ∧ w'.cell? ⟨b2, 0, none⟩ = some x2 ∧ w'.cell? ⟨b2, 1, none⟩ = some y2 :=
  ⟨h.1.trans k, (k.cell (World.block_lt_of_cell? w _ h.2.1) (by simp)).trans h.2.1, (k.cell (World.block_lt_of_cell? w _ h.2.2.1) (by simp)).trans h.2.2.1, (k.cell (World.block_lt_of_cell? w _ h.2.2.2.1) (by simp)).trans h.2.2.2.1, (k.cell (World.block_lt_of_cell? w _ h.2.2.2.2) (by simp)).trans h.2.2.2.2⟩
theorem two_alloc {wA w : World} {b1 b2 : Nat} {x1 y1 x2 y2 : Value} {o : Obj} (h : Kept (fun _ => False) wA w ∧ w.cell? ⟨b1, 0, none⟩ = some x1 ∧ w.cell? ⟨b1, 1, none⟩ = some y1 ∧ w.cell? ⟨b2, 0, none⟩ = some x2 ∧ w.cell? ⟨b2, 1, none⟩ = some y2) :
    Kept (fun _ => False) wA (w.alloc o) ∧ (w.alloc o).cell? ⟨b1, 0, none⟩ = some x1 ∧ (w.alloc o).cell? ⟨b1, 1, none⟩ = some y1 ∧ (w.alloc o).cell? ⟨b2, 0, none⟩ = some x2 ∧ (w.alloc o).cell? ⟨b2, 1, none⟩ = some y2 := two_kept h ((Kept.refl _ _).alloc _)
theorem two_drew {wA w : World} {b1 b2 : Nat} {x1 y1 x2 y2 : Value} (h : Kept (fun _ => False) wA w ∧ w.cell? ⟨b1, 0, none⟩ = some x1 ∧ w.cell? ⟨b1, 1, none⟩ = some y1 ∧ w.cell? ⟨b2, 0, none⟩ = some x2 ∧ w.cell? ⟨b2, 1, none⟩ = some y2) :
    Kept (fun _ => False) wA w.drew ∧ w.drew.cell? ⟨b1, 0, none⟩ = some x1 ∧ w.drew.cell? ⟨b1, 1, none⟩ = some y1 ∧ w.drew.cell? ⟨b2, 0, none⟩ = some x2 ∧ w.drew.cell? ⟨b2, 1, none⟩ = some y2 := two_kept h ((Kept.refl _ _).drew)
theorem two_kept' {wA w w' : World} {b1 b2 : Nat} {x1 y1 x2 y2 : Value} (k : Kept (fun _ => False) w w') (h : Kept (fun _ => False) wA w ∧ w.cell? ⟨b1, 0, none⟩ = some x1 ∧ w.cell? ⟨b1, 1, none⟩ = some y1 ∧ w.cell? ⟨b2, 0, none⟩ = some x2 ∧ w.cell? ⟨b2, 1, none⟩ = some y2) :
    Kept (fun _ => False) wA w' ∧ w'.cell? ⟨b1, 0, none⟩ = some x1 ∧ w'.cell? ⟨b1, 1, none⟩ = some y1 ∧ w'.cell? ⟨b2, 0, none⟩ = some x2 ∧ w'.cell? ⟨b2, 1, none⟩ = some y2 := two_kept h k
theorem list_call {wA : World} {B : Nat} {v : Value} {L : List Nat} (hL : listIs wA B v L) (hn : L.length ≤ 100) (hS : Short wA) (w' : World) (hk : Kept (fun _ => False) wA w') :
    Calls Ybaf.prog 18 #[v] w' fun e w'' => (∃ s, e = .returned (.string s)) ∧ Kept (fun _ => False) w' w'' :=
  list_any v B L w' ⟨ownsRow_kept hL.1 hk (fun j h => h.elim), hL.2⟩ hn (hS.kept hk)

/-- Within a round: the pair lies in block bH besides. -/
def Mid (bA bM bG bV B k : Nat) (S : Nat) (Kf : Nat → Nat) (f : Nat → Option Nat) (Q : List (Nat × Nat)) (v : Value) (w : World) (bH p wv l c : Nat) (wc : World) : Prop :=
  Inv bA bM bG bV B k S Kf f Q v w wc ∧ rowIs wc bH 35 [.int .i64 (p : Int), .int .i64 (wv : Int), .int .i64 (l : Int), .int .i64 (c : Int)] ∧ (∀ x b, x < 3 → f x = some b → b ≠ bH) ∧ B ≤ bH

theorem know_step {ps : List HP} {k l p : Nat} (h : ∀ x, knowB (ps.take (k + 1)) x = if l = x then knowB (ps.take k) x ||| 2 ^ p else knowB (ps.take k) x) :
    updN (fun l => knowB (ps.take k) l) l (knowB (ps.take k) l ||| 2 ^ p) = fun l => knowB (ps.take (k + 1)) l := by
  funext x
  rw [h]
  unfold updN
  by_cases e : x = l
  · subst e; simp
  · rw [if_neg e, if_neg (fun e' => e e'.symm)]

theorem given_step {ps : List HP} {k l c p wv : Nat} {Q Q' : List (Nat × Nat)} (h : ps.take (k + 1) = ps.take k ++ [⟨p, wv, l, c⟩]) (hq : ∀ q, q ∈ Q ↔ ∃ h ∈ ps.take k, (h.l, h.c) = q) (hQ : ∀ q, q ∈ Q' ↔ q ∈ Q ∨ q = (l, c)) (q : Nat × Nat) :
    q ∈ Q' ↔ ∃ h ∈ ps.take (k + 1), (h.l, h.c) = q := by
  rw [hQ, hq, h]
  constructor
  · rintro (⟨x, hx, e⟩ | e)
    · exact ⟨x, by simp [hx], e⟩
    · exact ⟨⟨p, wv, l, c⟩, by simp, e.symm⟩
  · rintro ⟨x, hx, e⟩
    rcases List.mem_append.1 hx with hx | hx
    · exact .inl ⟨x, hx, e⟩
    · rw [List.mem_singleton.1 hx] at e
      exact .inr e.symm

theorem some_step {ps : List HP} {k l c p wv b : Nat} {f f' : Nat → Option Nat} (h : ps.take (k + 1) = ps.take k ++ [⟨p, wv, l, c⟩]) (hf : ∀ h ∈ ps.take k, (f h.l).isSome = true) (hff : ∀ x, (f x).isSome = true → (f' x).isSome = true) (hl : f' l = some b) :
    ∀ h ∈ ps.take (k + 1), (f' h.l).isSome = true := by
  intro x hx
  rw [h] at hx
  rcases List.mem_append.1 hx with hx | hx
  · exact hff _ (hf x hx)
  · rw [List.mem_singleton.1 hx]
    show (f' l).isSome = true
    rw [hl]; rfl

set_option maxRecDepth 100000 in
set_option maxHeartbeats 16000000 in
theorem check_any (n bS bC : Nat) (al : Option Addr) (cap : Nat) (ps : List HP) (cr : Nat → Bool) (h1 : 1 ≤ n) (h9 : n ≤ 9) (hlen : ps.length ≤ 400) (hok : ∀ h ∈ ps, okHP n h) (w : World)
    (cn : w.cell? ⟨bS, 0, none⟩ = some (.int .i64 n)) (cc : w.cell? ⟨bS, 1, none⟩ = some (.slice (some ⟨bC, 0, none⟩) n n)) (hcr : crashAt w bC n cr) (hSh : Short w) (hps : heldAt w al ps) :
    Calls Ybaf.prog 8 #[.pointer (some ⟨bS, 0, none⟩), .slice al ps.length cap] w fun e w' =>
      ((e = .returned .nilIface ∧ Good n cr ps) ∨ (∃ ad, e = .returned (.iface 100 (.pointer (some ad))) ∧ ¬ Good n cr ps)) ∧ Kept (fun _ => False) w w' := by
  have hmm := @run_makeMap Ybaf.prog
  obtain ⟨i0, hi, hz0, hz1, hz2⟩ := info_parts Ybaf.info60
  have hu57 := Ybaf.underlying57
  have HPS := (show Hid (heldAt _ _ _) from hps)
  have HOK := (show Hid (∀ h ∈ ps, okHP n h) from hok)
  have lbS : bS < w.heap.size := World.block_lt_of_cell? w _ cn
  have HCR := (show Hid (crashAt _ _ _ _) from hcr)
  have HSH := (show Hid (Short _) from hSh)
  have HCC := (show Hid (_ = _) from cc)
  clear hps hok hcr hSh cc
  go_enter Ybaf.func8, Ybaf.ntmps8
  go_upto_block 0 with (go_at_call 11; refine Calls.mono (set_new n h1 h9 _) ?_; rintro e w1 ⟨rfl, hs, hk⟩; have I0 := (show Hid (InvK _ _ _ _ _ _ _ _ _ _ _ _) from inv_start hs hk ps); have hsz1 := hk.size; clear hs hk)
  obtain ⟨bM, hbM⟩ : ∃ b, w1.heap.size = b := ⟨_, rfl⟩
  obtain ⟨bG, hbG⟩ : ∃ b, bM + 1 = b := ⟨_, rfl⟩
  obtain ⟨bV, hbV⟩ : ∃ b, bG + 1 = b := ⟨_, rfl⟩
  obtain ⟨bA, hbA⟩ : ∃ b, w.heap.size = b := ⟨_, rfl⟩
  obtain ⟨w4, hw4⟩ : ∃ w4, ((w1.alloc (Obj.map #[] 0)).alloc (Obj.map #[] 0)).alloc (Obj.cells #[Value.slice none 0 0] 57) = w4 := ⟨_, rfl⟩
  have hI := (show InvK w.heap.size w1.heap.size (w1.heap.size + 1) (w1.heap.size + 1 + 1) (w1.heap.size + 1 + 1 + 1) 0 _ _ _ _ _ _ from I0.out)
  rw [hw4, hbM, hbG, hbV, hbA] at *
  have I1 := (show Hid (InvK _ _ _ _ _ _ _ _ _ _ _ _) from hI)
  clear hI I0 hbM hbG hbV hbA hw4 hsz1
  go_cut [42] (fun q wc => ∃ f Q v, InvK bA bM bG bV (bV + 1) ps.length ps f Q v w wc)
  case first =>
    go_wp2_with fail
    go_loopw [42] (fun q wr => ∃ k f Q v, k ≤ ps.length ∧ q = .int .i64 (k : Nat) ∧ InvK bA bM bG bV (bV + 1) k ps f Q v w wr) (fun q _ => ps.length - (intOf q).toNat)
    case atStart => exact ⟨0, _, _, _, by omega, rfl, I1.out⟩
    case round =>
      clear I1
      obtain ⟨k, f, Q, v, hk, rfl, hI⟩ := hrel
      have I1 := (show Hid (InvK _ _ _ _ _ _ _ _ _ _ _ _) from hI)
      clear hI
      by_cases hlt : k < ps.length
      · obtain ⟨q1, q2, q3, q4, q5⟩ := HOK.out _ (List.getElem_mem hlt)
        obtain ⟨g, rfl, hg, c0, c1, c2, c3⟩ := (HPS.out.kept I1.out.1.kp (fun _ _ => by simp)) k hlt
        obtain ⟨S, hS⟩ : ∃ S, S = startB (ps.take (k + 1)) := ⟨_, rfl⟩
        have HS1 := (show Hid (_ = _) from hS.trans (startB_succ ps k hlt))
        have HK1 := (show Hid (∀ l, _ = _) from fun l => knowB_succ ps k l hlt)
        have HTK := (show Hid (_ = _) from take_snoc ps k hlt)
        have hS0 : startB (ps.take k) < 512 := startB_lt h9 (fun h hh => HOK.out h (List.mem_of_mem_take hh))
        have hK0 : ∀ l, knowB (ps.take k) l < 512 := fun l => knowB_lt h9 (fun h hh => HOK.out h (List.mem_of_mem_take hh)) l
        obtain ⟨hh, hhe⟩ : ∃ hh, ps[k] = hh := ⟨_, rfl⟩
        rw [hhe] at q1 q2 q3 q4 q5 c0 c1 c2 c3 HS1 HK1 HTK
        clear hhe
        obtain ⟨p, wv, l, c⟩ := hh
        dsimp only at q1 q2 q3 q4 q5 c0 c1 c2 c3 HS1 HK1 HTK
        have hp9 : p < 9 := by omega
        obtain ⟨bH, hbH⟩ : ∃ b, wr.heap.size = b := ⟨_, rfl⟩
        have M0 := (show Hid (Mid bA bM bG bV (bV + 1) (2 * k) (startB (ps.take k)) (fun l => knowB (ps.take k) l) f Q v w bH p wv l c (wr.alloc (.cells #[.int .i64 (p : Int), .int .i64 (wv : Int), .int .i64 (l : Int), .int .i64 (c : Int)] 35))) from
          ⟨I1.out.1.kept ((Kept.refl (fun _ => False) wr).alloc _) (fun _ h => h.elim), by rw [← hbH]; exact rowIs_new _ _ _, fun x b hx hb => by have := (I1.out.1.st x b hx hb).1.lt; omega, by rw [← hbH]; exact I1.out.1.sz⟩)
        have HQ := (show Hid _ from I1.out.2)
        have hkd : decide ((k : Int) < (ps.length : Int)) = true := by simp; omega
        go_upto_if 48 with fail
        have HSS := (show Hid (_ = _) from hS)
        clear c0 c1 c2 c3 hS
        go_cut [48] (fun _ wc => Mid bA bM bG bV (bV + 1) (2 * k) S (fun l => knowB (ps.take k) l) f Q v w bH p wv l c wc)
        case first =>
          have d0 : (wr.alloc (.cells #[.int .i64 (p : Int), .int .i64 (wv : Int), .int .i64 (l : Int), .int .i64 (c : Int)] 35)).cell? ⟨bH, 0, none⟩ = some (.int .i64 (p : Int)) := by rw [M0.out.2.1.cell]; rfl
          obtain ⟨wq, hwq⟩ : ∃ wq, wr.alloc (.cells #[.int .i64 (p : Int), .int .i64 (wv : Int), .int .i64 (l : Int), .int .i64 (c : Int)] 35) = wq := ⟨_, rfl⟩
          rw [hwq] at M0 d0 ⊢
          clear hwq I1
          by_cases hw0 : wv = 0
          · subst hw0
            go_wp2_with (go_at_call 12; refine Calls.mono (set_add bA 1 p _ hp9 hS0 _ (by exact M0.out.1.sA)) ?_; rintro e w5 ⟨rfl, hs5, hk5⟩; have HS5 := (show Hid (setIs _ _ _) from hs5); have HK5 := (show Hid (Kept _ _ _) from hk5); clear hs5 hk5)
            go_meet
            have e1 : S = startB (ps.take k) ||| 2 ^ p := by rw [HS1.out]; simp
            rw [e1]
            exact ⟨M0.out.1.addA HS5.out HK5.out, HK5.out.row M0.out.2.1 (by have := M0.out.1.lA; have := M0.out.2.2.2; omega), M0.out.2.2⟩
          · have hw1 : ((wv : Int) == 0) = false := by simp; omega
            go_wp2_with fail
            go_meet
            have e1 : S = startB (ps.take k) := by rw [HS1.out, if_neg hw0]
            rw [e1]
            exact M0.out
        case rest =>
          clear M0 hbH I1 HS1 hS0
          have M1 := (show Hid (Mid _ _ _ _ _ _ _ _ _ _ _ _ _ _ _ _ _ _) from hcut)
          have d0 : wc.cell? ⟨bH, 0, none⟩ = some (.int .i64 (p : Int)) := by rw [hcut.2.1.cell]; rfl
          have d2 : wc.cell? ⟨bH, 2, none⟩ = some (.int .i64 (l : Int)) := by rw [hcut.2.1.cell]; rfl
          have d3 : wc.cell? ⟨bH, 3, none⟩ = some (.int .i64 (c : Int)) := by rw [hcut.2.1.cell]; rfl
          have n0 : wc.cell? ⟨bS, 0, none⟩ = some (.int .i64 n) := (hcut.1.kp.cell (p := ⟨bS, 0, none⟩) lbS (by simp)).trans cn
          have lH : bH < wc.heap.size := hcut.2.1.lt
          have lS : bS < wc.heap.size := Nat.lt_of_lt_of_le lbS hcut.1.kp.size
          clear hcut
          obtain ⟨fo, hfo⟩ : ∃ fo, f l = fo := ⟨_, rfl⟩
          have HFO := (show Hid (_ = _) from hfo)
          clear hfo
          have TK1 : True := trivial
          go_upto_if 57 with (first
            | (at_lookup; have _t := TK1; refine wpList_look_knows _ rfl _ _ rfl bM (2 * k) f l q3 rfl rfl (M1.out.1.kn) ?_; rw [HFO.out]; clear _t TK1; have TK2 : True := trivial)
            | (have _t := TK2; refine wpList_isnil _ rfl _ rfl fo rfl ?_; clear _t TK2))
          go_frame
          go_cut [57] (fun _ wx => ∃ f' b, f' l = some b ∧ (∀ x, (f x).isSome = true → (f' x).isSome = true) ∧ Mid bA bM bG bV (bV + 1) (2 * k + 1) S (fun l => knowB (ps.take k) l) f' Q v w bH p wv l c wx)
          case first =>
            cases fo with
            | none =>
              go_wp2_with fail
              go_region_held3 (fun w' => w'.cell? ⟨bH, 2, none⟩ = some (.int .i64 (l : Int)) ∧ w'.cell? ⟨bS, 0, none⟩ = some (.int .i64 n)) (go_keep)
                ((go_at_call 11; refine Calls.mono (set_new n h1 h9 _) ?_; rintro e w5 ⟨rfl, hs5, hk5⟩; have y1 := (hk5.cell (p := ⟨bH, 2, none⟩) lH (by simp)).trans d2; have y2 := (hk5.cell (p := ⟨bS, 0, none⟩) lS (by simp)).trans n0; have HS5 := (show Hid (setIs w5 wc.heap.size 0) from hs5); have HK5 := (show Hid (Kept (fun _ => False) wc w5) from ((Kept.refl _ wc).drew).trans hk5); clear hs5 hk5; obtain ⟨w6, hrun6, hkn6, hk6⟩ := store_knows_run l wc.heap.size q3 (by unfold maxLen; omega) (M1.out.1.kn.kept HK5.out (by simp)); have y3 := (hk6.cell (p := ⟨bH, 2, none⟩) (Nat.lt_of_lt_of_le lH HK5.out.size) (show ¬ bH = bM by have := M1.out.1.lM; have := M1.out.2.2.2; omega)).trans y1; have y4 := (hk6.cell (p := ⟨bS, 0, none⟩) (Nat.lt_of_lt_of_le lS HK5.out.size) (show ¬ bS = bM by have := M1.out.1.w0.2.1; omega)).trans y2; have HKN6 := (show Hid (knowsAt _ _ _ _) from hkn6); have HK6 := (show Hid (Kept _ _ _) from hk6); clear hkn6 hk6))
              go_wp2_with fail
              go_meet
              refine ⟨upd f l wc.heap.size, wc.heap.size, by simp [upd], fun x hx => ?_, M1.out.1.newL q3 HFO.out rfl HS5.out HK5.out HKN6.out HK6.out, HK6.out.row (HK5.out.row M1.out.2.1 (by simp)) (show ¬ bH = bM by have := M1.out.1.lM; have := M1.out.2.2.2; omega), fun x b hx hb => ?_, M1.out.2.2.2⟩
              · unfold upd; split
                · rfl
                · exact hx
              · unfold upd at hb
                split at hb
                · cases hb; omega
                · exact M1.out.2.2.1 x b hx hb
            | some b =>
              go_wp2_with fail
              go_meet
              exact ⟨f, b, HFO.out, fun _ h => h, M1.out.1.mono (by omega), M1.out.2⟩
          case rest =>
            obtain ⟨f', b, hfb, hff, hM⟩ := hcut
            have M2 := (show Hid (Mid _ _ _ _ _ _ _ _ _ _ _ _ _ _ _ _ _ _) from hM)
            have HFB := (show Hid (_ = _) from hfb)
            have HFF := (show Hid (∀ x, _ → _) from hff)
            have d0 : wc.cell? ⟨bH, 0, none⟩ = some (.int .i64 (p : Int)) := by rw [hM.2.1.cell]; rfl
            have d2 : wc.cell? ⟨bH, 2, none⟩ = some (.int .i64 (l : Int)) := by rw [hM.2.1.cell]; rfl
            have HSB := (show Hid (setIs _ _ _) from (hM.1.st l b q3 hfb).1)
            have hKl : knowB (ps.take k) l < 512 := hK0 l
            clear hM hfb hff HFO M1
            have TK1 : True := trivial
            have TK3 : True := trivial
            by_cases hin : (l, c) ∈ Q
            · have hdn : decide ((l, c) ∈ Q) = true := by simp [hin]
              go_wp2_with (first
                | (at_lookup; have _t := TK1; refine wpList_look_knows _ rfl _ _ rfl bM (2 * k + 1) f' l q3 rfl rfl (M2.out.1.kn) ?_; rw [HFB.out]; show wpList _ _ _ _ (Act.put _ _ (.slice (some ⟨b, 0, none⟩) 1 1)) _; clear _t TK1)
                | (go_at_call 12; refine Calls.mono (set_add b 1 p _ hp9 hKl _ (by exact HSB.out)) ?_; rintro e w5 ⟨rfl, hs5, hk5⟩; have HS5 := (show Hid (setIs _ _ _) from hs5); have HK5 := (show Hid (Kept _ _ _) from hk5); have M3 := (show Hid (Inv _ _ _ _ _ _ _ _ _ _ _ _ _) from M2.out.1.addL q3 HFB.out hs5 hk5); have e2 : w5.cell? ⟨bH, 2, none⟩ = some (.int .i64 (l : Int)) := (hk5.cell (p := ⟨bH, 2, none⟩) M2.out.2.1.lt (show ¬ bH = b from fun e => M2.out.2.2.1 l b q3 HFB.out e.symm)).trans (by rw [M2.out.2.1.cell]; rfl); have e3 : w5.cell? ⟨bH, 3, none⟩ = some (.int .i64 (c : Int)) := (hk5.cell (p := ⟨bH, 3, none⟩) M2.out.2.1.lt (show ¬ bH = b from fun e => M2.out.2.2.1 l b q3 HFB.out e.symm)).trans (by rw [M2.out.2.1.cell]; rfl); clear hs5 hk5)
                | (at_lookup; have _t := TK3; have _t2 := M3; refine wpList_look_given _ rfl _ _ rfl bG (2 * k + 1) Q l c q3 (by omega) rfl rfl (M3.out.gv.kept ((Kept.refl (fun _ => False) _).alloc _) (by simp)) true hdn ?_; clear _t TK3 _t2))
              go_roundw
              case rel =>
                refine ⟨k + 1, f', Q, v, by omega, by go_num, ?_, ?_, fun q => ?_, fun h hh => ?_⟩
                · have hG := (M3.out.kept ((Kept.refl (fun _ => False) w5).alloc (.cells #[.int .i64 (l : Int), .int .i64 (c : Int)] 60)) (fun _ h => h.elim)).mono (show 2 * k + 1 ≤ 2 * (k + 1) by omega)
                  have eK : updN (fun l => knowB (ps.take k) l) l (knowB (ps.take k) l ||| 2 ^ p) = fun l => knowB (ps.take (k + 1)) l := know_step HK1.out
                  rw [eK] at hG
                  rw [← HSS.out]
                  exact hG
                · have := HQ.out.1; omega
                · exact given_step HTK.out HQ.out.2.1 (fun q => ⟨.inl, fun h => h.elim id (fun e => e ▸ hin)⟩) q
                · exact some_step HTK.out HQ.out.2.2 HFF.out HFB.out h hh
              case measure => go_light; simp [intOf]; omega
            · have hdn : decide ((l, c) ∈ Q) = false := by simp [hin]
              go_wp2_with (first
                | (at_lookup; have _t := TK1; refine wpList_look_knows _ rfl _ _ rfl bM (2 * k + 1) f' l q3 rfl rfl (M2.out.1.kn) ?_; rw [HFB.out]; show wpList _ _ _ _ (Act.put _ _ (.slice (some ⟨b, 0, none⟩) 1 1)) _; clear _t TK1)
                | (go_at_call 12; refine Calls.mono (set_add b 1 p _ hp9 hKl _ (by exact HSB.out)) ?_; rintro e w5 ⟨rfl, hs5, hk5⟩; have HS5 := (show Hid (setIs _ _ _) from hs5); have HK5 := (show Hid (Kept _ _ _) from hk5); have M3 := (show Hid (Inv _ _ _ _ _ _ _ _ _ _ _ _ _) from M2.out.1.addL q3 HFB.out hs5 hk5); have e2 : w5.cell? ⟨bH, 2, none⟩ = some (.int .i64 (l : Int)) := (hk5.cell (p := ⟨bH, 2, none⟩) M2.out.2.1.lt (show ¬ bH = b from fun e => M2.out.2.2.1 l b q3 HFB.out e.symm)).trans (by rw [M2.out.2.1.cell]; rfl); have e3 : w5.cell? ⟨bH, 3, none⟩ = some (.int .i64 (c : Int)) := (hk5.cell (p := ⟨bH, 3, none⟩) M2.out.2.1.lt (show ¬ bH = b from fun e => M2.out.2.2.1 l b q3 HFB.out e.symm)).trans (by rw [M2.out.2.1.cell]; rfl); clear hs5 hk5)
                | (at_lookup; have _t := TK3; have _t2 := M3; refine wpList_look_given _ rfl _ _ rfl bG (2 * k + 1) Q l c q3 (by omega) rfl rfl (M3.out.gv.kept ((Kept.refl (fun _ => False) _).alloc _) (by simp)) false hdn ?_; clear _t TK3 _t2)
                | (at_mapUpdate; refine wpList_store_given _ rfl _ _ _ rfl bG (2 * k + 1) Q l c q3 (by omega) (by unfold maxLen; omega) rfl rfl rfl (M3.out.gv.kept ((Kept.refl (fun _ => False) _).alloc _) (by simp)) ?_; intro w7 hg7 hk7; have HG7 := (show Hid (givenAt _ _ _ _) from hg7); have HK7 := (show Hid (Kept _ _ _) from hk7); have M4 := (show Hid (Inv _ _ _ _ _ _ _ _ _ _ _ _ _) from M3.out.kept ((Kept.refl (fun _ => False) _).alloc (.cells #[.int .i64 (l : Int), .int .i64 (c : Int)] 60)) (fun _ h => h.elim)); have v7 : w7.cell? ⟨bV, 0, none⟩ = some v := (hk7.cell (p := ⟨bV, 0, none⟩) (by exact M4.out.cv.lt) (show ¬ bV = bG from fun e => M4.out.nGV e.symm)).trans (by rw [M4.out.cv.cell]; rfl); have z7 : w7.cell? ⟨w5.heap.size, 0, none⟩ = some (.int .i64 (l : Int)) := (hk7.cell (p := ⟨w5.heap.size, 0, none⟩) (by simp) (show ¬ w5.heap.size = bG by have := M3.out.sz; have := M3.out.lG; omega)).trans (by rw [(rowIs_new w5 [.int .i64 (l : Int), .int .i64 (c : Int)] 60).cell]; rfl); have z8 : w7.cell? ⟨w5.heap.size, 1, none⟩ = some (.int .i64 (c : Int)) := (hk7.cell (p := ⟨w5.heap.size, 1, none⟩) (by simp) (show ¬ w5.heap.size = bG by have := M3.out.sz; have := M3.out.lG; omega)).trans (by rw [(rowIs_new w5 [.int .i64 (l : Int), .int .i64 (c : Int)] 60).cell]; rfl); have f7 : w7.frozen? ⟨bV, 0, none⟩ = false := (HK7.out.row M4.out.cv (show ¬ bV = bG from fun e => M4.out.nGV e.symm)).free 0; clear hg7 hk7)
                | (at_builtin; have _t := HG7; refine wpList_append_own_at _ rfl _ _ 57 rfl (bV + 1) 60 i0 (.agg #[.int .i64 0, .int .i64 0]) 2 16 hu57 hi hz0 hz1 hz2 rfl (by decide) v Q.length (flatQ Q) rfl ((ownsRow_kept M4.out.ow HK7.out (fun j e => by have := M4.out.lG; omega)).alloc _) ⟨w7.heap.size, 0, none⟩ 1 1 [.int .i64 (l : Int), .int .i64 (c : Int)] rfl rfl (fun j u hu => by rw [add_lit0, (rowIs_new w7 [.int .i64 (l : Int), .int .i64 (c : Int)] 60).cell]; exact hu) (fun u hu => by simp at hu; rcases hu with rfl | rfl <;> rfl) (by have := HQ.out.1; unfold maxLen; omega) (by have := HQ.out.1; omega) (by rw [World.size_alloc]; have := M4.out.sz; have := HK7.out.size; omega) ?_; intro v' w8 hown8 hgrow8 hnil8 hloc8; obtain ⟨al8, cap8, rfl⟩ := own_slice hown8; have HG8 := (show Hid _ from M4.out.give HG7.out HK7.out hown8 hgrow8 hloc8); have KV8 := (show Hid (rowIs w8 bV 57 [v]) from ((HK7.out.row M4.out.cv (show ¬ bV = bG from fun e => M4.out.nGV e.symm)).alloc _).grown hgrow8 (fun e => by have := (M4.out.own_hi e.symm).1; omega)); have c8 : w8.cell? ⟨bV, 0, none⟩ = some v := (by rw [KV8.out.cell]; rfl); have f8 := KV8.out.free 0; clear _t hown8 hgrow8 hnil8 hloc8))
              go_roundw
              case rel =>
                refine ⟨k + 1, f', Q ++ [(l, c)], .slice al8 (Q.length + 1) cap8, by omega, by go_num, ?_, ?_, fun q => ?_, fun h hh => ?_⟩
                · have hG := HG8.out
                  have eK : updN (fun l => knowB (ps.take k) l) l (knowB (ps.take k) l ||| 2 ^ p) = fun l => knowB (ps.take (k + 1)) l := know_step HK1.out
                  rw [eK] at hG
                  rw [← HSS.out]
                  exact hG
                · have := HQ.out.1; simp; omega
                · exact given_step HTK.out HQ.out.2.1 (fun q => by simp) q
                · exact some_step HTK.out HQ.out.2.2 HFF.out HFB.out h hh
              case measure => go_light; simp [intOf]; omega
      · obtain rfl : k = ps.length := by omega
        go_wp2_with fail
        go_meet
        exact ⟨f, Q, v, I1.out⟩
  case rest =>
    clear I1
    obtain ⟨f, Q, v, hI⟩ := hcut
    obtain ⟨w2, rfl⟩ : ∃ x, x = wc := ⟨_, rfl⟩
    have I1 := (show Hid (InvK _ _ _ _ _ _ _ _ _ _ _ _) from hI)
    have hsA : setIs w2 bA (startB ps) := by have := hI.1.sA; rwa [List.take_length] at this
    have hst0 : startB ps < 512 := startB_lt h9 HOK.out
    have HSA := (show Hid (setIs _ _ _) from hsA)
    have HKW := (show Hid (Kept _ _ _) from hI.1.kp)
    have n0 : w2.cell? ⟨bS, 0, none⟩ = some (.int .i64 n) := (hI.1.kp.cell (p := ⟨bS, 0, none⟩) lbS (by simp)).trans cn
    have lS : bS < w2.heap.size := Nat.lt_of_lt_of_le lbS hI.1.kp.size
    clear hI hsA
    go_upto_block 2 with fail
    go_cut [12] (fun _ wx => (∃ q, wx = w2.drewN q) ∧ ∀ p, p < n → (startB ps).testBit p = true)
    case first =>
      go_wp2_with fail
      go_loopw [12] (fun q wr => ∃ p : Nat, p ≤ n ∧ q = .int .i64 p ∧ (∃ j, wr = w2.drewN j) ∧ ∀ x, x < p → (startB ps).testBit x = true) (fun q _ => n - (intOf q).toNat)
      case atStart => exact ⟨0, by omega, rfl, ⟨0, rfl⟩, fun x hx => by omega⟩
      case round =>
        obtain ⟨p, hp, rfl, ⟨j, rfl⟩, hall⟩ := hrel
        have HALL := (show Hid (∀ x, _ → _) from hall)
        clear hall
        by_cases hpn : p < n
        · have hp9 : p < 9 := by omega
          cases hb : (startB ps).testBit p
          · have HB := (show Hid (_ = _) from hb)
            clear hb
            go_wp2_with (first
              | (go_at_call 13; refine Calls.mono (set_has_b bA 1 p _ false hp9 hst0 _ (by exact HSA.out) HB.out) ?_; rintro e w' ⟨rfl, q, rfl⟩)
              | (go_at_call 14; refine Calls.mono (errf0 w2.heap.size ((p : Int) + 1) _ (new_cells (w2.drewN (j + q)) [Value.iface 3 (Value.int IntKind.i64 ((p : Int) + 1))] 20 0 _ rfl)) ?_; rintro e w6 ⟨⟨ad, rfl⟩, hk6⟩; have HK6 := (show Hid (Kept _ _ _) from hk6); clear hk6))
            go_ret
            refine ⟨.inr ⟨ad, rfl, fun hG => ?_⟩, HKW.out.trans ((((Kept.refl _ w2).drewN _).alloc _).trans HK6.out)⟩
            have := hG.1 p hpn
            rw [HB.out] at this; cases this
          · have HB := (show Hid (_ = _) from hb)
            clear hb
            go_wp2_with (go_at_call 13; refine Calls.mono (set_has_b bA 1 p _ true hp9 hst0 _ (by exact HSA.out) HB.out) ?_; rintro e w' ⟨rfl, q, rfl⟩)
            go_roundw
            case rel =>
              refine ⟨p + 1, by omega, by go_num, ⟨_, rfl⟩, fun x hx => ?_⟩
              rcases Nat.lt_or_ge x p with h | h
              · exact HALL.out x h
              · rw [show x = p by omega]; exact HB.out
            case measure => go_light; simp [intOf]; omega
        · go_wp2_with fail
          go_meet
          exact ⟨⟨_, rfl⟩, fun p' hp' => HALL.out p' (by omega)⟩
    case rest =>
      obtain ⟨⟨jq, rfl⟩, hstart⟩ := hcut
      have HST := (show Hid (∀ p, _ → _) from hstart)
      obtain ⟨g, capq, rfl, hpr, hg, hgV, hgb⟩ := quorums_some I1.out (by
        obtain ⟨x, hx, _⟩ := (startB_bit ps 0).1 (hstart 0 (by omega))
        exact ⟨x, hx⟩)
      have v0 : w2.cell? ⟨bV, 0, none⟩ = some (.slice (some ⟨g, 0, none⟩) Q.length capq) := by rw [I1.out.1.cv.cell]; rfl
      have HPR := (show Hid (pairsAt _ _ _) from hpr)
      have hqc : Q.length ≤ capq := (let ⟨_, _, _, _, _, h⟩ := owned_row I1.out.1.ow; h)
      have hql : Q.length ≤ 400 := Nat.le_trans I1.out.2.1 hlen
      have hVg : bV ≠ g := by omega
      have HGB := (show Hid (∀ l b, _) from hgb)
      clear hpr hgb hstart
      go_upto_block 4 with (go_at_call 15; refine Calls.mono (sort_any g capq bV Q (by omega) _ (by exact HPR.out) (by exact hg) (by exact v0) hVg) ?_; rintro e w6 ⟨rfl, Q', hperm, hpr6, hk6⟩; have v6 := (hk6.cell (p := ⟨bV, 0, none⟩) (by exact World.block_lt_of_cell? w2 _ v0) (show ¬ bV = g from hVg)).trans v0; have HPM := (show Hid (List.Perm _ _) from hperm); have HP6 := (show Hid (pairsAt _ _ _) from hpr6); have HK6 := (show Hid (Kept (fun k => k = g) w2 w6) from Kept.trans ((Kept.refl (fun k => k = g) w2).drewN jq) hk6); clear hperm hpr6 hk6)
      have FX := (show Hid (Fix bM bV bS bA (2 * ps.length) n g Q.length capq ps f Q' w w6) from by
        have hl1 := I1.out.1.lM
        have hw0 := I1.out.1.w0
        have hk := HK6.out
        refine ⟨I1.out.1.kn.kept hk (by omega), fun l b hl hb => ?_, HP6.out, Nat.lt_of_lt_of_le hg hk.size, v6, (hk.cell (p := ⟨bS, 0, none⟩) lS (show ¬ bS = g by omega)).trans n0, I1.out.1.kp.then hk (fun j hj e => by omega)⟩
        have h := (I1.out.1.st l b hl hb).1
        rw [List.take_length] at h
        exact hk.set h (HGB.out l b hl hb))
      have HQM := (show Hid (∀ q, q ∈ Q ↔ ∃ h ∈ ps, (h.l, h.c) = q) from fun q => by have := I1.out.2.2.1 q; rwa [List.take_length] at this)
      have HFS := (show Hid (∀ h ∈ ps, (f h.l).isSome = true) from (show ∀ h ∈ ps, (f h.l).isSome = true by have := I1.out.2.2.2; rwa [List.take_length] at this))
      have HQA := (show Hid (∀ t, t < Q.length → _) from fun t ht => quorum_at HOK.out HQM.out HPM.out (by have := I1.out.2.2.2; rwa [List.take_length] at this) t ht)
      clear v6 HP6 HK6 HPR v0 I1 HSA n0 HGB HKW
      go_cut [114] (fun _ wx => Kept (fun _ => False) w6 wx ∧ ∀ i j, i ≤ j → j < Q.length → AB n ps Q' i j = false)
      case first =>
        go_wp2_with fail
        go_loopw [114] (fun q wr => ∃ a : Nat, a ≤ Q.length ∧ q = .int .i64 a ∧ Kept (fun _ => False) w6 wr ∧ ∀ i j, i < a → i ≤ j → j < Q.length → AB n ps Q' i j = false) (fun q _ => Q.length - (intOf q).toNat)
        case atStart => exact ⟨0, by omega, rfl, Kept.refl _ _, fun i j hi => by omega⟩
        case round =>
          obtain ⟨a, ha, rfl, hka, hall⟩ := hrel
          have HKA := (show Hid (Kept _ _ _) from hka)
          have HALL := (show Hid (∀ i j, _) from hall)
          clear hka hall
          by_cases ham : a < Q.length
          · obtain ⟨l1, c1, b1, hq1, hl1, hc1, hf1⟩ := HQA.out a ham
            have FA := (show Hid (Fix _ _ _ _ _ _ _ _ _ _ _ _ _ _) from FX.out.kept HKA.out)
            have x1 : wr.cell? ⟨g, a * 2, none⟩ = some (.int .i64 (l1 : Int)) := by have := (FA.out.pr a (by rw [HPM.out.length_eq]; omega)).1.1; rw [hq1] at this; exact this
            have x2 : wr.cell? ⟨g, a * 2 + 1, none⟩ = some (.int .i64 (c1 : Int)) := by have := (FA.out.pr a (by rw [HPM.out.length_eq]; omega)).2.1; rw [hq1] at this; exact this
            have x3 := FA.out.cv
            have lg := FA.out.lg
            have lV := World.block_lt_of_cell? wr _ x3
            have hca : ¬ capq = a := by omega
            have hai : (a : Int) ≤ (Q.length : Int) := by omega
            go_upto_block 6 with fail
            have HQ1 := (show Hid (_ = _) from hq1)
            obtain ⟨bQ, hbQ⟩ : ∃ b, wr.heap.size = b := ⟨_, rfl⟩
            obtain ⟨wO, hwO⟩ : ∃ x, wr.alloc (.cells #[.int .i64 (l1 : Int), .int .i64 (c1 : Int)] 60) = x := ⟨_, rfl⟩
            have ROW1 := (show Hid (rowIs wO bQ 60 [.int .i64 (l1 : Int), .int .i64 (c1 : Int)]) from by rw [← hwO, ← hbQ]; exact rowIs_new _ _ _)
            have HKO := (show Hid (Kept (fun _ => False) w6 wO) from by rw [← hwO]; exact HKA.out.alloc _)
            rw [hwO, hbQ]
            clear hwO hbQ FA x1 x2 x3 lg lV hq1 HKA
            go_wp2_with fail
            go_loopw [123] (fun q wr => ∃ d : Nat, d ≤ Q.length - a ∧ q = .int .i64 d ∧ Kept (fun _ => False) wO wr ∧ ∀ j, j < d → AB n ps Q' a (a + j) = false) (fun q _ => Q.length - a - (intOf q).toNat)
            case atStart => exact ⟨0, by omega, rfl, Kept.refl _ _, fun i hi => by omega⟩
            case round =>
              obtain ⟨d, hd, rfl, hkd, hdl⟩ := hrel
              have HKD := (show Hid (Kept _ _ _) from hkd)
              have HDL := (show Hid (∀ j, _) from hdl)
              clear hkd hdl
              by_cases hdm : d < Q.length - a
              · obtain ⟨l2, c2, b2, hq2, hl2, hc2, hf2⟩ := HQA.out (a + d) (by omega)
                have HQ2 := (show Hid (_ = _) from hq2)
                have FD := (show Hid (Fix _ _ _ _ _ _ _ _ _ _ _ _ _ _) from FX.out.kept (HKO.out.trans HKD.out))
                have x1 : wr.cell? ⟨g, a * 2 + d * 2, none⟩ = some (.int .i64 (l2 : Int)) := by have := (FD.out.pr (a + d) (by rw [HPM.out.length_eq]; omega)).1.1; rw [hq2, Nat.add_mul] at this; exact this
                have x2 : wr.cell? ⟨g, a * 2 + d * 2 + 1, none⟩ = some (.int .i64 (c2 : Int)) := by have := (FD.out.pr (a + d) (by rw [HPM.out.length_eq]; omega)).2.1; rw [hq2, Nat.add_mul] at this; exact this
                have lg := FD.out.lg
                have ROW1' := (show Hid (rowIs wr bQ 60 [.int .i64 (l1 : Int), .int .i64 (c1 : Int)]) from HKD.out.row ROW1.out (by simp))
                have y1 : wr.cell? ⟨bQ, 0, none⟩ = some (.int .i64 (l1 : Int)) := by rw [ROW1'.out.cell]; rfl
                have y2 : wr.cell? ⟨bQ, 1, none⟩ = some (.int .i64 (c1 : Int)) := by rw [ROW1'.out.cell]; rfl
                have lQ := ROW1'.out.lt
                have hk1 : knowB ps l1 < 512 := knowB_lt h9 HOK.out l1
                have hk2 : knowB ps l2 < 512 := knowB_lt h9 HOK.out l2
                have HAE := (show Hid (AB n ps Q' a (a + d) = Plain.apartB n (knowB ps l1) c1 (knowB ps l2) c2) from (show AB n ps Q' a (a + d) = Plain.apartB n (knowB ps l1) c1 (knowB ps l2) c2 by unfold AB; rw [HQ1.out, HQ2.out]))
                have NG := (show Hid (AB n ps Q' a (a + d) = true → ¬ Good n cr ps) from not_good HQM.out HPM.out ham (by omega))
                have HF1 := (show Hid (_ = _) from hf1)
                have HF2 := (show Hid (_ = _) from hf2)
                have hdi : (d : Int) < (Q.length : Int) - (a : Int) := by omega
                clear hq2 hf1 hf2
                have TK1 : True := trivial
                have TK2 : True := trivial
                obtain ⟨bb, hbb⟩ : ∃ bb, Plain.apartB n (knowB ps l1) c1 (knowB ps l2) c2 = bb := ⟨_, rfl⟩
                have HBB := (show Hid (_ = _) from hbb)
                have FE := (show Hid (Fix _ _ _ _ _ _ _ _ _ _ _ _ _ _) from FD.out.kept ((Kept.refl (fun _ => False) wr).alloc (.cells #[.int .i64 (l2 : Int), .int .i64 (c2 : Int)] 60)))
                clear hbb
                cases bb
                · go_wp2_with (first
                    | (at_lookup; have _t := TK1; refine wpList_look_knows _ rfl _ _ rfl bM (2 * ps.length) f l1 hl1 rfl rfl FE.out.kn ?_; rw [HF1.out]; show wpList _ _ _ _ (Act.put _ _ (.slice (some ⟨b1, 0, none⟩) 1 1)) _; clear _t TK1)
                    | (at_lookup; have _t := TK2; refine wpList_look_knows _ rfl _ _ rfl bM (2 * ps.length) f l2 hl2 rfl rfl FE.out.kn ?_; rw [HF2.out]; show wpList _ _ _ _ (Act.put _ _ (.slice (some ⟨b2, 0, none⟩) 1 1)) _; clear _t TK2)
                    | (go_at_call 17; refine Calls.mono (apart_any n (knowB ps l1) c1 (knowB ps l2) c2 bS b1 b2 1 1 h1 h9 hk1 hk2 (by omega) (by omega) _ FE.out.cn (FE.out.st l1 b1 hl1 HF1.out) (FE.out.st l2 b2 hl2 HF2.out)) ?_; rintro e w7 ⟨v1, v2, L1, L2, rfl, hL1, hL2, hn1, hn2, hk7⟩; rw [HBB.out]; have HK7 := (show Hid (Kept _ _ _) from hk7); clear hL1 hL2 hk7))
                  go_roundw
                  case rel =>
                    refine ⟨d + 1, by omega, by go_num, (HKD.out.alloc _).trans HK7.out, fun j hj => ?_⟩
                    rcases Nat.lt_or_ge j d with h | h
                    · exact HDL.out j h
                    · rw [show j = d by omega, HAE.out]; exact HBB.out
                  case measure => go_light; simp [intOf]; omega
                · go_wp2_with (first
                    | (at_lookup; have _t := TK1; refine wpList_look_knows _ rfl _ _ rfl bM (2 * ps.length) f l1 hl1 rfl rfl FE.out.kn ?_; rw [HF1.out]; show wpList _ _ _ _ (Act.put _ _ (.slice (some ⟨b1, 0, none⟩) 1 1)) _; clear _t TK1)
                    | (at_lookup; have _t := TK2; refine wpList_look_knows _ rfl _ _ rfl bM (2 * ps.length) f l2 hl2 rfl rfl FE.out.kn ?_; rw [HF2.out]; show wpList _ _ _ _ (Act.put _ _ (.slice (some ⟨b2, 0, none⟩) 1 1)) _; clear _t TK2)
                    | (go_at_call 17; refine Calls.mono (apart_any n (knowB ps l1) c1 (knowB ps l2) c2 bS b1 b2 1 1 h1 h9 hk1 hk2 (by omega) (by omega) _ FE.out.cn (FE.out.st l1 b1 hl1 HF1.out) (FE.out.st l2 b2 hl2 HF2.out)) ?_; rintro e w7 ⟨v1, v2, L1, L2, rfl, hL1, hL2, hn1, hn2, hk7⟩; rw [HBB.out]; have HK7 := (show Hid (Kept _ _ _) from hk7); have LC1 := (show Hid (∀ w', _ → _) from list_call hL1 hn1 (HSH.out.kept (FE.out.kp.trans hk7))); have LC2 := (show Hid (∀ w', _ → _) from list_call hL2 hn2 (HSH.out.kept (FE.out.kp.trans hk7))); have C4 := two_kept ⟨Kept.refl (fun _ => False) _, (((Kept.refl (fun _ => False) wr).alloc (.cells #[.int .i64 (l2 : Int), .int .i64 (c2 : Int)] 60)).cell (p := ⟨bQ, 0, none⟩) lQ (by simp)).trans y1, (((Kept.refl (fun _ => False) wr).alloc (.cells #[.int .i64 (l2 : Int), .int .i64 (c2 : Int)] 60)).cell (p := ⟨bQ, 1, none⟩) lQ (by simp)).trans y2, new_cells wr [.int .i64 (l2 : Int), .int .i64 (c2 : Int)] 60 0 _ rfl, new_cells wr [.int .i64 (l2 : Int), .int .i64 (c2 : Int)] 60 1 _ rfl⟩ hk7; obtain ⟨_, C40, C41, C42, C43⟩ := C4; clear hL1 hL2 hk7))
                  all_goals have C5 : Kept (fun _ => False) w7 w7 ∧ w7.cell? ⟨bQ, 0, none⟩ = some (.int .i64 (l1 : Int)) ∧ w7.cell? ⟨bQ, 1, none⟩ = some (.int .i64 (c1 : Int)) ∧ w7.cell? ⟨wr.heap.size, 0, none⟩ = some (.int .i64 (l2 : Int)) ∧ w7.cell? ⟨wr.heap.size, 1, none⟩ = some (.int .i64 (c2 : Int)) := ⟨Kept.refl _ _, C40, C41, C42, C43⟩
                  · go_region_held3 (fun w' => Kept (fun _ => False) w7 w' ∧ w'.cell? ⟨bQ, 0, none⟩ = some (.int .i64 (l1 : Int)) ∧ w'.cell? ⟨bQ, 1, none⟩ = some (.int .i64 (c1 : Int)) ∧ w'.cell? ⟨wr.heap.size, 0, none⟩ = some (.int .i64 (l2 : Int)) ∧ w'.cell? ⟨wr.heap.size, 1, none⟩ = some (.int .i64 (c2 : Int)))
                      (first | with_reducible exact two_alloc (by assumption) | with_reducible exact two_drew (by assumption) | with_reducible exact two_kept' (by assumption) (by assumption))
                      (first
                        | (go_at_call_of 18 v1; refine Calls.mono (LC1.out _ (And.left (by assumption))) ?_; rintro e w8 ⟨⟨s8, rfl⟩, hk8⟩)
                        | (go_at_call_of 18 v2; refine Calls.mono (LC2.out _ (And.left (by assumption))) ?_; rintro e w9 ⟨⟨s9, rfl⟩, hk9⟩)
                        | (go_at_call 14; refine Calls.mono (errf1 _ _ _ _ _ _ (by exact new_cells _ _ _ _ _ rfl) (by exact new_cells _ _ _ _ _ rfl) (by exact new_cells _ _ _ _ _ rfl) (by exact new_cells _ _ _ _ _ rfl)) ?_; rintro e w10 ⟨⟨ad, rfl⟩, hk10⟩))
                    go_wp2_with fail
                    go_ret
                    have hH : Kept (fun _ => False) w7 w10 := And.left (by assumption)
                    exact ⟨.inr ⟨ad, rfl, NG.out (HAE.out.trans HBB.out)⟩, (FE.out.kp.trans HK7.out).trans hH⟩
                  · go_region_held3 (fun w' => Kept (fun _ => False) w7 w' ∧ w'.cell? ⟨bQ, 0, none⟩ = some (.int .i64 (l1 : Int)) ∧ w'.cell? ⟨bQ, 1, none⟩ = some (.int .i64 (c1 : Int)) ∧ w'.cell? ⟨wr.heap.size, 0, none⟩ = some (.int .i64 (l2 : Int)) ∧ w'.cell? ⟨wr.heap.size, 1, none⟩ = some (.int .i64 (c2 : Int)))
                      (first | with_reducible exact two_alloc (by assumption) | with_reducible exact two_drew (by assumption) | with_reducible exact two_kept' (by assumption) (by assumption))
                      (first
                        | (go_at_call_of 18 v1; refine Calls.mono (LC1.out _ (And.left (by assumption))) ?_; rintro e w8 ⟨⟨s8, rfl⟩, hk8⟩)
                        | (go_at_call_of 18 v2; refine Calls.mono (LC2.out _ (And.left (by assumption))) ?_; rintro e w9 ⟨⟨s9, rfl⟩, hk9⟩)
                        | (go_at_call 14; refine Calls.mono (errf2 _ _ _ _ _ _ _ _ (by exact new_cells _ _ _ _ _ rfl) (by exact new_cells _ _ _ _ _ rfl) (by exact new_cells _ _ _ _ _ rfl) (by exact new_cells _ _ _ _ _ rfl) (by exact new_cells _ _ _ _ _ rfl) (by exact new_cells _ _ _ _ _ rfl)) ?_; rintro e w10 ⟨⟨ad, rfl⟩, hk10⟩))
                    go_wp2_with fail
                    go_ret
                    have hH : Kept (fun _ => False) w7 w10 := And.left (by assumption)
                    exact ⟨.inr ⟨ad, rfl, NG.out (HAE.out.trans HBB.out)⟩, (FE.out.kp.trans HK7.out).trans hH⟩
                  · go_region_held3 (fun w' => Kept (fun _ => False) w7 w' ∧ w'.cell? ⟨bQ, 0, none⟩ = some (.int .i64 (l1 : Int)) ∧ w'.cell? ⟨bQ, 1, none⟩ = some (.int .i64 (c1 : Int)) ∧ w'.cell? ⟨wr.heap.size, 0, none⟩ = some (.int .i64 (l2 : Int)) ∧ w'.cell? ⟨wr.heap.size, 1, none⟩ = some (.int .i64 (c2 : Int)))
                      (first | with_reducible exact two_alloc (by assumption) | with_reducible exact two_drew (by assumption) | with_reducible exact two_kept' (by assumption) (by assumption))
                      (first
                        | (go_at_call_of 18 v1; refine Calls.mono (LC1.out _ (And.left (by assumption))) ?_; rintro e w8 ⟨⟨s8, rfl⟩, hk8⟩)
                        | (go_at_call_of 18 v2; refine Calls.mono (LC2.out _ (And.left (by assumption))) ?_; rintro e w9 ⟨⟨s9, rfl⟩, hk9⟩)
                        | (go_at_call 14; refine Calls.mono (errf2 _ _ _ _ _ _ _ _ (by exact new_cells _ _ _ _ _ rfl) (by exact new_cells _ _ _ _ _ rfl) (by exact new_cells _ _ _ _ _ rfl) (by exact new_cells _ _ _ _ _ rfl) (by exact new_cells _ _ _ _ _ rfl) (by exact new_cells _ _ _ _ _ rfl)) ?_; rintro e w10 ⟨⟨ad, rfl⟩, hk10⟩))
                    go_wp2_with fail
                    go_ret
                    have hH : Kept (fun _ => False) w7 w10 := And.left (by assumption)
                    exact ⟨.inr ⟨ad, rfl, NG.out (HAE.out.trans HBB.out)⟩, (FE.out.kp.trans HK7.out).trans hH⟩
              · go_wp2_with fail
                go_roundw
                case rel =>
                  refine ⟨a + 1, by omega, by go_num, HKO.out.trans HKD.out, fun i j hi hij hj => ?_⟩
                  rcases Nat.lt_or_ge i a with h | h
                  · exact HALL.out i j h hij hj
                  · rw [show i = a by omega] at hij ⊢
                    have := HDL.out (j - a) (by omega)
                    rwa [show a + (j - a) = j by omega] at this
                case measure => go_light; simp [intOf]; omega
          · go_wp2_with fail
            go_meet
            exact ⟨HKA.out, fun i j hij hj => HALL.out i j (by omega) hij hj⟩
      case rest =>
        have G2 := (show Hid (∀ a ∈ ps, ∀ b ∈ ps, ¬ Plain.Bad n (knowB ps a.l) a.c (knowB ps b.l) b.c) from good_two HQM.out HPM.out hcut.2)
        have FC := (show Hid (Fix _ _ _ _ _ _ _ _ _ _ _ _ _ _) from FX.out.kept hcut.1)
        obtain ⟨w8, rfl⟩ : ∃ x, x = wc := ⟨_, rfl⟩
        have HGO := (show Hid (∀ p, p < n → (startB ps).testBit p = true) from HST.out)
        clear FX HQM HPM hcut HST hst0
        have n8 := FC.out.cn
        have lS8 : bS < w8.heap.size := World.block_lt_of_cell? w8 _ n8
        go_upto_block 8 with (go_at_call 11; refine Calls.mono (set_new n h1 h9 _) ?_; rintro e w9 ⟨rfl, hs, hk⟩; have HS9 := (show Hid (setIs _ _ _) from hs); have HK9 := (show Hid (Kept _ _ _) from hk); clear hs hk)
        obtain ⟨bK, hbK⟩ : ∃ b, w8.heap.size = b := ⟨_, rfl⟩
        rw [hbK] at HS9 ⊢
        have FN := (show Hid (Fix _ _ _ _ _ _ _ _ _ _ _ _ _ _) from FC.out.kept HK9.out)
        have wK : w.heap.size ≤ bK := by rw [← hbK]; exact FC.out.kp.size
        have HSB := (show Hid (∀ l b, l < 3 → f l = some b → b ≠ bK) from fun l b hl hb => by have := (FC.out.st l b hl hb).lt; omega)
        have nMK : bM ≠ bK := by have := FC.out.kn.lt; omega
        clear hbK FC n8 lS8 HK9
        go_cut [21] (fun _ wx => setIs wx bK (corrB cr n) ∧ Kept (fun j => j = bK) w9 wx)
        case first =>
          go_wp2_with fail
          go_loopw [21] (fun q wr => ∃ p : Nat, p ≤ n ∧ q = .int .i64 p ∧ setIs wr bK (corrB cr p) ∧ Kept (fun j => j = bK) w9 wr) (fun q _ => n - (intOf q).toNat)
          case atStart => exact ⟨0, by omega, rfl, HS9.out, Kept.refl _ _⟩
          case round =>
            obtain ⟨p, hp, rfl, hsp, hkp⟩ := hrel
            have HSP := (show Hid (setIs _ _ _) from hsp)
            have HKP := (show Hid (Kept _ _ _) from hkp)
            have KW := (show Hid (Kept (fun _ => False) w wr) from FN.out.kp.then hkp (fun j hj e => by omega))
            have n9 : wr.cell? ⟨bS, 0, none⟩ = some (.int .i64 n) := (KW.out.cell (p := ⟨bS, 0, none⟩) lbS (by simp)).trans cn
            have m9 : wr.cell? ⟨bS, 1, none⟩ = some (.slice (some ⟨bC, 0, none⟩) n n) := (KW.out.cell (p := ⟨bS, 1, none⟩) lbS (by simp)).trans HCC.out
            clear hsp hkp
            by_cases hpn : p < n
            · have hp9 : p < 9 := by omega
              have hcp : corrB cr p < 512 := corrB_lt cr p (by omega)
              have HCS := (show Hid (_ = _) from corrB_succ cr p)
              obtain ⟨bb, hbb⟩ : ∃ bb, cr p = bb := ⟨_, rfl⟩
              have HBB := (show Hid (_ = _) from hbb)
              clear hbb
              cases bb
              · go_wp2_with (first
                  | (go_at_call 19; refine Calls.mono (of_any bC n p cr hpn _ (HCR.out.kept KW.out (fun _ _ => by simp))) ?_; rintro e wz ⟨x, y, rfl, hkz⟩; rw [HBB.out]; have HKZ := (show Hid (Kept _ _ _) from hkz); clear hkz)
                  | (go_at_call 12; refine Calls.mono (set_add bK 1 p _ hp9 hcp _ (((Kept.refl (fun _ => False) wz).alloc _).set (HKZ.out.set HSP.out (by simp)) (by simp))) ?_; rintro e wy ⟨rfl, hsy, hky⟩; have HSY := (show Hid (setIs _ _ _) from hsy); have HKY := (show Hid (Kept _ _ _) from hky); clear hsy hky))
                go_roundw
                case rel =>
                  refine ⟨p + 1, by omega, by go_num, ?_, ?_⟩
                  · rw [HCS.out, HBB.out]; simpa using HSY.out
                  · exact ((HKP.out.then HKZ.out (fun j hj h => h.elim)).alloc _).trans HKY.out
                case measure => go_light; simp [intOf]; omega
              · go_wp2_with (go_at_call 19; refine Calls.mono (of_any bC n p cr hpn _ (HCR.out.kept KW.out (fun _ _ => by simp))) ?_; rintro e wz ⟨x, y, rfl, hkz⟩; rw [HBB.out]; have HKZ := (show Hid (Kept _ _ _) from hkz); clear hkz)
                go_roundw
                case rel =>
                  refine ⟨p + 1, by omega, by go_num, ?_, ?_⟩
                  · rw [HCS.out, HBB.out]; exact ((Kept.refl (fun _ => False) wz).alloc _).set (HKZ.out.set HSP.out (by simp)) (by simp)
                  · exact (HKP.out.then HKZ.out (fun j hj h => h.elim)).alloc _
                case measure => go_light; simp [intOf]; omega
            · obtain rfl : p = n := by omega
              go_wp2_with fail
              go_meet
              exact ⟨HSP.out, HKP.out⟩
        case rest =>
          obtain ⟨w10, rfl⟩ : ∃ x, x = wc := ⟨_, rfl⟩
          obtain ⟨hsK, hkK⟩ := hcut
          have KW := (show Hid (Kept (fun _ => False) w w10) from FN.out.kp.then hkK (fun j hj e => by omega))
          have HSK := (show Hid (setIs _ _ _) from hsK)
          have HST := (show Hid (∀ l b, l < 3 → f l = some b → setIs w10 b (knowB ps l)) from fun l b hl hb => hkK.set (FN.out.st l b hl hb) (HSB.out l b hl hb))
          obtain ⟨D, hown, hD⟩ := FN.out.kn.kept hkK nMK
          have HOW := (show Hid (World.ownsMap _ _ _ _ _ _ _) from hown)
          have HD := (show Hid (knowsD _ _) from hD)
          have hsz := size_le hown
          have lM10 := hown.lt
          clear hsK hkK hown hD FN HSB HS9
          go_upto_block 10 with (at_range; refine wpList_range_own _ rfl _ 55 rfl 3 53 law3 Ybaf.underlying55 RK bM (2 * ps.length) D rfl (HOW.out.alloc _) ?_; intro w11 hrg hgr hs11; have HRG := (show Hid (World.ranges _ _ _ _ _ _ _ _ _ _) from hrg); have HGR := (show Hid (World.grownBy _ _ _) from hgr); clear hrg hgr hs11)
          go_frame
          rw [World.size_alloc] at HRG ⊢
          obtain ⟨bN, hbN⟩ : ∃ b, w10.heap.size = b := ⟨_, rfl⟩
          have RI0 := (show Hid (RInv n cr ps bM (bN + 1) (2 * ps.length) bN bK D f (Maps.has D) (Maps.size D) 0 (fun _ => 0) w w11) from by
            have hk : Kept (fun _ => False) w10 w11 := (((Kept.refl (fun _ => False) w10).alloc _).trans ((Kept.ofGrown HGR.out).mono (fun _ _ h => by simp at h)))
            have hct := (cntAt_made w10).kept ((Kept.ofGrown HGR.out).mono (S' := fun _ => False) (fun _ _ h => by simp at h)) (by simp)
            rw [hbN] at hct
            have hlw := KW.out.size
            have lK := HSK.out.lt
            exact ⟨by rw [← hbN]; exact HRG.out, hct, hk.set HSK.out (by simp), fun l b hl hb => hk.set (HST.out l b hl hb) (by simp), KW.out.trans hk, fun _ h => h, fun l hl hsl h0 => (by rw [HD.out.back l hl hsl] at h0; cases h0), by omega, ⟨by omega, by omega⟩, ⟨by omega, by omega, by omega, by omega, fun l b hl hb => by have := (HST.out l b hl hb).lt; omega⟩⟩)
          rw [hbN]
          clear hbN HRG HGR HOW HST HSK KW
          obtain ⟨r, hr⟩ : ∃ r, bN + 1 = r := ⟨_, rfl⟩
          rw [hr] at RI0 ⊢
          clear hr
          go_cut [219] (fun _ wx => ∃ NN h, cntAt wx bN NN h ∧ (∀ l, l < 3 → (f l).isSome = true → h l = cntB n cr ps l) ∧ setIs wx bK (corrB cr n) ∧ Kept (fun _ => False) w wx ∧ w.heap.size ≤ bN)
          case first =>
            go_wp2_with fail
            go_loopw [219] (fun _ wr => ∃ left cnt NN h, RInv n cr ps bM r (2 * ps.length) bN bK D f left cnt NN h w wr) (fun _ wr => wr.rangeLeft bM r)
            case atStart => exact ⟨_, _, _, _, RI0.out⟩
            case round =>
              clear RI0
              obtain ⟨left, cnt, NN, h, hRI⟩ := hrel
              have RI := (show Hid (RInv _ _ _ _ _ _ _ _ _ _ _ _ _ _ _ _) from hRI)
              have hNN : NN + cnt ≤ 800 := by have := hRI.nn; omega
              have hcorr : corrB cr n < 512 := corrB_lt cr n h9
              clear hRI
              have TK1 : True := trivial
              go_wp2_with (first
                | (at_next; have _t := TK1; refine wpList_next_knows _ rfl _ rfl bM r (2 * ps.length) D f HD.out left cnt RI.out.lf rfl RI.out.rg ?_ ?_)
                | fail)
              · intro hl0
                clear TK1 _t
                go_wp2_with fail
                go_meet
                exact ⟨NN, h, RI.out.ct, fun l hl hs => RI.out.dn l hl hs (hl0 _), RI.out.sK, RI.out.kp, RI.out.wr'.2⟩
              · intro l s wn cnt1 hl3 hs hrg hlt hk1 hen
                clear TK1 _t
                have HS1 := (show Hid (_ = _) from hs)
                have HRG := (show Hid (World.ranges _ _ _ _ _ _ _ _ _ _) from hrg)
                have HK1 := (show Hid (Kept _ _ _) from hk1)
                have HSS := (show Hid (setIs wn s (knowB ps l)) from hk1.set (RI.out.st l s hl3 hs) (RI.out.ne.2.2.2.2 l s hl3 hs).2)
                have HSC := (show Hid (setIs wn bK (corrB cr n)) from hk1.set RI.out.sK (fun e => RI.out.ne.2.2.2.1 e.symm))
                have hkl : knowB ps l < 512 := knowB_lt h9 HOK.out l
                have hal : knowB ps l &&& corrB cr n < 512 := and_lt hkl
                obtain ⟨T, hT⟩ : ∃ T, Plain.cnt 9 (fun q => (knowB ps l &&& corrB cr n).testBit q) = T := ⟨_, rfl⟩
                have hc9 : T ≤ 9 := by rw [← hT]; exact Plain.cnt_le 9 _
                have HTT := (show Hid (_ = _) from hT)
                clear hT
                clear hs hrg hk1
                go_wp2_with (first
                  | (go_at_call 20; refine Calls.mono (set_clone s 1 (knowB ps l) _ HSS.out) ?_; rintro e wo ⟨gc, capg, rfl, hgc, hsc, hkc⟩; have HSO := (show Hid (setIs _ _ _) from hsc); have HKC := (show Hid (Kept _ _ _) from hkc); clear hsc hkc)
                  | (go_at_call 21; refine Calls.mono (set_and gc bK capg 1 (knowB ps l) (corrB cr n) hkl hcorr _ HSO.out (HKC.out.set HSC.out (by simp))) ?_; rintro e wp ⟨rfl, hsp, hkp⟩; have HSP := (show Hid (setIs _ _ _) from hsp); have HKP := (show Hid (Kept _ _ _) from hkp); clear hsp hkp)
                  | (go_at_call 22; refine Calls.mono (set_len gc capg (knowB ps l &&& corrB cr n) hal _ HSP.out) ?_; rintro e wq ⟨rfl, rfl⟩; rw [HTT.out])
                  | (at_mapUpdate; refine wpList_store_cnt _ rfl _ _ _ rfl bN NN h l T hl3 (by omega) (by unfold maxLen; omega) rfl rfl rfl (((RI.out.ct.kept HK1.out (fun e => RI.out.ne.1 e.symm)).kept HKC.out (by simp)).kept HKP.out (by have := RI.out.ct.lt; have := HK1.out.size; omega)) ?_; intro wt hct hkt; have HCT := (show Hid (cntAt _ _ _ _) from hct); have HKT := (show Hid (Kept _ _ _) from hkt); clear hct hkt; go_frame))
                go_roundw
                case rel =>
                  exact ⟨_, cnt1, NN + 1, _, RI.out.round hl3 HS1.out HRG.out hlt HK1.out HKC.out hgc HKP.out HTT.out.symm HCT.out HKT.out⟩
                case measure =>
                  rw [(RI.out.round hl3 HS1.out HRG.out hlt HK1.out HKC.out hgc HKP.out HTT.out.symm HCT.out HKT.out).rg.left_eq, RI.out.rg.left_eq]
                  exact hlt
          case rest =>
            obtain ⟨w12, rfl⟩ : ∃ x, x = wc := ⟨_, rfl⟩
            obtain ⟨NN, h, hct, hh, hsK, hkw, hbNw⟩ := hcut
            have HCT := (show Hid (cntAt _ _ _ _) from hct)
            have HSK := (show Hid (setIs _ _ _) from hsK)
            have KW := (show Hid (Kept _ _ _) from hkw)
            have HH := (show Hid (∀ x ∈ ps, h x.l = cntB n cr ps x.l) from fun x hx => hh x.l (HOK.out x hx).2.2.1 (HFS.out x hx))
            have n12 : w12.cell? ⟨bS, 0, none⟩ = some (.int .i64 n) := (hkw.cell (p := ⟨bS, 0, none⟩) lbS (by simp)).trans cn
            clear hct hh hsK hkw RI0 HD
            go_upto_block 12 with (go_at_call 11; refine Calls.mono (set_new n h1 h9 _) ?_; rintro e w13 ⟨rfl, hs, hk⟩; have HS13 := (show Hid (setIs _ _ _) from hs); have HK13 := (show Hid (Kept _ _ _) from hk); clear hs hk)
            obtain ⟨bL, hbL⟩ : ∃ b, w12.heap.size = b := ⟨_, rfl⟩
            rw [hbL] at HS13 ⊢
            have wL : w.heap.size ≤ bL := by rw [← hbL]; exact KW.out.size
            have nKL : bK ≠ bL := by have := HSK.out.lt; omega
            have nNL : bN ≠ bL := by have := HCT.out.lt; omega
            have HCT13 := (show Hid (cntAt _ _ _ _) from HCT.out.kept HK13.out (by simp))
            have HSK13 := (show Hid (setIs _ _ _) from HK13.out.set HSK.out (by simp))
            have KW13 := (show Hid (Kept (fun _ => False) w w13) from KW.out.trans HK13.out)
            clear hbL n12 HCT HSK KW HK13
            go_cut [241] (fun _ wx => setIs wx bL (liveB h ps) ∧ Kept (fun j => j = bL) w13 wx)
            case first =>
              go_wp2_with fail
              go_loopw [241] (fun q wr => ∃ k : Nat, k ≤ ps.length ∧ q = .int .i64 k ∧ setIs wr bL (liveB h (ps.take k)) ∧ Kept (fun j => j = bL) w13 wr) (fun q _ => ps.length - (intOf q).toNat)
              case atStart => exact ⟨0, by omega, rfl, HS13.out, Kept.refl _ _⟩
              case round =>
                obtain ⟨k, hk, rfl, hsp, hkp⟩ := hrel
                have HSP := (show Hid (setIs _ _ _) from hsp)
                have HKP := (show Hid (Kept _ _ _) from hkp)
                have KWr := (show Hid (Kept (fun _ => False) w wr) from KW13.out.then hkp (fun j hj e => by omega))
                clear hsp hkp
                by_cases hlt : k < ps.length
                · obtain ⟨q1, q2, q3, q4, q5⟩ := HOK.out _ (List.getElem_mem hlt)
                  obtain ⟨gp, rfl, hgp, c0, c1, c2, c3⟩ := (HPS.out.kept KWr.out (fun _ _ => by simp)) k hlt
                  have HLS := (show Hid (_ = _) from liveB_succ h ps k hlt)
                  have hlv : liveB h (ps.take k) < 512 := liveB_lt h9 h (fun x hx => HOK.out x (List.mem_of_mem_take hx))
                  obtain ⟨hh, hhe⟩ : ∃ hh, ps[k] = hh := ⟨_, rfl⟩
                  rw [hhe] at q1 q2 q3 q4 q5 c0 c1 c2 c3 HLS
                  clear hhe
                  obtain ⟨p, wv, l, c⟩ := hh
                  dsimp only at q1 q2 q3 q4 q5 c0 c1 c2 c3 HLS
                  have hp9 : p < 9 := by omega
                  have HC1 := (show Hid (cntAt _ _ _ _) from (HCT13.out.kept HKP.out nNL).kept ((Kept.refl (fun _ => False) wr).alloc (.cells #[.int .i64 (p : Int), .int .i64 (wv : Int), .int .i64 (l : Int), .int .i64 (c : Int)] 35)) (by simp))
                  by_cases hc : c ≤ h l
                  · have hcd : decide ((c : Int) ≤ (h l : Int)) = true := by simp; omega
                    have hcn : decide (c ≤ h l) = true := by simpa using hc
                    go_wp2_with (first
                      | (at_lookup; refine wpList_look_cnt _ rfl _ _ rfl bN NN h l q3 rfl rfl HC1.out ?_)
                      | (go_at_call 12; refine Calls.mono (set_add bL 1 p _ hp9 hlv _ (((Kept.refl (fun _ => False) wr).alloc _).set HSP.out (by simp))) ?_; rintro e wy ⟨rfl, hsy, hky⟩; have HSY := (show Hid (setIs _ _ _) from hsy); have HKY := (show Hid (Kept _ _ _) from hky); clear hsy hky))
                    go_roundw
                    case rel =>
                      refine ⟨k + 1, by omega, by go_num, ?_, (HKP.out.alloc _).trans HKY.out⟩
                      rw [HLS.out, if_pos hc]; exact HSY.out
                    case measure => go_light; simp [intOf]; omega
                  · have hcd : decide ((c : Int) ≤ (h l : Int)) = false := by simp; omega
                    have hcn : decide (c ≤ h l) = false := by simpa using hc
                    go_wp2_with (at_lookup; refine wpList_look_cnt _ rfl _ _ rfl bN NN h l q3 rfl rfl HC1.out ?_)
                    go_roundw
                    case rel =>
                      refine ⟨k + 1, by omega, by go_num, ?_, HKP.out.alloc _⟩
                      rw [HLS.out, if_neg hc]; exact ((Kept.refl (fun _ => False) wr).alloc _).set HSP.out (by simp)
                    case measure => go_light; simp [intOf]; omega
                · obtain rfl : k = ps.length := by omega
                  go_wp2_with fail
                  go_meet
                  have := HSP.out
                  rw [List.take_length] at this
                  exact ⟨this, HKP.out⟩
            case rest =>
              obtain ⟨w14, rfl⟩ : ∃ x, x = wc := ⟨_, rfl⟩
              obtain ⟨hsL, hkL⟩ := hcut
              have HSL := (show Hid (setIs _ _ _) from hsL)
              have HSK := (show Hid (setIs w14 bK (corrB cr n)) from hkL.set HSK13.out nKL)
              have KW := (show Hid (Kept (fun _ => False) w w14) from KW13.out.then hkL (fun j hj e => by omega))
              have n14 : w14.cell? ⟨bS, 0, none⟩ = some (.int .i64 n) := (KW.out.cell (p := ⟨bS, 0, none⟩) lbS (by simp)).trans cn
              have hlv : liveB h ps < 512 := liveB_lt h9 h HOK.out
              have hcv : corrB cr n < 512 := corrB_lt cr n h9
              have HLV := (show Hid (∀ p, (liveB h ps).testBit p = true ↔ _) from fun p => live_ok h9 HH.out p)
              clear hsL hkL HSK13 KW13 HCT13 HS13
              go_wp2_with fail
              go_loopw [31] (fun q wr => ∃ p : Nat, p ≤ n ∧ q = .int .i64 p ∧ (∃ j, wr = w14.drewN j) ∧ ∀ x, x < p → cr x = false → (liveB h ps).testBit x = true) (fun q _ => n - (intOf q).toNat)
              case atStart => exact ⟨0, by omega, rfl, ⟨0, rfl⟩, fun x hx => by omega⟩
              case round =>
                obtain ⟨p, hp, rfl, ⟨j, rfl⟩, hall⟩ := hrel
                have HALL := (show Hid (∀ x, _ → _ → _) from hall)
                clear hall
                by_cases hpn : p < n
                · have hp9 : p < 9 := by omega
                  have TK1 : True := trivial
                  have TK2 : True := trivial
                  obtain ⟨bb, hbb⟩ : ∃ bb, cr p = bb := ⟨_, rfl⟩
                  have HBB := (show Hid (_ = _) from hbb)
                  have HCB := (show Hid ((corrB cr n).testBit p = !bb) from (show (corrB cr n).testBit p = !bb by rw [corrB_bit, hbb]; simp [hpn]))
                  clear hbb
                  cases bb
                  · obtain ⟨b2, hb2⟩ : ∃ b2, (liveB h ps).testBit p = b2 := ⟨_, rfl⟩
                    have HB2 := (show Hid (_ = _) from hb2)
                    clear hb2
                    cases b2
                    · go_wp2_with (first
                        | (go_at_call 13; have _t := TK1; refine Calls.mono (set_has_b bK 1 p _ true hp9 hcv _ (by exact HSK.out) HCB.out) ?_; rintro e w' ⟨rfl, q, rfl⟩; clear _t TK1)
                        | (go_at_call 13; have _t := TK2; refine Calls.mono (set_has_b bL 1 p _ false hp9 hlv _ (by exact HSL.out) HB2.out) ?_; rintro e w' ⟨rfl, q2, rfl⟩; clear _t TK2)
                        | (go_at_call 14; refine Calls.mono (errf3 w14.heap.size ((p : Int) + 1) _ (by exact new_cells _ _ _ _ _ rfl)) ?_; rintro e w6 ⟨⟨ad, rfl⟩, hk6⟩; have HK6 := (show Hid (Kept _ _ _) from hk6); clear hk6))
                      go_ret
                      refine ⟨.inr ⟨ad, rfl, fun hG => ?_⟩, KW.out.trans ((((Kept.refl _ w14).drewN _).alloc _).trans HK6.out)⟩
                      have h3 := (HLV.out p).2 (hG.2.2 p hpn HBB.out)
                      rw [HB2.out] at h3; cases h3
                    · go_wp2_with (first
                        | (go_at_call 13; have _t := TK1; refine Calls.mono (set_has_b bK 1 p _ true hp9 hcv _ (by exact HSK.out) HCB.out) ?_; rintro e w' ⟨rfl, q, rfl⟩; clear _t TK1)
                        | (go_at_call 13; have _t := TK2; refine Calls.mono (set_has_b bL 1 p _ true hp9 hlv _ (by exact HSL.out) HB2.out) ?_; rintro e w' ⟨rfl, q2, rfl⟩; clear _t TK2))
                      go_roundw
                      case rel =>
                        refine ⟨p + 1, by omega, by go_num, ⟨_, rfl⟩, fun x hx hcx => ?_⟩
                        rcases Nat.lt_or_ge x p with hxp | hxp
                        · exact HALL.out x hxp hcx
                        · rw [show x = p by omega]; exact HB2.out
                      case measure => go_light; simp [intOf]; omega
                  · go_wp2_with (go_at_call 13; refine Calls.mono (set_has_b bK 1 p _ false hp9 hcv _ (by exact HSK.out) HCB.out) ?_; rintro e w' ⟨rfl, q, rfl⟩)
                    go_roundw
                    case rel =>
                      refine ⟨p + 1, by omega, by go_num, ⟨_, rfl⟩, fun x hx hcx => ?_⟩
                      rcases Nat.lt_or_ge x p with hxp | hxp
                      · exact HALL.out x hxp hcx
                      · rw [show x = p by omega, HBB.out] at hcx; cases hcx
                    case measure => go_light; simp [intOf]; omega
                · go_wp2_with fail
                  go_ret
                  refine ⟨.inl ⟨rfl, HGO.out, G2.out, fun p' hp' hcp => (HLV.out p').1 (HALL.out p' (by omega) hcp)⟩, KW.out.drewN _⟩
end Go.Proofs.YbulkajboFmt
