/- What checkQuorums' first loop keeps true. -/
import Derived.Test.YbulkajboFmtApart2
import Derived.Test.YbulkajboFmtSort
import Derived.Test.YbulkajboFmtMaps
import Derived.Test.YbulkajboFmtPairs
namespace Go.Proofs.YbulkajboFmt
open Go.RowKit
set_option linter.unusedVariables false

def flatQ (Q : List (Nat × Nat)) : List Value := Q.flatMap encQ
theorem flatQ_snoc (Q : List (Nat × Nat)) (l c : Nat) : flatQ (Q ++ [(l, c)]) = flatQ Q ++ [.int .i64 (l : Int), .int .i64 (c : Int)] := by
  simp [flatQ, encQ]
theorem flatQ_length (Q : List (Nat × Nat)) : (flatQ Q).length = Q.length * 2 := by
  induction Q with
  | nil => rfl
  | cons q Q ih => simp only [flatQ, List.flatMap_cons, List.length_append, List.length_cons] at ih ⊢; rw [ih]; simp [encQ]; omega
theorem flatQ_at (Q : List (Nat × Nat)) (t : Nat) (h : t < Q.length) : (flatQ Q)[t * 2]? = some (.int .i64 ((Q.getD t (0, 0)).1 : Int)) ∧ (flatQ Q)[t * 2 + 1]? = some (.int .i64 ((Q.getD t (0, 0)).2 : Int)) := by
  induction Q generalizing t with
  | nil => simp at h
  | cons q Q ih =>
    cases t with
    | zero => simp [flatQ, encQ]
    | succ t =>
      have := ih t (by simpa using h)
      rw [show (t + 1) * 2 = t * 2 + 1 + 1 from by omega]
      simp only [flatQ, List.flatMap_cons, encQ, List.cons_append, List.nil_append, List.getElem?_cons_succ, List.getD_cons_succ]
      exact this

theorem own_pairs {w : World} {B g cap : Nat} {Q : List (Nat × Nat)} (h : w.ownsRow B 60 2 (.slice (some ⟨g, 0, none⟩) Q.length cap) Q.length (flatQ Q)) : pairsAt w g Q ∧ g < w.heap.size := by
  obtain ⟨cur, h1, h2, h3, h4, h5⟩ := owned_row h
  refine ⟨fun t ht => ?_, h1.lt⟩
  obtain ⟨e1, e2⟩ := flatQ_at Q t ht
  rw [← h3, List.getElem?_take, if_pos (by omega)] at e1 e2
  exact ⟨⟨by rw [h1.cell]; exact e1, h1.free _⟩, ⟨by rw [h1.cell]; exact e2, h1.free _⟩⟩

structure Inv (bA bM bG bV B k : Nat) (S : Nat) (Kf : Nat → Nat) (f : Nat → Option Nat) (Q : List (Nat × Nat)) (v : Value) (w wr : World) : Prop where
  lA : bA < B
  lM : bM < B
  lG : bG < B
  lV : bV < B
  nAM : bA ≠ bM
  nAG : bA ≠ bG
  nAV : bA ≠ bV
  nMG : bM ≠ bG
  nMV : bM ≠ bV
  nGV : bG ≠ bV
  w0 : w.heap.size ≤ bA ∧ w.heap.size ≤ bM ∧ w.heap.size ≤ bG ∧ w.heap.size ≤ bV
  sA : setIs wr bA S
  kn : knowsAt wr bM k f
  st : ∀ l b, l < 3 → f l = some b → setIs wr b (Kf l) ∧ B ≤ b ∧ v.ownBlock ≠ some b
  no : ∀ l, l < 3 → f l = none → Kf l = 0
  di : ∀ l l' b, l < 3 → l' < 3 → f l = some b → f l' = some b → l = l'
  gv : givenAt wr bG k Q
  cv : rowIs wr bV 57 [v]
  ow : wr.ownsRow B 60 2 v Q.length (flatQ Q)
  kp : Kept (fun _ => False) w wr
  sz : B ≤ wr.heap.size

section
variable {bA bM bG bV B k : Nat} {S : Nat} {Kf : Nat → Nat} {f : Nat → Option Nat} {Q : List (Nat × Nat)} {v : Value} {w wr : World}

theorem Inv.own_hi (h : Inv bA bM bG bV B k S Kf f Q v w wr) {g : Nat} (hg : v.ownBlock = some g) : B ≤ g ∧ g < wr.heap.size := h.ow.lt g hg

/-- Only a block that none of the parts lies in was written. -/
theorem Inv.kept (h : Inv bA bM bG bV B k S Kf f Q v w wr) {w' : World} {X : Nat → Prop} (hk : Kept X wr w') (hX : ∀ j, X j → wr.heap.size ≤ j) : Inv bA bM bG bV B k S Kf f Q v w w' := by
  have hn : ∀ j, j < wr.heap.size → ¬ X j := fun j hj hx => by have := hX j hx; omega
  have hsz := h.sz
  have l1 := h.lA
  have l2 := h.lM
  have l3 := h.lG
  have l4 := h.lV
  refine ⟨h.lA, h.lM, h.lG, h.lV, h.nAM, h.nAG, h.nAV, h.nMG, h.nMV, h.nGV, h.w0, hk.set h.sA (hn _ (by omega)), h.kn.kept hk (hn _ (by omega)), fun l b hl hb => ?_, h.no, h.di, h.gv.kept hk (hn _ (by omega)), hk.row h.cv (hn _ (by omega)), ?_, h.kp.then hk (fun j hj hx => absurd hx (hn j (by have := h.kp.size; omega))), Nat.le_trans hsz hk.size⟩
  · obtain ⟨s1, s2, s3⟩ := h.st l b hl hb
    exact ⟨hk.set s1 (hn _ s1.lt), s2, s3⟩
  · refine ⟨h.ow.1, ?_⟩
    rcases h.ow.2 with h0 | ⟨g, cap, cur, e1, e2, e3, e4⟩
    · exact .inl h0
    · exact .inr ⟨g, cap, cur, e1, e2, (hk.block g (lt_of_block e3) (hn _ (lt_of_block e3))).trans e3, e4⟩

theorem Inv.addA (h : Inv bA bM bG bV B k S Kf f Q v w wr) {w' : World} {T : Nat} (hs : setIs w' bA T) (hk : Kept (fun j => j = bA) wr w') : Inv bA bM bG bV B k T Kf f Q v w w' := by
  have hsz := h.sz
  have l1 := h.lA
  refine ⟨h.lA, h.lM, h.lG, h.lV, h.nAM, h.nAG, h.nAV, h.nMG, h.nMV, h.nGV, h.w0, hs, h.kn.kept hk (fun e => h.nAM e.symm), fun l b hl hb => ?_, h.no, h.di, h.gv.kept hk (fun e => h.nAG e.symm), hk.row h.cv (fun e => h.nAV e.symm), ownsRow_kept h.ow hk (fun j e => by omega), h.kp.then hk (fun j hj e => by have := h.w0.1; omega), Nat.le_trans hsz hk.size⟩
  obtain ⟨s1, s2, s3⟩ := h.st l b hl hb
  exact ⟨hk.set s1 (by omega), s2, s3⟩

theorem Inv.newL (h : Inv bA bM bG bV B k S Kf f Q v w wr) {w1 w2 : World} {l : Nat} (hl : l < 3) (hf : f l = none) {s : Nat} (hs : s = wr.heap.size) (hs1 : setIs w1 s 0) (hk1 : Kept (fun _ => False) wr w1)
    (hkn : knowsAt w2 bM (k + 1) (upd f l s)) (hk2 : Kept (fun j => j = bM) w1 w2) : Inv bA bM bG bV B (k + 1) S Kf (upd f l s) Q v w w2 := by
  have h1 := h.kept hk1 (fun j hj => hj.elim)
  have hsz := h.sz
  have l1 := h.lA
  have l2 := h.lM
  refine ⟨h.lA, h.lM, h.lG, h.lV, h.nAM, h.nAG, h.nAV, h.nMG, h.nMV, h.nGV, h.w0, hk2.set h1.sA h.nAM, hkn, fun x b hx hb => ?_, fun x hx hn => ?_, fun x x' b hx hx' e1 e2 => ?_, ?_, hk2.row h1.cv (fun e => h.nMV e.symm), ownsRow_kept h1.ow hk2 (fun j e => by omega), h1.kp.then hk2 (fun j hj e => by have := h.w0.2.1; omega), Nat.le_trans h1.sz hk2.size⟩
  · unfold upd at hb
    split at hb
    · rename_i e
      subst e
      cases hb
      rw [h.no x hl hf]
      exact ⟨hk2.set hs1 (by omega), by omega, fun e => by have := (h.own_hi e).2; omega⟩
    · obtain ⟨s1, s2, s3⟩ := h1.st x b hx hb
      exact ⟨hk2.set s1 (by omega), s2, s3⟩
  · unfold upd at hn
    split at hn
    · cases hn
    · exact h.no x hx hn
  · have old : ∀ y, y < 3 → f y = some b → b < wr.heap.size := fun y hy e => (h.st y b hy e).1.lt
    unfold upd at e1 e2
    split at e1 <;> split at e2
    · omega
    · cases e1; have := old x' hx' e2; omega
    · cases e2; have := old x hx e1; omega
    · exact h.di x x' b hx hx' e1 e2
  · obtain ⟨D, g1, g2⟩ := h1.gv.kept hk2 (fun e => h.nMG e.symm)
    exact ⟨D, g1.mono (by omega), g2⟩

theorem Inv.mono (h : Inv bA bM bG bV B k S Kf f Q v w wr) {k' : Nat} (hk : k ≤ k') : Inv bA bM bG bV B k' S Kf f Q v w wr := by
  refine ⟨h.lA, h.lM, h.lG, h.lV, h.nAM, h.nAG, h.nAV, h.nMG, h.nMV, h.nGV, h.w0, h.sA, ?_, h.st, h.no, h.di, ?_, h.cv, h.ow, h.kp, h.sz⟩
  · obtain ⟨D, g1, g2⟩ := h.kn; exact ⟨D, g1.mono hk, g2⟩
  · obtain ⟨D, g1, g2⟩ := h.gv; exact ⟨D, g1.mono hk, g2⟩

theorem Inv.addL (h : Inv bA bM bG bV B k S Kf f Q v w wr) {w' : World} {l b T : Nat} (hl : l < 3) (hf : f l = some b) (hs : setIs w' b T) (hk : Kept (fun j => j = b) wr w') : Inv bA bM bG bV B k S (updN Kf l T) f Q v w w' := by
  have hsz := h.sz
  have l1 := h.lA
  have l2 := h.lM
  have l3 := h.lG
  have l4 := h.lV
  obtain ⟨s1, s2, s3⟩ := h.st l b hl hf
  refine ⟨h.lA, h.lM, h.lG, h.lV, h.nAM, h.nAG, h.nAV, h.nMG, h.nMV, h.nGV, h.w0, hk.set h.sA (by omega), h.kn.kept hk (by omega), fun x b' hx hb => ?_, fun x hx hn => ?_, h.di, h.gv.kept hk (by omega), hk.row h.cv (by omega), ?_, h.kp.then hk (fun j hj e => by have := h.w0.1; omega), Nat.le_trans hsz hk.size⟩
  · obtain ⟨t1, t2, t3⟩ := h.st x b' hx hb
    unfold updN
    split
    · rename_i e
      subst e
      rw [hf] at hb
      cases hb
      exact ⟨hs, t2, t3⟩
    · rename_i e
      refine ⟨hk.set t1 (fun e1 => e ?_), t2, t3⟩
      rw [e1] at hb
      exact h.di x l b hx hl hb hf
  · unfold updN
    split
    · rename_i e; subst e; rw [hf] at hn; cases hn
    · exact h.no x hx hn
  · refine ⟨h.ow.1, ?_⟩
    rcases h.ow.2 with h0 | ⟨g, cap, cur, e1, e2, e3, e4⟩
    · exact .inl h0
    · refine .inr ⟨g, cap, cur, e1, e2, (hk.block g (lt_of_block e3) (fun e => s3 ?_)).trans e3, e4⟩
      rw [e1]; show (Value.slice (some ⟨g, 0, none⟩) Q.length cap).ownBlock = some b
      rw [← e]; rfl

theorem Inv.give (h : Inv bA bM bG bV B k S Kf f Q v w wr) {w1 w2 : World} {l c : Nat} {o : Obj} {v' : Value}
    (hg : givenAt w1 bG (k + 1) (Q ++ [(l, c)])) (hk1 : Kept (fun j => j = bG) wr w1)
    (hown : w2.ownsRow B 60 2 v' (Q.length + 1) (flatQ Q ++ [.int .i64 (l : Int), .int .i64 (c : Int)])) (hgr : (w1.alloc o).grownBy w2 v.ownBlock) (hloc : v'.ownBlock = v.ownBlock ∨ v'.ownBlock = some (w1.alloc o).heap.size) :
    Inv bA bM bG bV B (k + 1) S Kf f (Q ++ [(l, c)]) v' w (w2.setCell ⟨bV, 0, none⟩ v') := by
  have hsz := h.sz
  have l1 := h.lA
  have l2 := h.lM
  have l3 := h.lG
  have l4 := h.lV
  have hlo : ∀ j, j < B → ¬ v.ownBlock = some j := fun j hj e => by have := (h.own_hi e).1; omega
  have k2 : Kept (fun j => v.ownBlock = some j) w1 w2 := ((Kept.refl (fun j => v.ownBlock = some j) w1).alloc o).grown hgr (fun j e _ => e)
  have k3 : Kept (fun j => j = bV) w2 (w2.setCell ⟨bV, 0, none⟩ v') := (Kept.refl (fun j => j = bV) w2).setCell (p := ⟨bV, 0, none⟩) (fun _ => rfl) _
  refine ⟨h.lA, h.lM, h.lG, h.lV, h.nAM, h.nAG, h.nAV, h.nMG, h.nMV, h.nGV, h.w0, k3.set (k2.set (hk1.set h.sA h.nAG) (hlo _ l1)) h.nAV, ?_, fun x b hx hb => ?_, h.no, h.di, (hg.kept k2 (hlo _ l3)).kept k3 h.nGV, ?_, ?_, ?_, ?_⟩
  · obtain ⟨D, g1, g2⟩ := ((h.kn.kept hk1 h.nMG).kept k2 (hlo _ l2)).kept k3 h.nMV
    exact ⟨D, g1.mono (by omega), g2⟩
  · obtain ⟨t1, t2, t3⟩ := h.st x b hx hb
    refine ⟨k3.set (k2.set (hk1.set t1 (by omega)) t3) (by omega), t2, fun e => ?_⟩
    rcases hloc with e1 | e1
    · exact t3 (e1.symm.trans e)
    · rw [e1] at e
      have := t1.lt
      have h2 := hk1.size
      rw [World.size_alloc] at e
      simp at e
      omega
  · have := (k2.row (hk1.row h.cv (fun e => h.nGV e.symm)) (hlo _ l4)).set 0 v'
    simpa using this
  · have h3 := ownsRow_kept hown k3 (fun j e => by omega)
    rw [flatQ_snoc]; simpa using h3
  · exact ((h.kp.then hk1 (fun j hj e => by have := h.w0.2.2.1; omega)).then k2 (fun j hj e => absurd e (hlo j (by have := h.w0.1; omega)))).then k3 (fun j hj e => by have := h.w0.2.2.2; omega)
  · exact Nat.le_trans hsz (Nat.le_trans hk1.size (Nat.le_trans k2.size k3.size))
end
end Go.Proofs.YbulkajboFmt
