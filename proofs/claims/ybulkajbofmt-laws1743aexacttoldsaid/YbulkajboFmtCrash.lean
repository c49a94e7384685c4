/- The crashes, as they lie in memory; crashes.of; when the pairs are good. -/
import Derived.Test.YbulkajboFmtPairs
namespace Go.Proofs.YbulkajboFmt
open Go.RowKit
set_option linter.unusedVariables false

def crashAt (w : World) (bC n : Nat) (cr : Nat → Bool) : Prop := ∀ p, p < n →
  (cr p = false ∧ w.cell? ⟨bC, p, none⟩ = some (.pointer none)) ∨
  (cr p = true ∧ ∃ g m, w.cell? ⟨bC, p, none⟩ = some (.pointer (some ⟨g, 0, none⟩)) ∧ w.cell? ⟨g, 0, none⟩ = some (.int .i64 1) ∧ w.cell? ⟨g, 1, none⟩ = some (.map (some m)))
theorem crashAt.kept {S : Nat → Prop} {w w' : World} {bC n : Nat} {cr : Nat → Bool} (h : crashAt w bC n cr) (k : Kept S w w') (hS : ∀ g, g < w.heap.size → ¬ S g) : crashAt w' bC n cr := by
  intro p hp
  rcases h p hp with ⟨h1, h2⟩ | ⟨h1, g, m, h2, h3, h4⟩
  · have l1 : bC < w.heap.size := World.block_lt_of_cell? w _ h2
    exact .inl ⟨h1, (k.cell l1 (hS _ l1)).trans h2⟩
  · have l1 : bC < w.heap.size := World.block_lt_of_cell? w _ h2
    have l2 : g < w.heap.size := World.block_lt_of_cell? w _ h3
    exact .inr ⟨h1, g, m, (k.cell l1 (hS _ l1)).trans h2, (k.cell l2 (hS _ l2)).trans h3, (k.cell l2 (hS _ l2)).trans h4⟩

theorem of_any (bC n p : Nat) (cr : Nat → Bool) (hp : p < n) (w : World) (h : crashAt w bC n cr) : Calls Ybaf.prog 19 #[.slice (some ⟨bC, 0, none⟩) n n, .int .i64 p] w fun e w' =>
    ∃ (x : Int) (y : Option Nat), e = .returned (.tuple #[.agg #[.int .i64 x, .map y], .bool (cr p)]) ∧ Kept (fun _ => False) w w' := by
  rcases h p hp with ⟨h1, h2⟩ | ⟨h1, g, m, h2, h3, h4⟩
  · rw [h1]
    have l1 : bC < w.heap.size := World.block_lt_of_cell? w _ h2
    go_enter Ybaf.func19, Ybaf.ntmps19
    go_wp2
    refine bodyPost_ret (v := .tuple #[.agg #[.int .i64 0, .map none], .bool false]) (by simp [results, Ybaf.results19]; go_simp) rfl ?_
    exact ⟨_, _, rfl, (Kept.refl _ w).alloc _⟩
  · rw [h1]
    have l2 : g < w.heap.size := World.block_lt_of_cell? w _ h3
    have l1 : bC < w.heap.size := World.block_lt_of_cell? w _ h2
    go_enter Ybaf.func19, Ybaf.ntmps19
    go_wp2
    refine bodyPost_ret (v := .tuple #[.agg #[.int .i64 1, .map (some m)], .bool true]) (by simp [results, Ybaf.results19]; go_simp) rfl ?_
    exact ⟨_, _, rfl, (Kept.refl _ w).alloc _⟩

/-- When the pairs are acceptable. -/
def Good (n : Nat) (cr : Nat → Bool) (ps : List HP) : Prop :=
  (∀ p, p < n → (startB ps).testBit p = true) ∧
  (∀ a ∈ ps, ∀ b ∈ ps, ¬ Plain.Bad n (knowB ps a.l) a.c (knowB ps b.l) b.c) ∧
  (∀ p, p < n → cr p = false → ∃ h ∈ ps, h.p = p ∧ h.c ≤ Plain.cnt n (fun q => (knowB ps h.l).testBit q && !cr q))
/-- Those of the first p processes that do not crash. -/
def corrB (cr : Nat → Bool) (p : Nat) : Nat := (List.range p).foldl (fun S q => if cr q then S else S ||| 2 ^ q) 0
theorem corrB_succ (cr : Nat → Bool) (p : Nat) : corrB cr (p + 1) = if cr p then corrB cr p else corrB cr p ||| 2 ^ p := by
  unfold corrB; rw [List.range_succ, List.foldl_append]; rfl
theorem corrB_lt (cr : Nat → Bool) (p : Nat) (hp : p ≤ 9) : corrB cr p < 512 := by
  induction p with
  | zero => exact (by decide : (0 : Nat) < 512)
  | succ p ih =>
    rw [corrB_succ]
    split
    · exact ih (by omega)
    · exact or_lt p (ih (by omega)) (by omega)
theorem corrB_bit (cr : Nat → Bool) (p q : Nat) : (corrB cr p).testBit q = (decide (q < p) && !cr q) := by
  induction p with
  | zero => simp [corrB]
  | succ p ih =>
    rw [corrB_succ]
    by_cases e : q = p
    · subst e
      cases h : cr q
      · simp
      · simp [ih]
    · have : decide (q < p + 1) = decide (q < p) := by simp; omega
      rw [this, ← ih]
      cases h : cr p
      · rw [if_neg (by simp), Plain.bit_or]; simp [e]
      · simp
/-- Those who hold a pair that enough correct processes know the label of. -/
def liveB (N : Nat → Nat) (ps : List HP) : Nat := ps.foldl (fun S h => if decide (h.c ≤ N h.l) = true then S ||| 2 ^ h.p else S) 0
theorem liveB_succ (N : Nat → Nat) (ps : List HP) (k : Nat) (h : k < ps.length) : liveB N (ps.take (k + 1)) = if ps[k].c ≤ N ps[k].l then liveB N (ps.take k) ||| 2 ^ ps[k].p else liveB N (ps.take k) := by
  rw [take_snoc ps k h, liveB, List.foldl_append]
  show (if decide (ps[k].c ≤ N ps[k].l) = true then liveB N (ps.take k) ||| 2 ^ ps[k].p else liveB N (ps.take k)) = _
  by_cases hc : ps[k].c ≤ N ps[k].l
  · rw [if_pos (by simpa using hc), if_pos hc]
  · rw [if_neg (by simpa using hc), if_neg hc]
theorem liveB_lt {n : Nat} (hn : n ≤ 9) {ps : List HP} (N : Nat → Nat) (hk : ∀ h ∈ ps, okHP n h) : liveB N ps < 512 := fold_lt n hn (fun h => decide (h.c ≤ N h.l)) ps 0 hk (by omega)
theorem liveB_bit (N : Nat → Nat) (ps : List HP) (q : Nat) : (liveB N ps).testBit q = true ↔ ∃ h ∈ ps, h.c ≤ N h.l ∧ h.p = q := by
  have := fold_bit (fun h => decide (h.c ≤ N h.l)) q ps 0
  simpa [liveB] using this
/-- How many correct processes know label l. -/
def cntB (n : Nat) (cr : Nat → Bool) (ps : List HP) (l : Nat) : Nat := Plain.cnt 9 (fun q => (knowB ps l &&& corrB cr n).testBit q)
theorem cntB_eq (n : Nat) (hn : n ≤ 9) (cr : Nat → Bool) (ps : List HP) (l : Nat) : cntB n cr ps l = Plain.cnt n (fun q => (knowB ps l).testBit q && !cr q) := by
  unfold cntB
  rw [Plain.cnt_beyond hn (fun q hq => by rw [Nat.testBit_and, corrB_bit]; simp [show ¬ q < n by omega])]
  refine Plain.cnt_congr (fun q hq => ?_)
  rw [Nat.testBit_and, corrB_bit]; simp [hq]
end Go.Proofs.YbulkajboFmt
