/- The pairs, plainly, and as they lie in memory. -/
import Derived.Test.YbulkajboFmtSet
namespace Go.Proofs.YbulkajboFmt
open Go.RowKit
set_option linter.unusedVariables false

structure HP where
  p : Nat
  w : Nat
  l : Nat
  c : Nat

def startB (ps : List HP) : Nat := ps.foldl (fun S h => if h.w = 0 then S ||| 2 ^ h.p else S) 0
def knowB (ps : List HP) (l : Nat) : Nat := ps.foldl (fun S h => if h.l = l then S ||| 2 ^ h.p else S) 0

theorem take_snoc {α : Type} (ps : List α) (k : Nat) (h : k < ps.length) : ps.take (k + 1) = ps.take k ++ [ps[k]] := List.take_succ_eq_append_getElem h
theorem startB_succ (ps : List HP) (k : Nat) (h : k < ps.length) : startB (ps.take (k + 1)) = if ps[k].w = 0 then startB (ps.take k) ||| 2 ^ ps[k].p else startB (ps.take k) := by
  rw [take_snoc ps k h, startB, List.foldl_append]; rfl
theorem knowB_succ (ps : List HP) (k l : Nat) (h : k < ps.length) : knowB (ps.take (k + 1)) l = if ps[k].l = l then knowB (ps.take k) l ||| 2 ^ ps[k].p else knowB (ps.take k) l := by
  rw [take_snoc ps k h, knowB, List.foldl_append]; rfl

/-- What a pair in range is. -/
def okHP (n : Nat) (h : HP) : Prop := h.p < n ∧ h.w < 3 ∧ h.l < 3 ∧ 1 ≤ h.c ∧ h.c ≤ n + 1

theorem fold_lt (n : Nat) (hn : n ≤ 9) (f : HP → Bool) : ∀ (ps : List HP) (S : Nat), (∀ h ∈ ps, okHP n h) → S < 512 → ps.foldl (fun S h => if f h = true then S ||| 2 ^ h.p else S) S < 512
  | [], S, _, hS => hS
  | h :: ps, S, hk, hS => by
    rw [List.foldl_cons]
    refine fold_lt n hn f ps _ (fun x hx => hk x (by simp [hx])) ?_
    split
    · exact or_lt h.p hS (by have := (hk h (by simp)).1; omega)
    · exact hS
theorem startB_lt {n : Nat} (hn : n ≤ 9) {ps : List HP} (hk : ∀ h ∈ ps, okHP n h) : startB ps < 512 := by
  have := fold_lt n hn (fun h => decide (h.w = 0)) ps 0 hk (by omega)
  simpa [startB] using this
theorem knowB_lt {n : Nat} (hn : n ≤ 9) {ps : List HP} (hk : ∀ h ∈ ps, okHP n h) (l : Nat) : knowB ps l < 512 := by
  have := fold_lt n hn (fun h => decide (h.l = l)) ps 0 hk (by omega)
  simpa [knowB] using this

theorem fold_bit (f : HP → Bool) (q : Nat) : ∀ (ps : List HP) (S : Nat), (ps.foldl (fun S h => if f h = true then S ||| 2 ^ h.p else S) S).testBit q = true ↔ S.testBit q = true ∨ ∃ h ∈ ps, f h = true ∧ h.p = q
  | [], S => by simp
  | h :: ps, S => by
    rw [List.foldl_cons, fold_bit f q ps]
    simp only [List.mem_cons, exists_eq_or_imp]
    cases hf : f h
    · simp
    · simp only [if_true, Plain.bit_or, Bool.or_eq_true, decide_eq_true_eq]
      constructor
      · rintro ((h1 | h1) | h1)
        · exact .inl h1
        · exact .inr (.inl ⟨trivial, h1.symm⟩)
        · exact .inr (.inr h1)
      · rintro (h1 | ⟨_, h1⟩ | h1)
        · exact .inl (.inl h1)
        · exact .inl (.inr h1.symm)
        · exact .inr h1
theorem startB_bit (ps : List HP) (q : Nat) : (startB ps).testBit q = true ↔ ∃ h ∈ ps, h.w = 0 ∧ h.p = q := by
  have := fold_bit (fun h => decide (h.w = 0)) q ps 0
  simpa [startB] using this
theorem knowB_bit (ps : List HP) (l q : Nat) : (knowB ps l).testBit q = true ↔ ∃ h ∈ ps, h.l = l ∧ h.p = q := by
  have := fold_bit (fun h => decide (h.l = l)) q ps 0
  simpa [knowB] using this

/-- The pairs lie in memory from address al on, four cells each. -/
def heldAt (w : World) (al : Option Addr) (ps : List HP) : Prop := ∀ t (h : t < ps.length), ∃ g, al = some ⟨g, 0, none⟩ ∧ g < w.heap.size ∧
  w.cell? ⟨g, t * 4, none⟩ = some (.int .i64 (ps[t].p : Int)) ∧ w.cell? ⟨g, t * 4 + 1, none⟩ = some (.int .i64 (ps[t].w : Int)) ∧ w.cell? ⟨g, t * 4 + 2, none⟩ = some (.int .i64 (ps[t].l : Int)) ∧ w.cell? ⟨g, t * 4 + 3, none⟩ = some (.int .i64 (ps[t].c : Int))
theorem heldAt.kept {S : Nat → Prop} {w w' : World} {al : Option Addr} {ps : List HP} (h : heldAt w al ps) (k : Kept S w w') (hS : ∀ g, g < w.heap.size → ¬ S g) : heldAt w' al ps := by
  intro t ht
  obtain ⟨g, h1, h2, c0, c1, c2, c3⟩ := h t ht
  exact ⟨g, h1, Nat.lt_of_lt_of_le h2 k.size, (k.cell h2 (hS g h2)).trans c0, (k.cell h2 (hS g h2)).trans c1, (k.cell h2 (hS g h2)).trans c2, (k.cell h2 (hS g h2)).trans c3⟩
end Go.Proofs.YbulkajboFmt
