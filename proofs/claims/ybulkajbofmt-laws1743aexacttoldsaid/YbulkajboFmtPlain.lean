/- THE PLAIN LAW: no Go in sight. -/
namespace Go.Proofs.YbulkajboFmt.Plain

def cnt (n : Nat) (f : Nat → Bool) : Nat := (List.range n).countP f
theorem cnt_zero (f : Nat → Bool) : cnt 0 f = 0 := rfl
theorem cnt_succ (n : Nat) (f : Nat → Bool) : cnt (n + 1) f = cnt n f + (if f n then 1 else 0) := by
  unfold cnt
  rw [List.range_succ, List.countP_append, List.countP_singleton]
theorem cnt_congr {n : Nat} {f g : Nat → Bool} (h : ∀ q, q < n → f q = g q) : cnt n f = cnt n g := by
  induction n with
  | zero => rfl
  | succ n ih => rw [cnt_succ, cnt_succ, ih (fun q hq => h q (by omega)), h n (by omega)]
theorem cnt_split (n : Nat) (f g : Nat → Bool) : cnt n f = cnt n (fun q => f q && g q) + cnt n (fun q => f q && !g q) := by
  induction n with
  | zero => rfl
  | succ n ih =>
    rw [cnt_succ, cnt_succ, cnt_succ, ih]
    cases f n <;> cases g n <;> simp <;> omega
theorem cnt_none {n : Nat} {f : Nat → Bool} (h : ∀ q, q < n → f q = false) : cnt n f = 0 := by
  rw [cnt_congr (g := fun _ => false) h]
  induction n with
  | zero => rfl
  | succ n ih => rw [cnt_succ, ih (fun q hq => h q (by omega))]; rfl
theorem cnt_le (n : Nat) (f : Nat → Bool) : cnt n f ≤ n := by
  induction n with
  | zero => exact Nat.le_refl _
  | succ n ih => rw [cnt_succ]; split <;> omega
theorem cnt_beyond {n m : Nat} {f : Nat → Bool} (hm : n ≤ m) (h : ∀ q, n ≤ q → f q = false) : cnt m f = cnt n f := by
  induction m with
  | zero => rw [show n = 0 by omega]
  | succ m ih =>
    rcases Nat.lt_or_ge m n with h1 | h1
    · rw [show m + 1 = n by omega]
    · rw [cnt_succ, ih h1, h m h1]; simp
theorem cnt_zero_iff {n : Nat} {f : Nat → Bool} (h : cnt n f = 0) : ∀ q, q < n → f q = false := by
  induction n with
  | zero => intro q hq; omega
  | succ n ih =>
    rw [cnt_succ] at h
    intro q hq
    rcases Nat.lt_or_ge q n with h1 | h1
    · exact ih (by omega) q h1
    · rw [show q = n by omega]
      cases hf : f n
      · rfl
      · simp [hf] at h

theorem bit_or (T p q : Nat) : (T ||| 2 ^ p).testBit q = (T.testBit q || decide (q = p)) := by
  rw [Nat.testBit_or, Nat.testBit_two_pow]
  simp [eq_comm]

/-- One round of 'chooseP': how many are chosen, and who is taken. -/
def pstep (k o y : Nat) (lack : Bool) (s : Nat × Nat) (p : Nat) : Nat × Nat :=
  if s.1 < y ∧ k.testBit p = true ∧ s.2.testBit p = false ∧ (lack = false ∨ o.testBit p = false) then (s.1 + 1, s.2 ||| 2 ^ p) else s
def pass (n k o y : Nat) (lack : Bool) (s : Nat × Nat) : Nat × Nat := (List.range n).foldl (pstep k o y lack) s
theorem pass_zero (k o y : Nat) (lack : Bool) (s : Nat × Nat) : pass 0 k o y lack s = s := rfl
theorem pass_succ (n k o y : Nat) (lack : Bool) (s : Nat × Nat) : pass (n + 1) k o y lack s = pstep k o y lack (pass n k o y lack s) n := by
  simp [pass, List.range_succ, List.foldl_append]
def chooseP (n k o y T : Nat) : Nat × Nat := pass n k o y false (pass n k o y true (0, T))
def apartB (n k1 y1 k2 y2 : Nat) : Bool :=
  decide ((chooseP n k1 k2 y1 0).1 = y1) && decide ((chooseP n k2 k1 y2 (chooseP n k1 k2 y1 0).2).1 = y2)

/-- Who may be chosen in a pass that finds T taken. -/
def av (k o T : Nat) (lack : Bool) (q : Nat) : Bool := k.testBit q && !T.testBit q && (!lack || !o.testBit q)

theorem pass_spec (k o y m T : Nat) (lack : Bool) (hm : m ≤ y) : ∀ n,
    (pass n k o y lack (m, T)).1 = min y (m + cnt n (av k o T lack)) ∧
    (∀ q, T.testBit q = true → (pass n k o y lack (m, T)).2.testBit q = true) ∧
    (∀ q, (pass n k o y lack (m, T)).2.testBit q = true → T.testBit q = true ∨ (q < n ∧ av k o T lack q = true)) ∧
    (∀ N, n ≤ N → cnt N (fun q => (pass n k o y lack (m, T)).2.testBit q && !T.testBit q) = (pass n k o y lack (m, T)).1 - m) ∧
    ((pass n k o y lack (m, T)).1 < y → ∀ q, q < n → av k o T lack q = true → (pass n k o y lack (m, T)).2.testBit q = true) := by
  intro n
  induction n with
  | zero =>
    refine ⟨by rw [pass_zero, cnt_zero]; omega, fun q h => h, fun q h => .inl h, fun N _ => ?_, fun _ q hq => by omega⟩
    rw [pass_zero]
    simp only [Nat.sub_self]
    exact cnt_none (fun q _ => by cases T.testBit q <;> rfl)
  | succ n ih =>
    obtain ⟨h1, h2, h3, h4, h5⟩ := ih
    generalize hs : pass n k o y lack (m, T) = s at h1 h2 h3 h4 h5
    rw [pass_succ, hs]
    have hTn : s.2.testBit n = T.testBit n := by
      cases hT : T.testBit n
      · cases hsn : s.2.testBit n
        · rfl
        · rcases h3 n hsn with h | h
          · rw [hT] at h; cases h
          · omega
      · exact h2 n hT
    rw [cnt_succ]
    by_cases hc : s.1 < y ∧ k.testBit n = true ∧ s.2.testBit n = false ∧ (lack = false ∨ o.testBit n = false)
    · have ha : av k o T lack n = true := by
        obtain ⟨_, c2, c3, c4⟩ := hc
        rw [hTn] at c3
        simp only [av, c2, c3]
        rcases c4 with c4 | c4 <;> simp [c4]
      rw [pstep, if_pos hc, ha]
      refine ⟨by simp only [if_true]; omega, fun q hq => by rw [bit_or, h2 q hq]; rfl, fun q hq => ?_, fun N hN => ?_, fun hy q hq haq => ?_⟩
      · rw [bit_or] at hq
        by_cases e : q = n
        · right; rw [e]; exact ⟨by omega, ha⟩
        · simp [e] at hq
          rcases h3 q hq with h | h
          · exact .inl h
          · exact .inr ⟨by omega, h.2⟩
      · have e4 := h4 N (by omega)
        rw [cnt_split N _ (fun q => decide (q = n))]
        have e1 : cnt N (fun q => ((s.2 ||| 2 ^ n).testBit q && !T.testBit q) && !decide (q = n)) = cnt N (fun q => s.2.testBit q && !T.testBit q) := by
          refine cnt_congr (fun q _ => ?_)
          rw [bit_or]
          by_cases e : q = n
          · subst e; simp [hc.2.2.1]
          · simp [e]
        have e2 : cnt N (fun q => ((s.2 ||| 2 ^ n).testBit q && !T.testBit q) && decide (q = n)) = 1 := by
          have e3 : ∀ M, n < M → cnt M (fun q => ((s.2 ||| 2 ^ n).testBit q && !T.testBit q) && decide (q = n)) = 1 := by
            intro M hM
            induction M with
            | zero => omega
            | succ M ihM =>
              rw [cnt_succ]
              rcases Nat.lt_or_ge n M with h | h
              · rw [ihM h]; simp [show ¬ M = n by omega]
              · have : M = n := by omega
                subst this
                rw [cnt_none (fun q hq => by simp [show ¬ q = M by omega]), bit_or]
                rw [hTn] at hc
                simp [hc.2.2.1]
          exact e3 N (by omega)
        rw [e1, e2, e4]
        show 1 + (s.1 - m) = s.1 + 1 - m
        have : m ≤ s.1 := by rw [h1]; omega
        omega
      · rw [bit_or]
        by_cases e : q = n
        · simp [e]
        · rw [h5 (by have : s.1 + 1 < y := hy; omega) q (by omega) haq]; rfl
    · rw [pstep, if_neg hc]
      refine ⟨?_, h2, fun q hq => ?_, fun N hN => h4 N (by omega), fun hy q hq haq => ?_⟩
      · cases ha : av k o T lack n
        · simp; exact h1
        · have : ¬ s.1 < y := by
            intro hy
            apply hc
            simp only [av, Bool.and_eq_true, Bool.or_eq_true, Bool.not_eq_true'] at ha
            exact ⟨hy, ha.1.1, by rw [hTn]; exact ha.1.2, ha.2⟩
          simp only [if_true]
          omega
      · rcases h3 q hq with h | h
        · exact .inl h
        · exact .inr ⟨by omega, h.2⟩
      · by_cases e : q = n
        · exfalso
          subst e
          apply hc
          simp only [av, Bool.and_eq_true, Bool.or_eq_true, Bool.not_eq_true'] at haq
          exact ⟨hy, haq.1.1, by rw [hTn]; exact haq.1.2, haq.2⟩
        · exact h5 hy q (by omega) haq

/-- .. how many 'chooseP' finds. -/
theorem chooseP_count (n k o y T : Nat) : (chooseP n k o y T).1 = min y (cnt n (fun q => k.testBit q && !T.testBit q)) := by
  obtain ⟨a1, a2, a3, a4, a5⟩ := pass_spec k o y 0 T true (Nat.zero_le _) n
  unfold chooseP
  generalize hs : pass n k o y true (0, T) = s at a1 a2 a3 a4 a5
  have hs' : s = (s.1, s.2) := rfl
  rw [hs']
  obtain ⟨b1, _⟩ := pass_spec k o y s.1 s.2 false (by omega) n
  rw [b1]
  have e1 := cnt_split n (fun q => k.testBit q && !T.testBit q) (fun q => s.2.testBit q)
  have e2 : cnt n (fun q => (k.testBit q && !T.testBit q) && s.2.testBit q) = s.1 := by
    rw [← Nat.sub_zero s.1, ← a4 n (Nat.le_refl _)]
    refine cnt_congr (fun q hq => ?_)
    cases hb : s.2.testBit q
    · simp
    · rcases a3 q hb with h | h
      · simp [h]
      · simp only [av, Bool.and_eq_true] at h
        rw [h.2.1.1, h.2.1.2]; rfl
  have e3 : cnt n (fun q => (k.testBit q && !T.testBit q) && !s.2.testBit q) = cnt n (av k o s.2 false) := by
    refine cnt_congr (fun q hq => ?_)
    unfold av
    cases hb : s.2.testBit q
    · have : T.testBit q = false := by
        cases hT : T.testBit q
        · rfl
        · rw [a2 q hT] at hb; cases hb
      simp [this]
    · simp
  rw [e2, e3] at e1
  omega

/-- .. how many of them the other pair's label knows. -/
theorem chooseP_met (n k o y : Nat) : cnt n (fun q => o.testBit q && (chooseP n k o y 0).2.testBit q) =
    min y (cnt n (fun q => k.testBit q)) - min y (cnt n (fun q => k.testBit q && !o.testBit q)) := by
  have hall := chooseP_count n k o y 0
  simp only [Nat.zero_testBit, Bool.not_false, Bool.and_true] at hall
  obtain ⟨a1, a2, a3, a4, a5⟩ := pass_spec k o y 0 0 true (Nat.zero_le _) n
  unfold chooseP at hall ⊢
  generalize hs : pass n k o y true (0, 0) = s at hall a1 a2 a3 a4 a5 ⊢
  have hs' : s = (s.1, s.2) := rfl
  rw [hs'] at hall ⊢
  obtain ⟨b1, b2, b3, b4, b5⟩ := pass_spec k o y s.1 s.2 false (by omega) n
  generalize ht : pass n k o y false (s.1, s.2) = t at hall b1 b2 b3 b4 b5 ⊢
  have hav : cnt n (av k o 0 true) = cnt n (fun q => k.testBit q && !o.testBit q) := cnt_congr (fun q _ => by simp [av])
  rw [hav, Nat.zero_add] at a1
  have b4 := b4 n (Nat.le_refl _)
  rw [← hall, ← a1, ← b4]
  have hno : ∀ q, s.2.testBit q = true → o.testBit q = false := fun q hq => by
    rcases a3 q hq with h | h
    · simp at h
    · simp [av] at h; exact h.2.2
  by_cases hy : s.1 < y
  · have a5 := a5 hy
    refine cnt_congr (fun q hq => ?_)
    cases ht2 : t.2.testBit q
    · simp
    · cases hs2 : s.2.testBit q
      · rcases b3 q ht2 with h | h
        · rw [hs2] at h; cases h
        · cases ho : o.testBit q
          · have hk : k.testBit q = true := by simp [av] at h; exact h.2.1
            have := a5 q hq (by simp [av, hk, ho])
            rw [hs2] at this; cases this
          · rfl
      · simp [hno q hs2]
  · have hz : cnt n (fun q => t.2.testBit q && !s.2.testBit q) = 0 := by rw [b4]; omega
    rw [hz]
    refine cnt_none (fun q hq => ?_)
    have := cnt_zero_iff hz q hq
    cases ht2 : t.2.testBit q
    · simp
    · rw [ht2] at this
      simp at this
      simp [hno q this]

/-- The model's three counts. -/
def ca (n k1 k2 : Nat) : Nat := cnt n (fun q => k1.testBit q && !k2.testBit q)
def cc (n k1 k2 : Nat) : Nat := cnt n (fun q => k1.testBit q && k2.testBit q)
def Bad (n k1 y1 k2 y2 : Nat) : Prop := y1 ≤ ca n k1 k2 + cc n k1 k2 ∧ y2 ≤ ca n k2 k1 + cc n k1 k2 ∧ (y1 - ca n k1 k2) + (y2 - ca n k2 k1) ≤ cc n k1 k2

theorem cc_comm (n k1 k2 : Nat) : cc n k1 k2 = cc n k2 k1 := cnt_congr (fun _ _ => Bool.and_comm _ _)
theorem Bad.symm {n k1 y1 k2 y2 : Nat} (h : Bad n k1 y1 k2 y2) : Bad n k2 y2 k1 y1 := by
  unfold Bad at h ⊢
  rw [cc_comm n k2 k1]
  omega

theorem apart_iff (n k1 y1 k2 y2 : Nat) : apartB n k1 y1 k2 y2 = true ↔ Bad n k1 y1 k2 y2 := by
  unfold apartB
  have h1 := chooseP_count n k1 k2 y1 0
  have h2 := chooseP_count n k2 k1 y2 (chooseP n k1 k2 y1 0).2
  have h3 := chooseP_met n k1 k2 y1
  simp only [Nat.zero_testBit, Bool.not_false, Bool.and_true] at h1
  have s1 := cnt_split n (fun q => k1.testBit q) (fun q => k2.testBit q)
  have s2 := cnt_split n (fun q => k2.testBit q) (fun q => k1.testBit q)
  have s3 := cnt_split n (fun q => k2.testBit q) (fun q => (chooseP n k1 k2 y1 0).2.testBit q)
  have c1 : cnt n (fun q => k1.testBit q && !k2.testBit q) = ca n k1 k2 := rfl
  have c2 : cnt n (fun q => k2.testBit q && !k1.testBit q) = ca n k2 k1 := rfl
  have c3 : cnt n (fun q => k1.testBit q && k2.testBit q) = cc n k1 k2 := rfl
  have c4 : cnt n (fun q => k2.testBit q && k1.testBit q) = cc n k1 k2 := cc_comm n k2 k1
  rw [c1, c3] at s1
  rw [c2, c4] at s2
  rw [c1] at h3
  rw [h3] at s3
  unfold Bad
  simp only [Bool.and_eq_true, decide_eq_true_eq]
  generalize chooseP n k1 k2 y1 0 = A at *
  generalize chooseP n k2 k1 y2 A.2 = B at *
  rw [h1, h2]
  omega
end Go.Proofs.YbulkajboFmt.Plain
