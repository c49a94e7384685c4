/- What release does to the counts, in plain numbers: no Go in sight. -/
namespace Go.Proofs.Ybulkajba.Rel

/-- The nodes that the edges from u go to, in order. -/
def sucs (E : List (Nat × Nat)) (u : Nat) : List Nat := (E.filter fun p => p.1 == u).map (·.2)
def mult (E : List (Nat × Nat)) (u x : Nat) : Nat := (sucs E u).count x

/-- How often a node that waits for w is released when it is counted d times. -/
def trig (w : Int) (d : Nat) : Nat := if d = 0 then 0 else if w ≤ 1 then d else if w ≤ d then ((d : Int) - w + 1).toNat else 0

theorem trig_zero (w : Int) : trig w 0 = 0 := rfl
theorem trig_succ (w : Int) (d : Nat) : trig w (d + 1) = trig w d + if 0 < w - ((d + 1 : Nat) : Int) then 0 else 1 := by
  unfold trig
  split <;> split <;> split <;> (try split) <;> (try split) <;> (try split) <;> omega
theorem trig_pos (w : Int) (d : Nat) : 0 < trig w d ↔ 0 < d ∧ w ≤ d := by
  unfold trig
  split
  · omega
  · split
    · omega
    · split <;> omega

def bump (c : Nat → Nat) (x : Nat) : Nat → Nat := fun i => if i = x then c i + 1 else c i
theorem bump_self (c : Nat → Nat) (x : Nat) : bump c x x = c x + 1 := by simp [bump]
theorem bump_other (c : Nat → Nat) (x i : Nat) (h : i ≠ x) : bump c x i = c i := by simp [bump, h]

theorem bump_le (c : Nat → Nat) (y x : Nat) : c x ≤ bump c y x ∧ bump c y x ≤ c x + 1 := by unfold bump; split <;> omega

/-- One successor, counted. -/
def stepC (w0 : Nat → Int) (T : Nat) (r : Nat → (Nat → Nat) → (Nat → Nat)) (c : Nat → Nat) (x : Nat) : Nat → Nat :=
  if 0 < w0 x - ((c x + 1 : Nat) : Int) then bump c x else if T ≤ x then r x (bump c x) else bump c x

def relC (E : List (Nat × Nat)) (w0 : Nat → Int) (T : Nat) : Nat → Nat → (Nat → Nat) → (Nat → Nat)
  | 0 => fun _ c => c
  | f + 1 => fun v c => (sucs E v).foldl (stepC w0 T (relC E w0 T f)) c

theorem relC_succ (E : List (Nat × Nat)) (w0 : Nat → Int) (T f v : Nat) (c : Nat → Nat) : relC E w0 T (f + 1) v c = (sucs E v).foldl (stepC w0 T (relC E w0 T f)) c := rfl

/-- A bound on how often all nodes together are counted. -/
def depthB : Nat → Nat
  | 0 => 0
  | f + 1 => 24 * (1 + depthB f)

theorem depthB_mono (f : Nat) : depthB f ≤ depthB (f + 1) := by simp [depthB]; omega

theorem sucs_mem {E : List (Nat × Nat)} {u x : Nat} (h : x ∈ sucs E u) : (u, x) ∈ E := by
  simp only [sucs, List.mem_map, List.mem_filter, beq_iff_eq] at h
  obtain ⟨⟨a, b⟩, ⟨h1, h2⟩, h3⟩ := h
  simp only at h2 h3
  subst h2; subst h3; exact h1

theorem sucs_length (E : List (Nat × Nat)) (u : Nat) : (sucs E u).length ≤ E.length := by
  simp [sucs]; exact List.length_filter_le _ _

section
variable (E : List (Nat × Nat)) (w0 : Nat → Int) (T N : Nat)

/-- What the releases of barriers owe to x. -/
def flow (c : Nat → Nat) (x : Nat) : Nat := ((List.range N).map fun u => if T ≤ u then trig (w0 u) (c u) * mult E u x else 0).sum

theorem sum_bump (g g' : Nat → Nat) (y k : Nat) (hy : g' y = g y + k) (ho : ∀ u, u ≠ y → g' u = g u) : ∀ n, y < n → ((List.range n).map g').sum = ((List.range n).map g).sum + k := by
  intro n
  induction n with
  | zero => intro h; omega
  | succ n ih =>
    intro h
    rw [List.range_succ, List.map_append, List.map_append, List.sum_append, List.sum_append]
    simp only [List.map_cons, List.map_nil, List.sum_cons, List.sum_nil]
    by_cases he : y = n
    · subst he
      have : (List.range y).map g' = (List.range y).map g := List.map_congr_left fun u hu => ho u (by have := List.mem_range.1 hu; omega)
      rw [this, hy]; omega
    · rw [ih (by omega), ho n (fun e => he e.symm)]; omega

theorem sum_same (g g' : Nat → Nat) (n : Nat) (ho : ∀ u, u < n → g' u = g u) : ((List.range n).map g').sum = ((List.range n).map g).sum := by
  rw [List.map_congr_left fun u hu => ho u (List.mem_range.1 hu)]

theorem sum_zero (n : Nat) : ((List.range n).map fun _ => 0).sum = 0 := by
  induction n with
  | zero => rfl
  | succ n ih => rw [List.range_succ, List.map_append, List.sum_append, ih]; rfl

theorem flow_bump (c : Nat → Nat) (y x : Nat) (hy : y < N) : flow E w0 T N (bump c y) x = flow E w0 T N c x + if T ≤ y ∧ ¬ 0 < w0 y - ((c y + 1 : Nat) : Int) then mult E y x else 0 := by
  unfold flow
  refine sum_bump _ _ y _ ?_ ?_ N hy
  · simp only [bump_self, trig_succ]
    by_cases h1 : T ≤ y <;> by_cases h2 : 0 < w0 y - ((c y + 1 : Nat) : Int)
    · rw [if_pos h1, if_pos h1, if_pos h2, if_neg (fun h => h.2 h2)]; rfl
    · rw [if_pos h1, if_pos h1, if_neg h2, if_pos ⟨h1, h2⟩, Nat.add_mul, Nat.one_mul]
    · rw [if_neg h1, if_neg h1, if_neg (fun h => h1 h.1)]
    · rw [if_neg h1, if_neg h1, if_neg (fun h => h1 h.1)]
  · intro u hu
    simp only [bump_other c y u hu]

/-- Everything that is asked of one release. -/
structure Good (v : Nat) (c c' : Nat → Nat) (k D : Nat → Nat) : Prop where
  up : ∀ x, c x ≤ c' x
  low : ∀ x, x ≤ v → c' x = c x
  bd : ∀ x, c' x ≤ c x + D 0
  flow : ∀ x, c' x + flow E w0 T N c x = c x + k x + flow E w0 T N c' x

theorem fold_good (r : Nat → (Nat → Nat) → (Nat → Nat)) (v D : Nat) (hr : ∀ y c, v < y → y < N → T ≤ y → Good E w0 T N y c (r y c) (mult E y) (fun _ => D)) :
    ∀ (L : List Nat) (c : Nat → Nat), (∀ y ∈ L, v < y ∧ y < N) → Good E w0 T N v c (L.foldl (stepC w0 T r) c) (fun x => L.count x) (fun _ => L.length * (1 + D)) := by
  intro L
  induction L with
  | nil => intro c _; exact ⟨fun _ => Nat.le_refl _, fun _ _ => rfl, fun _ => by simp, fun _ => by simp⟩
  | cons y L ih =>
    intro c hL
    obtain ⟨hy1, hy2⟩ := hL y (List.mem_cons_self ..)
    rw [List.foldl_cons]
    have one : Good E w0 T N v c (stepC w0 T r c y) (fun x => if x = y then 1 else 0) (fun _ => 1 + D) := by
      have hfb := fun x => flow_bump E w0 T N c y x hy2
      unfold stepC
      by_cases h2 : 0 < w0 y - ((c y + 1 : Nat) : Int)
      · rw [if_pos h2]
        have h3 : ∀ x, flow E w0 T N (bump c y) x = flow E w0 T N c x := fun x => by rw [hfb x, if_neg (fun h => h.2 h2)]; rfl
        refine ⟨fun x => ?_, fun x hx => ?_, fun x => ?_, fun x => ?_⟩
        · unfold bump; split <;> omega
        · exact bump_other c y x (by omega)
        · unfold bump; split <;> omega
        · rw [h3 x]; unfold bump; split <;> omega
      · rw [if_neg h2]
        by_cases h1 : T ≤ y
        · rw [if_pos h1]
          have g := hr y (bump c y) hy1 hy2 h1
          refine ⟨fun x => ?_, fun x hx => ?_, fun x => ?_, fun x => ?_⟩
          · have := g.up x; have := bump_le c y x; omega
          · rw [g.low x (by omega), bump_other c y x (by omega)]
          · have := g.bd x; have := bump_le c y x; omega
          · have e := g.flow x
            rw [hfb x, if_pos ⟨h1, h2⟩] at e
            by_cases hx : x = y
            · subst hx; rw [bump_self] at e; rw [if_pos rfl]; omega
            · rw [bump_other c y x hx] at e; rw [if_neg hx]; omega
        · rw [if_neg h1]
          have h3 : ∀ x, flow E w0 T N (bump c y) x = flow E w0 T N c x := fun x => by rw [hfb x, if_neg (fun h => h1 h.1)]; rfl
          refine ⟨fun x => ?_, fun x hx => ?_, fun x => ?_, fun x => ?_⟩
          · unfold bump; split <;> omega
          · exact bump_other c y x (by omega)
          · unfold bump; split <;> omega
          · rw [h3 x]; unfold bump; split <;> omega
    have rest := ih (stepC w0 T r c y) (fun z hz => hL z (List.mem_cons_of_mem _ hz))
    refine ⟨fun x => Nat.le_trans (one.up x) (rest.up x), fun x hx => (rest.low x hx).trans (one.low x hx), fun x => ?_, fun x => ?_⟩
    · have a := one.bd x
      have b := rest.bd x
      rw [List.length_cons, Nat.add_mul]; omega
    · have a := one.flow x
      have b := rest.flow x
      rw [List.count_cons]
      by_cases hx : x = y
      · subst hx
        rw [if_pos rfl] at a
        simp only [beq_self_eq_true, if_true]; omega
      · rw [if_neg hx] at a
        have : (y == x) = false := by simpa using fun e : y = x => hx e.symm
        rw [this]; simp only [Bool.false_eq_true, if_false]; omega

theorem rel_good (hE : ∀ p ∈ E, p.1 < p.2 ∧ p.2 < N) (hl : E.length ≤ 24) : ∀ (f v : Nat) (c : Nat → Nat), 1 ≤ f → N + 1 ≤ f + (v + 1) ∨ N + 1 ≤ f + T → Good E w0 T N v c (relC E w0 T f v c) (mult E v) (fun _ => depthB f) := by
  intro f
  induction f with
  | zero => intro v c h _; omega
  | succ f ih =>
    intro v c _ hf
    have g := fold_good E w0 T N (relC E w0 T f) v (depthB f) (fun y c hy hyN hT => ih y c (by omega) (.inl (by omega))) (sucs E v) c (fun y hy => by have := hE _ (sucs_mem hy); exact this)
    rw [relC_succ]
    refine ⟨g.up, g.low, fun x => ?_, g.flow⟩
    have := g.bd x
    have hsl := sucs_length E v
    have hm : (sucs E v).length * (1 + depthB f) ≤ 24 * (1 + depthB f) := Nat.mul_le_mul_right _ (by omega)
    simp only [depthB] at this ⊢
    omega

/-- How often each node is released, once all is done. -/
def tm (v : Nat) (c : Nat → Nat) (u : Nat) : Nat := if u = v then 1 else if T ≤ u then trig (w0 u) (c u) else 0

/-- What the edges into x bring. -/
def esum (E : List (Nat × Nat)) (t : Nat → Nat) (x : Nat) : Nat := (E.map fun p => if p.2 = x then t p.1 else 0).sum

theorem esum_mult (t : Nat → Nat) (x : Nat) : ∀ E : List (Nat × Nat), (∀ p ∈ E, p.1 < N) → esum E t x = ((List.range N).map fun u => t u * mult E u x).sum := by
  intro E
  induction E with
  | nil =>
    intro _
    rw [sum_same (fun _ => 0) _ N (fun u _ => by simp [mult, sucs]), sum_zero]
    rfl
  | cons p E ih =>
    intro h
    have hp := h p (List.mem_cons_self ..)
    have e := ih fun q hq => h q (List.mem_cons_of_mem _ hq)
    have : esum (p :: E) t x = (if p.2 = x then t p.1 else 0) + esum E t x := by simp [esum]
    rw [this, e, sum_bump (fun u => t u * mult E u x) (fun u => t u * mult (p :: E) u x) p.1 (if p.2 = x then t p.1 else 0) ?_ ?_ N hp]
    · omega
    · by_cases hx : p.2 = x
      · simp [mult, sucs, hx, Nat.mul_add]
      · simp [mult, sucs, hx]
    · intro u hu
      have : (p.1 == u) = false := by simpa using fun e : p.1 = u => hu e.symm
      simp [mult, sucs, this]

/-- The counts at the end are what the plain model sums. -/
theorem final_count (hE : ∀ p ∈ E, p.1 < p.2 ∧ p.2 < N) (hl : E.length ≤ 24) (f v : Nat) (hv : v < N) (h1 : 1 ≤ f) (hf : N + 1 ≤ f + T) (x : Nat) :
    esum E (tm w0 T v (relC E w0 T f v fun _ => 0)) x = relC E w0 T f v (fun _ => 0) x := by
  have g := rel_good E w0 T N hE hl f v (fun _ => 0) h1 (.inr hf)
  generalize relC E w0 T f v (fun _ => 0) = c at *
  have e := g.flow x
  have f0 : flow E w0 T N (fun _ => 0) x = 0 := by
    unfold flow
    rw [sum_same (fun _ => 0) _ N (fun u _ => by simp [trig_zero]), sum_zero]
  rw [f0] at e
  rw [esum_mult N _ x E (fun p hp => by have := hE p hp; omega)]
  have hcv : c v = 0 := g.low v (Nat.le_refl _)
  rw [sum_bump (fun u => if T ≤ u then trig (w0 u) (c u) * mult E u x else 0) (fun u => tm w0 T v c u * mult E u x) v (mult E v x) ?_ ?_ N hv]
  · unfold flow at e; omega
  · simp [tm, hcv, trig_zero]
  · intro u hu
    simp only [tm, if_neg hu]
    split <;> simp
end
end Go.Proofs.Ybulkajba.Rel
