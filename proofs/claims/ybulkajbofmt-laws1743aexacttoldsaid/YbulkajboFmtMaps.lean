/- The three maps of checkQuorums: who knows a label, which quorums were given, how many correct ones know a label. -/
import Derived.Test.YbulkajboFmtSet
import Derived.Maps.RangeWalk
import Derived.Maps.Views
import Derived.DeepKeys4
namespace Go.Proofs.YbulkajboFmt
open Go.RowKit
open Go.Maps (Keyed)
set_option linter.unusedVariables false

section
variable {H : Type} {P : Program} (w : World) {o : Oper} {a : Act} {K : Act → World → Prop} {Q : Exit → Act → World → Prop}

theorem wp_lookup_gen (m x : Operand) (t : TypeId) (hop : o.op = Op.lookup t m x false) (k e : TypeId) (KY : Keyed P k) (ht : P.underlying t = some (.map k e)) (R : Value → Option (DataW H × List MemPlace)) (z : Value) (zd : DataW H) (zp : List MemPlace)
    (hz : (zeroValue e).run P w = .ok z w) (hzd : R z = some (zd, zp)) (b n : Nat) (D : DataW H)
    (hm : a.eval m = .map (some b)) (hown : w.ownsMap P k R b n D) (key : Value) (kl : Lit) (hx : a.eval x = key) (hkey : keyOf P k key = some kl)
    (hK : ∀ v ps, R v = some (D.atKey kl zd, ps) → K (a.put o.dst v) w) : o.wp P a w K Q := by
  obtain ⟨v, ps, hrun, hv⟩ := hown.lookup KY ht hz hzd hkey
  unfold Oper.wp
  simp [execOp, hop, hm, hx, hrun, Result.andThen]
  exact hK v ps hv

theorem wp_store_gen (m x v : Operand) (t : TypeId) (hop : o.op = Op.mapUpdate t m x v) (k e : TypeId) (KY : Keyed P k) (ht : P.underlying t = some (.map k e)) (R : Value → Option (DataW H × List MemPlace)) (b n : Nat) (D : DataW H)
    (hm : a.eval m = .map (some b)) (hown : w.ownsMap P k R b n D) (hn : n < maxLen) (key val : Value) (kl : Lit) (hx : a.eval x = key) (hv : a.eval v = val) (hkey : keyOf P k key = some kl)
    (d : DataW H) (ps : List MemPlace) (hval : R val = some (d, ps))
    (hK : ∀ w', w'.ownsMap P k R b (n + 1) (D.put kl d) → w.grownBy w' (some b) → K (a.put o.dst undef) w') : o.wp P a w K Q := by
  obtain ⟨w', hrun, r1, r2⟩ := hown.update KY ht hn hkey hval
  unfold Oper.wp
  simp [execOp, hop, hm, hx, hv, hrun, Result.andThen]
  exact hK w' r1 r2
end

theorem step_of_wp {P : Program} {ops : Array Oper} {o : Oper} {a : Act} {w : World} {K : Act → World → Prop} {Q : Exit → Act → World → Prop} {E : Prop} (hgd : o.guard = none) (h : o.wp P a w K Q) :
    if Region.wanted o (yielded ops a.tmps) = true then Oper.wp P o a w K Q else E := by
  have hw : Region.wanted o (yielded ops a.tmps) = true := by simp [Region.wanted, hgd]
  rw [if_pos hw]
  exact h

/-! ### who knows a label -/
abbrev U := Unit
theorem law3 : Keyed Ybaf.prog 3 := Maps.int_keyed Ybaf.underlying3
theorem zero53 (w : World) : (zeroValue 53).run Ybaf.prog w = .ok (.slice none 0 0) w := by kernel_rfl
theorem zero4 (w : World) : (zeroValue 4).run Ybaf.prog w = .ok (.bool false) w := by kernel_rfl
theorem zero3 (w : World) : (zeroValue 3).run Ybaf.prog w = .ok (.int .i64 0) w := by kernel_rfl

/-- How a set's slice reads: by its block. -/
def RK : Value → Option (DataW U × List MemPlace)
  | .slice none 0 0 => some (.lit (.int .i64 (-1)), [])
  | .slice (some ⟨b, 0, none⟩) 1 1 => some (.lit (.int .i64 (b : Int)), [])
  | _ => none
def kv : Option Nat → Value
  | none => .slice none 0 0
  | some b => .slice (some ⟨b, 0, none⟩) 1 1
def kd : Option Nat → DataW U
  | none => .lit (.int .i64 (-1))
  | some b => .lit (.int .i64 (b : Int))
theorem RK_kv (x : Option Nat) : RK (kv x) = some (kd x, []) := by cases x <;> rfl
theorem RK_inv {v : Value} {y : DataW U × List MemPlace} (h : RK v = some y) : ∃ x, v = kv x ∧ y = (kd x, []) := by
  unfold RK at h
  split at h
  · cases h; exact ⟨none, rfl, rfl⟩
  · cases h; exact ⟨some _, rfl, rfl⟩
  · cases h
theorem kd_inj {x y : Option Nat} (h : kd x = kd y) : x = y := by
  cases x <;> cases y <;> simp [kd] at h ⊢ <;> omega

/-- Block b is the map of who knows: at label l the set in block f l. -/
structure knowsD (D : DataW U) (f : Nat → Option Nat) : Prop where
  isMap : Maps.IsMap D
  look : ∀ l : Nat, l < 3 → D.atKey (.int .i64 (l : Int)) (kd none) = kd (f l)
  keys : ∀ kl, Maps.has D kl = true → ∃ l : Nat, l < 3 ∧ kl = .int .i64 (l : Int) ∧ (f l).isSome = true
  back : ∀ l : Nat, l < 3 → (f l).isSome = true → Maps.has D (.int .i64 (l : Int)) = true
def knowsAt (w : World) (b n : Nat) (f : Nat → Option Nat) : Prop := ∃ D, w.ownsMap Ybaf.prog 3 RK b n D ∧ knowsD D f
def upd (f : Nat → Option Nat) (l s : Nat) : Nat → Option Nat := fun x => if x = l then some s else f x

theorem knowsD_empty : knowsD (.map []) (fun _ => none) :=
  ⟨Maps.isMap_empty, fun l hl => rfl, fun kl h => by simp [Maps.has] at h, fun l hl h => by simp at h⟩
theorem i64_ne {x y : Nat} (h : x ≠ y) : (Lit.int .i64 (x : Int)) ≠ .int .i64 (y : Int) := by
  intro e; simp at e; omega
theorem knowsD.put {D : DataW U} {f : Nat → Option Nat} (h : knowsD D f) (l s : Nat) (hl : l < 3) : knowsD (D.put (.int .i64 (l : Int)) (kd (some s))) (upd f l s) := by
  refine ⟨h.isMap.put _ _, fun x hx => ?_, fun kl hkl => ?_, fun x hx hs => ?_⟩
  · by_cases e : x = l
    · subst e
      rw [Maps.atKey_put_same h.isMap (show WideAt.IsKeyLit (.int _ _) from trivial)]; simp [upd]
    · rw [Maps.atKey_put_other (i64_ne e), h.look x hx]; simp [upd, e]
  · by_cases e : kl = .int .i64 (l : Int)
    · exact ⟨l, hl, e, by simp [upd]⟩
    · rw [Maps.has_put_other e] at hkl
      obtain ⟨x, h1, h2, h3⟩ := h.keys kl hkl
      refine ⟨x, h1, h2, ?_⟩
      by_cases ex : x = l
      · rw [ex] at h2; exact absurd h2 e
      · simp [upd, ex]; exact h3
  · by_cases e : x = l
    · subst e; exact Maps.has_put_same h.isMap (show WideAt.IsKeyLit (.int _ _) from trivial) _
    · rw [Maps.has_put_other (i64_ne e)]
      refine h.back x hx ?_
      simpa [upd, e] using hs

theorem knowsAt_made (w : World) : knowsAt (w.alloc (.map #[] 0)) w.heap.size 0 (fun _ => none) := ⟨_, World.ownsMap_made w Ybaf.prog 3 RK, knowsD_empty⟩
theorem ownsMap_keptK {H : Type} {P : Program} {k : TypeId} {R : Value → Option (DataW H × List MemPlace)} {w w' : World} {b n : Nat} {D : DataW H} {S : Nat → Prop} (h : w.ownsMap P k R b n D) (hk : Kept S w w') (hS : ¬ S b) : w'.ownsMap P k R b n D := by
  have hlt := h.lt
  obtain ⟨es, clock, hb, r⟩ := h
  exact ⟨es, clock, (hk.block b hlt hS).trans hb, r⟩
theorem knowsAt.kept {w w' : World} {b n : Nat} {f : Nat → Option Nat} {S : Nat → Prop} (h : knowsAt w b n f) (hk : Kept S w w') (hS : ¬ S b) : knowsAt w' b n f := let ⟨D, h1, h2⟩ := h; ⟨D, ownsMap_keptK h1 hk hS, h2⟩
theorem knowsAt.lt {w : World} {b n : Nat} {f : Nat → Option Nat} (h : knowsAt w b n f) : b < w.heap.size := let ⟨_, h1, _⟩ := h; h1.lt
theorem wf_small (l : Nat) (hl : l < 100000) : (Lit.int .i64 (l : Int)).wf = true := WalkArith.wf_i64 (by omega)
theorem key3 (l : Nat) (hl : l < 3) : keyOf Ybaf.prog 3 (.int .i64 (l : Int)) = some (.int .i64 (l : Int)) := Maps.keyOf_int_mk Ybaf.underlying3 (wf_small l (by omega))

theorem wp_look_knows {w : World} {o : Oper} {a : Act} {K : Act → World → Prop} {Q : Exit → Act → World → Prop} (m x : Operand) (hop : o.op = Op.lookup 55 m x false) (b n : Nat) (f : Nat → Option Nat) (l : Nat) (hl : l < 3)
    (hm : a.eval m = .map (some b)) (hx : a.eval x = .int .i64 (l : Int)) (h : knowsAt w b n f) (hK : K (a.put o.dst (kv (f l))) w) : o.wp Ybaf.prog a w K Q := by
  obtain ⟨D, hown, hD⟩ := h
  refine wp_lookup_gen w m x 55 hop 3 53 law3 Ybaf.underlying55 RK (kv none) (kd none) [] (zero53 w) (RK_kv none) b n D hm hown _ _ hx (key3 l hl) (fun v ps hv => ?_)
  obtain ⟨y, rfl, e⟩ := RK_inv hv
  rw [hD.look l hl] at e
  have e1 := kd_inj (Prod.mk.inj e).1
  rw [← e1]; exact hK
theorem wpList_look_knows (w : World) {ops : Array Oper} {rest : List Oper} {o : Oper} {a : Act} {Q : Exit → Act → World → Prop} (hg : o.guard = none) (m x : Operand) (hop : o.op = Op.lookup 55 m x false) (b n : Nat) (f : Nat → Option Nat) (l : Nat) (hl : l < 3)
    (hm : a.eval m = .map (some b)) (hx : a.eval x = .int .i64 (l : Int)) (h : knowsAt w b n f) (hK : wpList Ybaf.prog ops Q rest (a.put o.dst (kv (f l))) w) : wpList Ybaf.prog ops Q (o :: rest) a w :=
  wpList_plain hg fun _ hK' => wp_look_knows m x hop b n f l hl hm hx h (hK' _ _ hK)
theorem wp_store_knows {w : World} {o : Oper} {a : Act} {K : Act → World → Prop} {Q : Exit → Act → World → Prop} (m x v : Operand) (hop : o.op = Op.mapUpdate 55 m x v) (b n : Nat) (f : Nat → Option Nat) (l s : Nat) (hl : l < 3) (hn : n < maxLen)
    (hm : a.eval m = .map (some b)) (hx : a.eval x = .int .i64 (l : Int)) (hv : a.eval v = .slice (some ⟨s, 0, none⟩) 1 1) (h : knowsAt w b n f)
    (hK : ∀ w', knowsAt w' b (n + 1) (upd f l s) → Kept (fun k => k = b) w w' → K (a.put o.dst undef) w') : o.wp Ybaf.prog a w K Q := by
  obtain ⟨D, hown, hD⟩ := h
  refine wp_store_gen w m x v 55 hop 3 53 law3 Ybaf.underlying55 RK b n D hm hown hn _ _ _ hx hv (key3 l hl) (kd (some s)) [] (RK_kv (some s)) (fun w' h1 h2 => ?_)
  exact hK w' ⟨_, h1, hD.put l s hl⟩ ((Kept.ofGrown h2).mono (fun k _ e => by simpa using e.symm))

/-! ### how many correct ones know a label -/
structure cntD (D : DataW U) (h : Nat → Nat) : Prop where
  isMap : Maps.IsMap D
  look : ∀ l : Nat, l < 3 → D.atKey (.int .i64 (l : Int)) (.lit (.int .i64 0)) = .lit (.int .i64 (h l : Int))
def cntAt (w : World) (b n : Nat) (h : Nat → Nat) : Prop := ∃ D, w.ownsMap (H := U) Ybaf.prog 3 (plainElem Ybaf.prog 3) b n D ∧ cntD D h
def updN (f : Nat → Nat) (l s : Nat) : Nat → Nat := fun x => if x = l then s else f x
theorem cntAt_made (w : World) : cntAt (w.alloc (.map #[] 0)) w.heap.size 0 (fun _ => 0) := ⟨_, World.ownsMap_made w Ybaf.prog 3 _, Maps.isMap_empty, fun l hl => rfl⟩
theorem cntAt.kept {w w' : World} {b n : Nat} {f : Nat → Nat} {S : Nat → Prop} (h : cntAt w b n f) (hk : Kept S w w') (hS : ¬ S b) : cntAt w' b n f := let ⟨D, h1, h2⟩ := h; ⟨D, ownsMap_keptK h1 hk hS, h2⟩
theorem cntAt.lt {w : World} {b n : Nat} {f : Nat → Nat} (h : cntAt w b n f) : b < w.heap.size := let ⟨_, h1, _⟩ := h; h1.lt
theorem cntD.put {D : DataW U} {f : Nat → Nat} (h : cntD D f) (l s : Nat) : cntD (D.put (.int .i64 (l : Int)) (.lit (.int .i64 (s : Int)))) (updN f l s) := by
  refine ⟨h.isMap.put _ _, fun x hx => ?_⟩
  by_cases e : x = l
  · subst e
    rw [Maps.atKey_put_same h.isMap (show WideAt.IsKeyLit (.int _ _) from trivial)]; simp [updN]
  · rw [Maps.atKey_put_other (i64_ne e), h.look x hx]; simp [updN, e]
theorem wpList_look_cnt (w : World) {ops : Array Oper} {rest : List Oper} {o : Oper} {a : Act} {Q : Exit → Act → World → Prop} (hg : o.guard = none) (m x : Operand) (hop : o.op = Op.lookup 71 m x false) (b n : Nat) (f : Nat → Nat) (l : Nat) (hl : l < 3)
    (hm : a.eval m = .map (some b)) (hx : a.eval x = .int .i64 (l : Int)) (h : cntAt w b n f) (hK : wpList Ybaf.prog ops Q rest (a.put o.dst (.int .i64 (f l : Int))) w) : wpList Ybaf.prog ops Q (o :: rest) a w := by
  obtain ⟨D, hown, hD⟩ := h
  refine wpList_lookup_own_int w hg m x 71 hop 3 3 .i64 law3 Ybaf.underlying71 Ybaf.underlying3 (zero3 w) b n D hm hown _ _ hx (key3 l hl) (fun c hat _ => ?_)
  rw [hD.look l hl] at hat
  have e : (f l : Int) = c := by simpa using hat
  rw [← e]; exact hK
theorem wpList_store_cnt (w : World) {ops : Array Oper} {rest : List Oper} {o : Oper} {a : Act} {Q : Exit → Act → World → Prop} (hg : o.guard = none) (m x v : Operand) (hop : o.op = Op.mapUpdate 71 m x v) (b n : Nat) (f : Nat → Nat) (l s : Nat) (hl : l < 3) (hs : s < 100000) (hn : n < maxLen)
    (hm : a.eval m = .map (some b)) (hx : a.eval x = .int .i64 (l : Int)) (hv : a.eval v = .int .i64 (s : Int)) (h : cntAt w b n f)
    (hK : ∀ w', cntAt w' b (n + 1) (updN f l s) → Kept (fun k => k = b) w w' → wpList Ybaf.prog ops Q rest (a.put o.dst undef) w') : wpList Ybaf.prog ops Q (o :: rest) a w := by
  obtain ⟨D, hown, hD⟩ := h
  refine wpList_mapUpdate_own w hg m x v 71 hop 3 3 law3 Ybaf.underlying71 _ b n D hm hown hn _ _ _ hx hv (key3 l hl) (.lit (.int .i64 (s : Int))) [] (plainElem_int Ybaf.underlying3 (wf_small s hs)) (fun w' h1 h2 => ?_)
  exact hK w' ⟨_, h1, hD.put l s⟩ ((Kept.ofGrown h2).mono (fun k _ e => by simpa using e.symm))

/-! ### which quorums were given -/
theorem Ybaf.laidOutP : laidOutB Ybaf.prog = true := by kernel_rfl
theorem law60 : Keyed Ybaf.prog 60 := Keyed.of_law (deep_law_laid Ybaf.laidOutP (m := 3) (by omega) (of_decide_eq_true (by kernel_rfl)) (by kernel_rfl) (by kernel_rfl))
/-- What a quorum reads as, as a key. -/
def kq (l c : Nat) : Lit := .string (keyBytes [.int .i64 (l : Int), .int .i64 (c : Int)])
theorem kq_key (l c : Nat) (hl : l < 3) (hc : c < 11) : keyOf Ybaf.prog 60 (.agg #[.int .i64 (l : Int), .int .i64 (c : Int)]) = some (kq l c) := by
  rcases (show l = 0 ∨ l = 1 ∨ l = 2 by omega) with rfl | rfl | rfl <;>
    rcases (show c = 0 ∨ c = 1 ∨ c = 2 ∨ c = 3 ∨ c = 4 ∨ c = 5 ∨ c = 6 ∨ c = 7 ∨ c = 8 ∨ c = 9 ∨ c = 10 by omega) with rfl | rfl | rfl | rfl | rfl | rfl | rfl | rfl | rfl | rfl | rfl <;> kernel_rfl
theorem kq_inj {l c l' c' : Nat} (hl : l < 3) (hc : c < 11) (hl' : l' < 3) (hc' : c' < 11) (h : kq l c = kq l' c') : (l, c) = (l', c') := by
  have h1 := kq_key l c hl hc
  have h2 := kq_key l' c' hl' hc'
  rw [h] at h1
  have e := law60.inj h1 h2
  simp at e
  rw [Prod.mk.injEq]; omega
structure givenD (D : DataW U) (G : List (Nat × Nat)) : Prop where
  isMap : Maps.IsMap D
  look : ∀ l c : Nat, l < 3 → c < 11 → D.atKey (kq l c) (.lit (.bool false)) = .lit (.bool (decide ((l, c) ∈ G)))
def givenAt (w : World) (b n : Nat) (G : List (Nat × Nat)) : Prop := ∃ D, w.ownsMap (H := U) Ybaf.prog 60 (plainElem Ybaf.prog 4) b n D ∧ givenD D G
theorem givenAt_made (w : World) : givenAt (w.alloc (.map #[] 0)) w.heap.size 0 [] := ⟨_, World.ownsMap_made w Ybaf.prog 60 _, Maps.isMap_empty, fun l c hl hc => by simp [DataW.atKey]⟩
theorem givenAt.kept {w w' : World} {b n : Nat} {f : List (Nat × Nat)} {S : Nat → Prop} (h : givenAt w b n f) (hk : Kept S w w') (hS : ¬ S b) : givenAt w' b n f := let ⟨D, h1, h2⟩ := h; ⟨D, ownsMap_keptK h1 hk hS, h2⟩
theorem givenAt.lt {w : World} {b n : Nat} {f : List (Nat × Nat)} (h : givenAt w b n f) : b < w.heap.size := let ⟨_, h1, _⟩ := h; h1.lt
theorem plainElem_bool_inv {P : Program} {e : TypeId} (he : P.underlying e = some .bool) {v : Value} {z : DataW U × List MemPlace} (h : plainElem P e v = some z) : ∃ x, v = .bool x ∧ z = (.lit (.bool x), []) := by
  unfold plainElem at h
  rw [he] at h
  cases v <;> simp at h
  subst h
  exact ⟨_, rfl, rfl⟩
theorem key_lit (v : Value) (x : Lit) (h : keyOf Ybaf.prog 60 v = some x) : WideAt.IsKeyLit x := law60.key h
theorem kq_lit (l c : Nat) (hl : l < 3) (hc : c < 11) : WideAt.IsKeyLit (kq l c) := by
  have h := kq_key l c hl hc
  generalize kq l c = x at h ⊢
  exact key_lit _ x h
theorem givenD.put {D : DataW U} {G : List (Nat × Nat)} (h : givenD D G) (l c : Nat) (hl : l < 3) (hc : c < 11) : givenD (D.put (kq l c) (.lit (.bool true))) (G ++ [(l, c)]) := by
  refine ⟨h.isMap.put _ _, fun l' c' hl' hc' => ?_⟩
  by_cases e : (l', c') = (l, c)
  · rw [Prod.mk.injEq] at e
    obtain ⟨rfl, rfl⟩ := e
    rw [Maps.atKey_put_same (k := kq l' c') h.isMap (kq_lit l' c' hl' hc')]; simp
  · rw [Maps.atKey_put_other (fun he => e (kq_inj hl' hc' hl hc he)), h.look l' c' hl' hc']
    have : ((l', c') ∈ G ++ [(l, c)]) ↔ (l', c') ∈ G := by
      rw [List.mem_append, List.mem_singleton]
      exact ⟨fun h => h.resolve_right e, .inl⟩
    simp only [this]
theorem wpList_look_given (w : World) {ops : Array Oper} {rest : List Oper} {o : Oper} {a : Act} {Q : Exit → Act → World → Prop} (hg : o.guard = none) (m x : Operand) (hop : o.op = Op.lookup 56 m x false) (b n : Nat) (G : List (Nat × Nat)) (l c : Nat) (hl : l < 3) (hc : c < 11)
    (hm : a.eval m = .map (some b)) (hx : a.eval x = .agg #[.int .i64 (l : Int), .int .i64 (c : Int)]) (h : givenAt w b n G) (bb : Bool) (hbb : decide ((l, c) ∈ G) = bb) (hK : wpList Ybaf.prog ops Q rest (a.put o.dst (.bool bb)) w) : wpList Ybaf.prog ops Q (o :: rest) a w := by
  obtain ⟨D, hown, hD⟩ := h
  refine wpList_plain hg fun _ hK' => wp_lookup_gen w m x 56 hop 60 4 law60 Ybaf.underlying56 _ (.bool false) (.lit (.bool false)) [] (zero4 w) (plainElem_bool Ybaf.underlying4 false) b n D hm hown _ _ hx (kq_key l c hl hc) (fun v ps hv => ?_)
  obtain ⟨y, rfl, e⟩ := plainElem_bool_inv Ybaf.underlying4 hv
  rw [hD.look l c hl hc, hbb] at e
  have e1 : bb = y := by simpa using (Prod.mk.inj e).1
  rw [← e1]; exact hK' _ _ hK
theorem wpList_store_given (w : World) {ops : Array Oper} {rest : List Oper} {o : Oper} {a : Act} {Q : Exit → Act → World → Prop} (hg : o.guard = none) (m x v : Operand) (hop : o.op = Op.mapUpdate 56 m x v) (b n : Nat) (G : List (Nat × Nat)) (l c : Nat) (hl : l < 3) (hc : c < 11) (hn : n < maxLen)
    (hm : a.eval m = .map (some b)) (hx : a.eval x = .agg #[.int .i64 (l : Int), .int .i64 (c : Int)]) (hv : a.eval v = .bool true) (h : givenAt w b n G)
    (hK : ∀ w', givenAt w' b (n + 1) (G ++ [(l, c)]) → Kept (fun k => k = b) w w' → wpList Ybaf.prog ops Q rest (a.put o.dst undef) w') : wpList Ybaf.prog ops Q (o :: rest) a w := by
  obtain ⟨D, hown, hD⟩ := h
  refine wpList_mapUpdate_own w hg m x v 56 hop 60 4 law60 Ybaf.underlying56 _ b n D hm hown hn _ _ _ hx hv (kq_key l c hl hc) (.lit (.bool true)) [] (plainElem_bool Ybaf.underlying4 true) (fun w' h1 h2 => ?_)
  exact hK w' ⟨_, h1, hD.put l c hl hc⟩ ((Kept.ofGrown h2).mono (fun k _ e => by simpa using e.symm))
end Go.Proofs.YbulkajboFmt
