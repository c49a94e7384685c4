import Derived.Test.YbulkajbaReleaseWalk
namespace Go.Proofs.Ybulkajba
open Go.RowKit
open Rel
set_option linter.unusedVariables false

/-- What is known of a slice of edges that came in. -/
def cameUU (w : World) (al : Option Addr) (m cl : Nat) (L : List (Int × Int)) : Prop :=
  L.length = m ∧ (al = none → m = 0 ∧ cl = 0) ∧ (∀ ad, al = some ad → ∀ i (h : i < L.length), w.cell? (ad.add (i * 2)) = some (.int .u8 L[i].1) ∧ w.cell? (ad.add (i * 2 + 1)) = some (.int .u8 L[i].2)) ∧
    ∀ i (h : i < L.length), 0 ≤ L[i].1 ∧ L[i].1 ≤ 255 ∧ 0 ≤ L[i].2 ∧ L[i].2 ≤ 255

theorem cameUU.at {w : World} {al : Option Addr} {m cl : Nat} {L : List (Int × Int)} (h : cameUU w al m cl L) {i : Nat} (hi : i < m) (hi' : i < L.length) :
    ∃ b off, al = some ⟨b, off, none⟩ ∧ b < w.heap.size ∧ w.cell? ⟨b, off + i * 2, none⟩ = some (.int .u8 L[i].1) ∧ w.cell? ⟨b, off + i * 2 + 1, none⟩ = some (.int .u8 L[i].2) := by
  obtain ⟨h1, h2, h3, _⟩ := h
  rcases al with _ | ⟨b, off, spot⟩
  · have := (h2 rfl).1; omega
  · obtain ⟨c0, _⟩ := h3 _ rfl 0 (by omega)
    have hs : spot = none := by simpa [Addr.add] using World.cell?_spot c0
    subst hs
    obtain ⟨c1, c2⟩ := h3 _ rfl i hi'
    rw [add_lit] at c1 c2
    exact ⟨b, off, rfl, World.block_lt_of_cell? w _ c1, c1, by rw [Nat.add_assoc]; exact c2⟩

/-- One edge of the raw ones, brought into range and turned upward. -/
def edge1 (N : Nat) (p : Int × Int) : List (Nat × Nat) :=
  let u := (p.1 % (N : Int)).toNat
  let v := (p.2 % (N : Int)).toNat
  if u = v then [] else if v < u then [(v, u)] else [(u, v)]
def edgesOf (N : Nat) (L : List (Int × Int)) : List (Nat × Nat) := L.flatMap (edge1 N)

theorem edgesOf_succ (N : Nat) (L : List (Int × Int)) (k : Nat) (h : k < L.length) : edgesOf N (L.take (k + 1)) = edgesOf N (L.take k) ++ edge1 N L[k] := by
  unfold edgesOf
  rw [List.take_succ_eq_append_getElem h, List.flatMap_append]; simp
theorem edge1_ok (N : Nat) (hN : 0 < N) (p : Int × Int) : ∀ q ∈ edge1 N p, q.1 < q.2 ∧ q.2 < N := by
  intro q hq
  have h1 := Int.emod_lt_of_pos p.1 (show (0 : Int) < (N : Int) by omega)
  have h2 := Int.emod_lt_of_pos p.2 (show (0 : Int) < (N : Int) by omega)
  unfold edge1 at hq
  dsimp only at hq
  split at hq
  · simp at hq
  · split at hq <;> (simp at hq; subst hq; simp only; omega)
theorem edgesOf_ok (N : Nat) (hN : 0 < N) (L : List (Int × Int)) : ∀ q ∈ edgesOf N L, q.1 < q.2 ∧ q.2 < N := by
  intro q hq
  obtain ⟨p, _, hp⟩ := List.mem_flatMap.1 hq
  exact edge1_ok N hN p q hp
theorem edgesOf_length (N : Nat) : ∀ L : List (Int × Int), (edgesOf N L).length ≤ L.length
  | [] => by simp [edgesOf]
  | p :: L => by
    have ih := edgesOf_length N L
    have : (edge1 N p).length ≤ 1 := by unfold edge1; dsimp only; split <;> (try split) <;> simp
    simp only [edgesOf, List.flatMap_cons, List.length_append, List.length_cons] at *
    omega

/-- Two rows of the call's own that grow together: the edges' ends. -/
structure Ends (w wr : World) (ge gv : Nat) (E : List (Nat × Nat)) : Prop where
  eu : wr.ownsRow w.heap.size 21 1 (.slice (some ⟨ge, 0, none⟩) E.length 24) E.length (E.map fun p => .int .i32 p.1)
  ev : wr.ownsRow w.heap.size 21 1 (.slice (some ⟨gv, 0, none⟩) E.length 24) E.length (E.map fun p => .int .i32 p.2)
  ne : ge < gv
  bel : Below w.heap.size w wr

theorem Ends.at {w wr : World} {ge gv : Nat} {E : List (Nat × Nat)} (h : Ends w wr ge gv E) (k : Nat) (hk : k < E.length) : wr.cell? ⟨ge, k, none⟩ = some (.int .i32 E[k].1) ∧ wr.cell? ⟨gv, k, none⟩ = some (.int .i32 E[k].2) :=
  ⟨by rw [h.eu.cellAt k (by omega)]; simp [List.getElem?_eq_getElem hk], by rw [h.ev.cellAt k (by omega)]; simp [List.getElem?_eq_getElem hk]⟩

theorem ends_push {w wr w3 w4 : World} {ge gv a b : Nat} {E : List (Nat × Nat)} {o1 o2 : Obj} (h : Ends w wr ge gv E) (hge : w.heap.size ≤ ge)
    (h1 : w3.ownsRow w.heap.size 21 1 (.slice (some ⟨ge, 0, none⟩) (E.length + 1) 24) (E.length + 1) ((E.map fun p => Value.int .i32 p.1) ++ [.int .i32 a])) (g1 : (wr.alloc o1).grownBy w3 (some ge))
    (h2 : w4.ownsRow w.heap.size 21 1 (.slice (some ⟨gv, 0, none⟩) (E.length + 1) 24) (E.length + 1) ((E.map fun p => Value.int .i32 p.2) ++ [.int .i32 b])) (g2 : (w3.alloc o2).grownBy w4 (some gv)) : Ends w w4 ge gv (E ++ [(a, b)]) := by
  have hb := h.bel
  have hs := hb.size
  have s1 := g1.size
  have s2 := g2.size
  have hne := h.ne
  simp only [World.size_alloc] at s1 s2
  refine ⟨?_, ?_, hne, ?_⟩
  · have := (h1.alloc o2).kept g2 (.inr (by simp [Value.ownBlock]; omega))
    simpa using this
  · simpa using h2
  · exact ((((hb.alloc hs o1).grown g1 (by simp; omega) (by intro k hk; simp at hk; omega)).alloc (by omega) o2).grown g2 (by simp; omega) (by intro k hk; simp at hk; omega))

/-- The edges' ends, as cells. -/
def edAt (w : World) (ge gv : Nat) (E : List (Nat × Nat)) : Prop :=
  (∀ k (h : k < E.length), w.cell? ⟨ge, k, none⟩ = some (.int .i32 E[k].1) ∧ w.cell? ⟨gv, k, none⟩ = some (.int .i32 E[k].2)) ∧ ge < w.heap.size ∧ gv < w.heap.size
theorem edAt.kept {w w' : World} {ge gv : Nat} {E : List (Nat × Nat)} {S : Nat → Prop} (h : edAt w ge gv E) (k : Kept S w w') (h1 : ¬ S ge) (h2 : ¬ S gv) : edAt w' ge gv E := by
  have hs := k.size
  exact ⟨fun i hi => ⟨(k.cell (p := ⟨ge, i, none⟩) h.2.1 h1).trans (h.1 i hi).1, (k.cell (p := ⟨gv, i, none⟩) h.2.2 h2).trans (h.1 i hi).2⟩, by have := h.2.1; omega, by have := h.2.2; omega⟩
theorem Ends.ed {w wr : World} {ge gv : Nat} {E : List (Nat × Nat)} (h : Ends w wr ge gv E) : edAt wr ge gv E :=
  ⟨fun k hk => h.at k hk, (h.eu.lt ge rfl).2, (h.ev.lt gv rfl).2⟩
theorem Kept.ofGrown {w w' : World} {row : Option Nat} (h : w.grownBy w' row) : Kept (fun k => row = some k) w w' :=
  ⟨h.os, h.tape, h.output, h.size, fun j hj hn => h.block j hj (fun e => hn e.symm)⟩
theorem made_ints (k : IntKind) (n : Nat) : (madeCells (Value.int k 0).cells (n * 1)).toList = (List.replicate n (0 : Int)).map (.int k) := by
  rw [show (Value.int k 0).cells = #[Value.int k 0] from rfl, toList_madeCells_one]; simp
theorem made_bools (n : Nat) : (madeCells (Value.bool false).cells (n * 1)).toList = List.replicate n (.bool false) := by
  rw [show (Value.bool false).cells = #[Value.bool false] from rfl, toList_madeCells_one]; simp

/-- How many of the edges come from the node ahead of x. -/
def cntK (E : List (Nat × Nat)) (x : Nat) : Nat := (E.filter fun p => p.1 + 1 == x).length
theorem cntK_snoc (E : List (Nat × Nat)) (k x : Nat) (h : k < E.length) : cntK (E.take (k + 1)) x = cntK (E.take k) x + if x = E[k].1 + 1 then 1 else 0 := by
  unfold cntK
  rw [List.take_succ_eq_append_getElem h, List.filter_append, List.length_append]
  by_cases hx : x = E[k].1 + 1
  · simp [hx]
  · have : (E[k].1 + 1 == x) = false := by simpa using fun e : E[k].1 + 1 = x => hx e.symm
    simp [hx, this]
theorem cntK_eq (E : List (Nat × Nat)) (u : Nat) : cntK E (u + 1) = (sucs E u).length := by
  unfold cntK sucs
  rw [List.length_map]
  congr 2
  funext p
  simp
theorem cntK_zero (E : List (Nat × Nat)) : cntK E 0 = 0 := by
  simp [cntK]
theorem cntK_le (E : List (Nat × Nat)) (x : Nat) : cntK E x ≤ E.length := List.length_filter_le _ _
theorem firstC_zero (E : List (Nat × Nat)) : firstC E 0 = 0 := by simp [firstC]
theorem firstC_mono (E : List (Nat × Nat)) {a b : Nat} (h : a ≤ b) : firstC E a ≤ firstC E b := by
  induction b with
  | zero => simp [Nat.le_zero.1 h]
  | succ b ih =>
    by_cases e : a = b + 1
    · rw [e]; exact Nat.le_refl _
    · rw [firstC_succ]; have := ih (by omega); omega

/-- The counts of loop 2. -/
def cntR (E : List (Nat × Nat)) (N k : Nat) : List Int := (List.range (N + 1)).map fun x => ((cntK (E.take k) x : Nat) : Int)
theorem cntR_at (E : List (Nat × Nat)) (N k x : Nat) (h : x ≤ N) : (cntR E N k).getD x 0 = ((cntK (E.take k) x : Nat) : Int) := by
  simp [cntR, show x < N + 1 by omega]
theorem cntR_length (E : List (Nat × Nat)) (N k : Nat) : (cntR E N k).length = N + 1 := by simp [cntR]
theorem cntR_step (E : List (Nat × Nat)) (N k : Nat) (h : k < E.length) : (cntR E N k).set (E[k].1 + 1) ((cntK (E.take k) (E[k].1 + 1) : Int) + 1) = cntR E N (k + 1) := by
  unfold cntR
  rw [range_set]
  refine List.map_congr_left fun x _ => ?_
  rw [cntK_snoc E k x h]
  by_cases hx : x = E[k].1 + 1
  · rw [if_pos hx, if_pos hx, hx]; omega
  · rw [if_neg hx, if_neg hx]; rfl

/-- The sums of loop 3. -/
def sumR (E : List (Nat × Nat)) (N x : Nat) : List Int := (List.range (N + 1)).map fun y => if y < x then ((firstC E y : Nat) : Int) else ((cntK E y : Nat) : Int)
theorem sumR_at (E : List (Nat × Nat)) (N x y : Nat) (h : y ≤ N) : (sumR E N x).getD y 0 = if y < x then ((firstC E y : Nat) : Int) else ((cntK E y : Nat) : Int) := by
  simp [sumR, show y < N + 1 by omega]
theorem sumR_length (E : List (Nat × Nat)) (N x : Nat) : (sumR E N x).length = N + 1 := by simp [sumR]
theorem sumR_start (E : List (Nat × Nat)) (N : Nat) : cntR E N E.length = sumR E N 1 := by
  unfold cntR sumR
  refine List.map_congr_left fun y _ => ?_
  rw [List.take_length]
  by_cases h : y < 1
  · obtain rfl : y = 0 := by omega
    simp [cntK_zero, firstC_zero]
  · rw [if_neg h]
theorem sumR_step (E : List (Nat × Nat)) (N x : Nat) (hx : 1 ≤ x) : (sumR E N x).set x (((cntK E x : Nat) : Int) + ((firstC E (x - 1) : Nat) : Int)) = sumR E N (x + 1) := by
  unfold sumR
  rw [range_set]
  refine List.map_congr_left fun y _ => ?_
  by_cases h : y = x
  · subst h
    obtain ⟨z, rfl⟩ : ∃ z, y = z + 1 := ⟨y - 1, by omega⟩
    rw [if_pos rfl, if_pos (by omega), cntK_eq, Nat.add_sub_cancel, firstC_succ]; omega
  · rw [if_neg h]
    by_cases h1 : y < x
    · rw [if_pos h1, if_pos (by omega)]
    · rw [if_neg h1, if_neg (by omega)]
theorem sumR_end (E : List (Nat × Nat)) (N : Nat) : sumR E N (N + 1) = (List.range (N + 1)).map fun y => ((firstC E y : Nat) : Int) := by
  unfold sumR
  refine List.map_congr_left fun y hy => ?_
  rw [if_pos (List.mem_range.1 hy)]

/-- The places of loop 4. -/
def posR (E : List (Nat × Nat)) (N k : Nat) : List Int := (List.range N).map fun u => ((firstC E u + (sucs (E.take k) u).length : Nat) : Int)
theorem posR_at (E : List (Nat × Nat)) (N k u : Nat) (h : u < N) : (posR E N k).getD u 0 = ((firstC E u + (sucs (E.take k) u).length : Nat) : Int) := by
  simp [posR, h]
theorem posR_length (E : List (Nat × Nat)) (N k : Nat) : (posR E N k).length = N := by simp [posR]
theorem sucs_snoc (E : List (Nat × Nat)) (k u : Nat) (h : k < E.length) : sucs (E.take (k + 1)) u = sucs (E.take k) u ++ if E[k].1 = u then [E[k].2] else [] := by
  unfold sucs
  rw [List.take_succ_eq_append_getElem h, List.filter_append, List.map_append]
  by_cases hx : E[k].1 = u
  · simp [hx]
  · have : (E[k].1 == u) = false := by simpa using hx
    simp [hx, this]
theorem posR_step (E : List (Nat × Nat)) (N k : Nat) (h : k < E.length) : (posR E N k).set E[k].1 (((firstC E E[k].1 + (sucs (E.take k) E[k].1).length : Nat) : Int) + 1) = posR E N (k + 1) := by
  unfold posR
  rw [range_set]
  refine List.map_congr_left fun u _ => ?_
  rw [sucs_snoc E k u h]
  by_cases hx : u = E[k].1
  · subst hx; rw [if_pos rfl, if_pos rfl]; simp; omega
  · rw [if_neg hx, if_neg (fun e => hx e.symm)]; simp
theorem sucs_take_le (E : List (Nat × Nat)) (k u : Nat) : (sucs (E.take k) u).length ≤ (sucs E u).length := by
  conv => rhs; rw [← List.take_append_drop k E]
  unfold sucs
  rw [List.filter_append, List.map_append, List.length_append]
  omega
theorem sucs_take_lt (E : List (Nat × Nat)) (k : Nat) (h : k < E.length) : (sucs (E.take k) E[k].1).length < (sucs E E[k].1).length := by
  have := sucs_take_le E (k + 1) E[k].1
  rw [sucs_snoc E k _ h, if_pos rfl] at this
  simp at this
  omega

/-- The targets laid so far. -/
def Laid (E : List (Nat × Nat)) (k : Nat) (S : List Int) : Prop :=
  S.length = E.length ∧ ∀ u i (h : i < (sucs (E.take k) u).length), S.getD (firstC E u + i) 0 = (((sucs (E.take k) u)[i] : Nat) : Int)
theorem laid_step (E : List (Nat × Nat)) (k : Nat) (h : k < E.length) (S : List Int) (hS : Laid E k S) : Laid E (k + 1) (S.set (firstC E E[k].1 + (sucs (E.take k) E[k].1).length) ((E[k].2 : Nat) : Int)) := by
  refine ⟨by simpa using hS.1, fun u i hi => ?_⟩
  have hlt := sucs_take_lt E k h
  have f1 := firstC_succ E E[k].1
  have f2 := firstC_le E (E[k].1 + 1)
  have hidx : firstC E E[k].1 + (sucs (E.take k) E[k].1).length < S.length := by rw [hS.1]; omega
  by_cases hu : E[k].1 = u
  · subst hu
    have hs : sucs (E.take (k + 1)) E[k].1 = sucs (E.take k) E[k].1 ++ [E[k].2] := by rw [sucs_snoc E k _ h, if_pos rfl]
    by_cases hi2 : i = (sucs (E.take k) E[k].1).length
    · subst hi2
      simp only [hs, List.getElem_concat_length]
      simp [hidx]
    · have hi3 : i < (sucs (E.take k) E[k].1).length := by rw [hs] at hi; simp at hi; omega
      simp only [hs, List.getElem_append_left hi3]
      rw [← hS.2 _ i hi3]
      simp only [List.getD_eq_getElem?_getD]
      rw [List.getElem?_set_ne (by omega)]
  · have hs : sucs (E.take (k + 1)) u = sucs (E.take k) u := by rw [sucs_snoc E k _ h, if_neg hu, List.append_nil]
    have hi3 : i < (sucs (E.take k) u).length := by rw [hs] at hi; exact hi
    simp only [hs]
    rw [← hS.2 _ i hi3]
    have g1 := sucs_take_le E k u
    have g2 := firstC_succ E u
    simp only [List.getD_eq_getElem?_getD]
    rw [List.getElem?_set_ne]
    rcases Nat.lt_or_gt_of_ne hu with hlt2 | hgt
    · have := firstC_mono E (show E[k].1 + 1 ≤ u by omega); omega
    · have := firstC_mono E (show u + 1 ≤ E[k].1 by omega); omega
theorem news_prefix {w : World} {g : Nat} {t : TypeId} {xs ys : List Value} (h : rowIs w g t ys) (hp : ∀ (j : Nat) (u : Value), xs[j]? = some u → ys[j]? = some u) : ∀ j u, xs[j]? = some u → w.cell? ((⟨g, 0, none⟩ : Addr).add j) = some u := fun j u hu => by
  rw [add_lit0, h.cell]; exact hp j u hu
theorem range_prefix (f : Nat → Int) (k : IntKind) (N : Nat) : ∀ (j : Nat) (u : Value), (((List.range N).map f).map (Value.int k))[j]? = some u → (((List.range (N + 1)).map f).map (Value.int k))[j]? = some u := by
  intro j u hu
  have hj : j < N := by
    have := (List.getElem?_eq_some_iff.1 hu).1
    simpa using this
  rw [← hu]
  simp [hj, show j < N + 1 by omega]
theorem posR_zero (E : List (Nat × Nat)) (N : Nat) : ((List.range N).map fun y => ((firstC E y : Nat) : Int)) = posR E N 0 := by
  unfold posR
  refine List.map_congr_left fun u _ => ?_
  simp [sucs]
theorem laid_zero (E : List (Nat × Nat)) : Laid E 0 (List.replicate E.length 0) := ⟨by simp, fun u i h => by simp [sucs] at h⟩
/-- The arrays that do not turn any more. -/
structure Pre (w : World) (ge gv bF bU b0 : Nat) (E : List (Nat × Nat)) (N : Nat) (S Z : List Int) : Prop where
  ed : edAt w ge gv E
  rf : rowIs w bF 3 (((List.range (N + 1)).map fun y => ((firstC E y : Nat) : Int)).map (.int .i64))
  ru : rowIs w bU 21 (S.map (.int .i32))
  rz : rowIs w b0 21 (Z.map (.int .i32))
theorem Pre.kept {w w' : World} {ge gv bF bU b0 : Nat} {E : List (Nat × Nat)} {N : Nat} {S Z : List Int} {Q : Nat → Prop} (h : Pre w ge gv bF bU b0 E N S Z) (k : Kept Q w w') (hq : ∀ b, b = ge ∨ b = gv ∨ b = bF ∨ b = bU ∨ b = b0 → ¬ Q b) : Pre w' ge gv bF bU b0 E N S Z :=
  ⟨h.ed.kept k (hq _ (by omega)) (hq _ (by omega)), k.row h.rf (hq _ (by omega)), k.row h.ru (hq _ (by omega)), k.row h.rz (hq _ (by omega))⟩
theorem and_nat (a : Nat) (x : Int) (ha : a < 18446744073709551616) : ∃ r : Nat, r < 18446744073709551616 ∧ bits BinOp.and IntKind.u64 (a : Int) (IntKind.u64.wrap x) = (r : Int) := by
  have h0 : 0 ≤ IntKind.u64.wrap x := by rw [IntKind.wrap_u64]; omega
  have h1 : IntKind.u64.wrap x < 18446744073709551616 := by rw [IntKind.wrap_u64]; omega
  generalize IntKind.u64.wrap x = y at *
  refine ⟨a &&& y.toNat, ?_, ?_⟩
  · exact Nat.lt_of_le_of_lt Nat.and_le_left ha
  · rw [u64_and (a : Int) y (by omega) (by omega) h0 h1, Int.toNat_natCast]
end Go.Proofs.Ybulkajba
