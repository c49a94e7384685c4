import Derived.Test.YbulkajbaPrepC
import Derived.Great.Walk
namespace Go.Proofs.Ybulkajba
open Go.RowKit
open Rel
set_option linter.unusedVariables false

theorem wpList_buildSlice_as {ops : Array Oper} {rest : List Oper} {o : Oper} {a : Act} {w : World} {Q : Exit → Act → World → Prop} (hg : o.guard = none) (t e : TypeId) (len : Nat) (L : List (Nat × Operand)) (ho : o.op = .buildSlice t len L.toArray)
    (N : Nat) (hN : w.heap.size = N) (dst : Option Tmp) (hdst : o.dst = dst) (hu : Yba.prog.underlying t = some (.slice e)) (M : List (Nat × Value)) (hM : L.map (fun p => (p.1, a.eval p.2)) = M) (cells : Array Value)
    (hf : Yba.prog.builtSlice e len M = some cells)
    (h : wpList Yba.prog ops Q rest (a.put dst (.slice (some ⟨N, 0, none⟩) len len)) (w.alloc (.cells cells e))) : wpList Yba.prog ops Q (o :: rest) a w := by
  refine Great.wpList_buildSliceTo hg t e len L.toArray ho N hN dst hdst hu cells ?_ h
  rw [Array.toList_map]
  rw [← hf, ← hM]

theorem bs22 (x : Int) : Yba.prog.builtSlice 26 1 [(0, .int .u64 x)] = some #[.int .u64 x] := by kernel_rfl
theorem bs77 (a : Option Addr) (n c : Nat) : Yba.prog.builtSlice 22 1 [(0, .slice a n c)] = some #[.slice a n c] := by kernel_rfl
theorem run79 (a : Option Addr) (n c : Nat) (w : World) : (Instr.build 79 #[(0, .slice a n c)]).run Yba.prog w = .ok (.agg #[.slice a n c]) w := run_build w 79 #[(0, .slice a n c)] _ (by kernel_rfl)
theorem und77 : Yba.prog.underlying 77 = some (.slice 22) := by kernel_rfl
theorem und22 : Yba.prog.underlying 22 = some (.slice 26) := by kernel_rfl

theorem stat_of {bS bC bW bP bL bV bR ge gv bF bU b0 : Nat} {ax : Option Addr} {cx N T m : Nat} {E : List (Nat × Nat)} {w0f : Nat → Int} {r0 : Nat} {S Z : List Int} {w : World} {cs : List Value}
    (hP : Pre w ge gv bF bU b0 E N S Z) (hS : Laid E m S) (hm : m = E.length)
    (hC : w.cell? ⟨bC, 0, none⟩ = some (.slice ax T cx) ∧ w.cell? ⟨bC, 3, none⟩ = some (.slice (some ⟨bF, 0, none⟩) (N + 1) (N + 1)) ∧ w.cell? ⟨bC, 4, none⟩ = some (.slice (some ⟨bU, 0, none⟩) m m))
    (hL : rowIs w bL 21 (((List.range T).map fun (x : Nat) => (x : Int)).map (.int .i32)))
    (hs : rowIs w bS 84 cs) (c0 : cs[0]? = some (.pointer (some ⟨bC, 0, none⟩))) (c1 : cs[1]? = some (.slice (some ⟨bW, 0, none⟩) N N)) (c2 : cs[2]? = some (.slice (some ⟨bP, 0, none⟩) N N)) (c5 : cs[5]? = some (.slice (some ⟨bL, 0, none⟩) T T)) (c10 : cs[10]? = some (.slice (some ⟨bV, 0, none⟩) 1 1))
    (hV : rowIs w bV 22 [.slice (some ⟨bR, 0, none⟩) 1 1]) : Stat ⟨bS, bC, bW, bP, bL, bV, bR, bF, bU, ax, cx, N, T, E, w0f, r0⟩ w := by
  subst hm
  refine ⟨(hs.cell _).trans c0, (hs.cell _).trans c1, (hs.cell _).trans c2, (hs.cell _).trans c5, (hs.cell _).trans c10, hC.1, hC.2.1, hC.2.2, (hV.cell _).trans rfl, ?_, ?_, ?_, ?_⟩
  · intro i hi
    show w.cell? ⟨bL, i, none⟩ = _
    have hi' : i < T := hi
    rw [hL.cell]; simp [hi']
  · intro i hi
    show w.cell? ⟨bF, i, none⟩ = _
    have hi' : i < N + 1 := Nat.lt_succ_of_le hi
    rw [hP.rf.cell]; simp [hi']
  · intro u hu i hi
    show w.cell? ⟨bU, firstC E u + i, none⟩ = _
    have hi' : i < (sucs E u).length := hi
    have h1 := firstC_succ E u
    have h2 := firstC_le E (u + 1)
    have h3 := hS.2 u i (by rw [List.take_length]; exact hi')
    simp only [List.take_length] at h3
    rw [hP.ru.cell, map_at _ _ _ (by rw [hS.1]; omega), h3]
  · intro b hb
    rcases hb with e | e | e | e | e | e
    · rw [e]; exact hs.lt
    · rw [e]; exact World.block_lt_of_cell? w ⟨bC, 0, none⟩ hC.1
    · rw [e]; exact hV.lt
    · rw [e]; exact hL.lt
    · rw [e]; exact hP.rf.lt
    · rw [e]; exact hP.ru.lt

theorem dyn_zero {L : Lay} {w : World} (h1 : rowIs w L.bW 21 (((List.range L.N).map L.w0).map (.int .i32))) (h2 : rowIs w L.bP 4 (List.replicate L.N (.bool false))) (h3 : rowIs w L.bR 26 [.int .u64 L.r0]) (hr : L.r0 < 18446744073709551616) : Dyn L w (fun _ => 0) := by
  refine ⟨?_, ?_, L.r0, hr, h3, fun i => by simp [trig_zero]⟩
  · have : waitL L (fun _ => 0) = (List.range L.N).map L.w0 := List.map_congr_left fun x _ => by simp
    rw [this]; exact h1
  · have : placeL L (fun _ => 0) = List.replicate L.N (.bool false) := by
      unfold placeL
      apply List.ext_getElem
      · simp
      · intro i h1 h2; simp [trig_zero]
    rw [this]; exact h2

/-! The law's own model, round by round -/
def timesL (w0 : Nat → Int) (T v : Nat) (c : Nat → Nat) (N x : Nat) : List Int := (List.range N).map fun u => if u < x then ((tm w0 T v c u : Nat) : Int) else 0
def expWL (w0 : Nat → Int) (c : Nat → Nat) (N x : Nat) : List Int := (List.range N).map fun u => if u < x then w0 u - (c u : Int) else w0 u
def expPL (w0 : Nat → Int) (T : Nat) (c : Nat → Nat) (N x : Nat) : List Value := (List.range N).map fun u => .bool (decide (u < x ∧ T ≤ u ∧ 0 < trig (w0 u) (c u)))
theorem timesL_at (w0 : Nat → Int) (T v : Nat) (c : Nat → Nat) (N x u : Nat) (h : u < N) (hx : u < x) : (timesL w0 T v c N x).getD u 0 = ((tm w0 T v c u : Nat) : Int) := by
  simp [timesL, h, hx]
theorem timesL_length (w0 : Nat → Int) (T v : Nat) (c : Nat → Nat) (N x : Nat) : (timesL w0 T v c N x).length = N := by simp [timesL]
theorem timesL_set (w0 : Nat → Int) (T v : Nat) (c : Nat → Nat) (N x : Nat) : (timesL w0 T v c N x).set x ((tm w0 T v c x : Nat) : Int) = timesL w0 T v c N (x + 1) := by
  unfold timesL
  rw [range_set]
  refine List.map_congr_left fun u _ => ?_
  by_cases h : u = x
  · subst h; rw [if_pos rfl, if_pos (by omega)]
  · rw [if_neg h]
    by_cases h1 : u < x
    · rw [if_pos h1, if_pos (by omega)]
    · rw [if_neg h1, if_neg (by omega)]
theorem timesL_same (w0 : Nat → Int) (T v : Nat) (c : Nat → Nat) (N x : Nat) (h0 : tm w0 T v c x = 0) : timesL w0 T v c N x = timesL w0 T v c N (x + 1) := by
  unfold timesL
  refine List.map_congr_left fun u _ => ?_
  by_cases h : u = x
  · subst h; rw [if_neg (by omega), if_pos (by omega), h0]; rfl
  · by_cases h1 : u < x
    · rw [if_pos h1, if_pos (by omega)]
    · rw [if_neg h1, if_neg (by omega)]
theorem expWL_set (w0 : Nat → Int) (c : Nat → Nat) (N x : Nat) : (expWL w0 c N x).set x (w0 x - (c x : Int)) = expWL w0 c N (x + 1) := by
  unfold expWL
  rw [range_set]
  refine List.map_congr_left fun u _ => ?_
  by_cases h : u = x
  · subst h; rw [if_pos rfl, if_pos (by omega)]
  · rw [if_neg h]
    by_cases h1 : u < x
    · rw [if_pos h1, if_pos (by omega)]
    · rw [if_neg h1, if_neg (by omega)]
theorem expWL_length (w0 : Nat → Int) (c : Nat → Nat) (N x : Nat) : (expWL w0 c N x).length = N := by simp [expWL]
theorem expPL_set (w0 : Nat → Int) (T : Nat) (c : Nat → Nat) (N x : Nat) (hT : T ≤ x) (h : 0 < trig (w0 x) (c x)) : (expPL w0 T c N x).set x (.bool true) = expPL w0 T c N (x + 1) := by
  unfold expPL
  rw [range_set]
  refine List.map_congr_left fun u _ => ?_
  by_cases hu : u = x
  · subst hu
    rw [if_pos rfl, decide_eq_true (⟨Nat.lt_succ_self u, hT, h⟩ : u < u + 1 ∧ T ≤ u ∧ 0 < trig (w0 u) (c u))]
  · rw [if_neg hu]
    congr 2
    simp only [eq_iff_iff]
    omega
theorem expPL_same (w0 : Nat → Int) (T : Nat) (c : Nat → Nat) (N x : Nat) (h : x < T ∨ trig (w0 x) (c x) = 0) : expPL w0 T c N x = expPL w0 T c N (x + 1) := by
  unfold expPL
  refine List.map_congr_left fun u _ => ?_
  congr 2
  simp only [eq_iff_iff]
  by_cases hu : u = x
  · subst hu; omega
  · omega
def rdySpec (w0 : Nat → Int) (T r0 : Nat) (c : Nat → Nat) (x R : Nat) : Prop := R < 18446744073709551616 ∧ ∀ i, R.testBit i = (r0.testBit i || decide (i < x ∧ i < T ∧ 0 < trig (w0 i) (c i)))
theorem rdy_set {w0 : Nat → Int} {T r0 : Nat} {c : Nat → Nat} {x R : Nat} (hR : rdySpec w0 T r0 c x R) (hT : x < T) (hx : x < 64) (h : 0 < trig (w0 x) (c x)) : rdySpec w0 T r0 c (x + 1) (R ||| 2 ^ x) := by
  refine ⟨or_lt R x hR.1 hx, fun i => ?_⟩
  rw [Nat.testBit_or, hR.2 i]
  by_cases hi : i = x
  · subst hi; simp [hT, h]
  · have e : (2 ^ x).testBit i = false := by rw [Nat.testBit_two_pow]; simp; omega
    rw [e, Bool.or_false]
    congr 1
    congr 1
    simp only [eq_iff_iff]
    omega
theorem rdy_same {w0 : Nat → Int} {T r0 : Nat} {c : Nat → Nat} {x R : Nat} (hR : rdySpec w0 T r0 c x R) (h : T ≤ x ∨ trig (w0 x) (c x) = 0) : rdySpec w0 T r0 c (x + 1) R := by
  refine ⟨hR.1, fun i => ?_⟩
  rw [hR.2 i]
  congr 1
  congr 1
  simp only [eq_iff_iff]
  by_cases hi : i = x
  · subst hi; omega
  · omega
theorem rdy_start (w0 : Nat → Int) (T r0 v : Nat) (c : Nat → Nat) (hr : r0 < 18446744073709551616) (hc : ∀ x, x ≤ v → c x = 0) : rdySpec w0 T r0 c (v + 1) r0 := by
  refine ⟨hr, fun i => ?_⟩
  have : ¬ (i < v + 1 ∧ i < T ∧ 0 < trig (w0 i) (c i)) := by
    rintro ⟨h1, _, h3⟩
    rw [hc i (by omega), trig_zero] at h3; omega
  simp [this]
theorem rdy_end {w0 : Nat → Int} {T r0 : Nat} {c : Nat → Nat} {N R R2 : Nat} (hR : rdySpec w0 T r0 c N R) (hT : T ≤ N) (h2 : ∀ i, R2.testBit i = (r0.testBit i || decide (i < T ∧ 0 < trig (w0 i) (c i)))) : R2 = R := by
  refine Nat.eq_of_testBit_eq fun i => ?_
  rw [hR.2 i, h2 i]
  congr 1
  congr 1
  simp only [eq_iff_iff]
  omega
theorem timesL_start (w0 : Nat → Int) (T v : Nat) (c : Nat → Nat) (N : Nat) (hc : ∀ x, x ≤ v → c x = 0) : (List.replicate N (0 : Int)).set v 1 = timesL w0 T v c N (v + 1) := by
  have e : List.replicate N (0 : Int) = (List.range N).map fun _ => 0 := by
    apply List.ext_getElem
    · simp
    · intro i h1 h2; simp
  rw [e, range_set]
  unfold timesL
  refine List.map_congr_left fun u _ => ?_
  by_cases h : u = v
  · subst h; rw [if_pos rfl, if_pos (by omega)]; simp [tm]
  · rw [if_neg h]
    by_cases h1 : u < v + 1
    · rw [if_pos h1]; simp [tm, h, hc u (by omega), trig_zero]
    · rw [if_neg h1]
theorem expWL_start (w0 : Nat → Int) (v : Nat) (c : Nat → Nat) (N : Nat) (hc : ∀ x, x ≤ v → c x = 0) : (List.range N).map w0 = expWL w0 c N (v + 1) := by
  unfold expWL
  refine List.map_congr_left fun u _ => ?_
  by_cases h1 : u < v + 1
  · rw [if_pos h1, hc u (by omega)]; simp
  · rw [if_neg h1]
theorem expPL_start (w0 : Nat → Int) (T v : Nat) (c : Nat → Nat) (N : Nat) (hc : ∀ x, x ≤ v → c x = 0) : List.replicate N (Value.bool false) = expPL w0 T c N (v + 1) := by
  unfold expPL
  apply List.ext_getElem
  · simp
  · intro i h1 h2
    have : ¬ (i < v + 1 ∧ T ≤ i ∧ 0 < trig (w0 i) (c i)) := by
      rintro ⟨h1, _, h3⟩
      rw [hc i (by omega), trig_zero] at h3; omega
    simp only [List.getElem_replicate, List.getElem_map, List.getElem_range, decide_eq_false this]
theorem expWL_end (w0 : Nat → Int) (c : Nat → Nat) (N x : Nat) (h : x < N) : (expWL w0 c N N).getD x 0 = w0 x - (c x : Int) := by simp [expWL, h]
theorem expPL_end (w0 : Nat → Int) (T : Nat) (c : Nat → Nat) (N x : Nat) (h : x < N) : (expPL w0 T c N N)[x]? = some (.bool (decide (T ≤ x ∧ 0 < trig (w0 x) (c x)))) := by simp [expPL, h]
theorem esum_take_le (E : List (Nat × Nat)) (t : Nat → Nat) (x k : Nat) : esum (E.take k) t x ≤ esum E t x := by
  conv => rhs; rw [← List.take_append_drop k E]
  unfold esum
  rw [List.map_append, List.sum_append]; omega
theorem esum_succ (E : List (Nat × Nat)) (t : Nat → Nat) (x k : Nat) (h : k < E.length) : esum (E.take (k + 1)) t x = esum (E.take k) t x + if E[k].2 = x then t E[k].1 else 0 := by
  unfold esum
  rw [List.take_succ_eq_append_getElem h, List.map_append, List.sum_append]; simp
theorem tm_after (w0 : Nat → Int) (T v : Nat) (c : Nat → Nat) (x : Nat) (h : v < x) : tm w0 T v c x = if T ≤ x then trig (w0 x) (c x) else 0 := by
  unfold tm; rw [if_neg (by omega)]

structure Exp (w : World) (bT bX bY : Nat) (w0 : Nat → Int) (T v : Nat) (c : Nat → Nat) (N x : Nat) : Prop where
  t : rowIs w bT 2 ((timesL w0 T v c N x).map (.int .i64))
  p : rowIs w bX 4 (expPL w0 T c N x)
  y : rowIs w bY 21 ((expWL w0 c N x).map (.int .i32))
end Go.Proofs.Ybulkajba
