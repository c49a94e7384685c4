/- What is known of the arguments that came in; how long fmt.Sprint's told texts are. -/
import Derived.Test.YbulkajboFmtBuild
import Derived.Test.YbulkajboFmtList
import Derived.ProofKit
import Derived.OpenShut
import Derived.Deep.SlicePairs
import Derived.Lib.SmallJoins
import Derived.Stop.JoinedTold
import Derived.Stop.Texts
import Derived.Deep.Grids
namespace Go.Proofs.YbulkajboFmt
open Go.ChangeShapes Go.WideShapes Go.ChangeAt Go.RowKit
open Go.Extern.Stop Go.Stop Go.Extern
set_option linter.unusedVariables false

theorem sprint_short : ∀ x, x ≤ 9 → (match FmtText.text "fmt.Sprint" [Ybaf.shape3, digits 8 x] with | some s => decide (s.length ≤ 21) | none => false) = true := by
  intro x hx
  have : ∀ x, x < 10 → (match FmtText.text "fmt.Sprint" [Ybaf.shape3, digits 8 x] with | some s => decide (s.length ≤ 21) | none => false) = true := by decide +kernel
  exact this x (by omega)

theorem short_of_told (F : Interp) (W : World) (hF : F.told.answers W.tape) : Short W := by
  refine ⟨F.told, hF, fun x hx => ?_⟩
  have h := sprint_short x hx
  cases ht : FmtText.text "fmt.Sprint" [Ybaf.shape3, digits 8 x] with
  | none => rw [ht] at h; cases h
  | some s =>
    rw [ht] at h
    have hs : s.length ≤ 21 := by simpa using h
    have h2 := told_string F ht (by omega)
    have h3 := Go.Kit.textOf_list F.told "fmt.Sprint" [Ybaf.shape3, digits 8 x]
    rw [h2] at h3
    have h4 := congrArg List.length h3
    have h5 : (FmtStop.textOf (F.told "fmt.Sprint" [Ybaf.shape3, digits 8 x] 0)).size = s.length := by simpa using h4
    omega

theorem addr_none {W : World} {a : Addr} {v : Value} (h : W.cell? (a.add 0) = some v) : ∃ b off, a = ⟨b, off, none⟩ := by
  obtain ⟨b, off, spot⟩ := a
  have hs : spot = none := by
    have := World.cell?_spot h
    simpa [Addr.add] using this
  subst hs
  exact ⟨b, off, rfl⟩

theorem boolsIn_of {H : Type} {enc : TypeId × Value → H} {W : World} {a : Option Addr} {len cap : Nat} {d : DataW H} {ps : List MemPlace} (h : DataW.Trod enc Ybaf.prog W 0 (fun _ => true) true 22 (.slice a len cap) d ps) :
    ∃ C : List Bool, C.length = len ∧ boolsIn W a C := by
  obtain ⟨fuel, hf⟩ := h
  rcases Go.Deep.open_bools Ybaf.underlying22 Ybaf.underlying4 (by kernel_rfl) hf with ⟨hcs, _⟩ | ⟨x, l, c, B, hcs, hb, hl, hm, _, hx⟩
  · simp [Value.cells] at hcs
    obtain ⟨rfl, rfl, rfl⟩ := hcs
    exact ⟨[], rfl, fun t ht => by simp at ht⟩
  · simp [Value.cells] at hcs
    obtain ⟨rfl, rfl, rfl⟩ := hcs
    refine ⟨(List.range len).map B, by simp, fun t ht => ?_⟩
    have ht' : t < len := by simpa using ht
    obtain ⟨b, off, rfl⟩ := addr_none (hx 0 (by omega))
    have h := hx t (by omega)
    rw [add_lit] at h
    exact ⟨b, off, rfl, World.block_lt_of_cell? W _ h, by rw [h]; simp⟩

theorem u8_of {H : Type} {enc : TypeId × Value → H} {W : World} {n : Nat} {v : Value} {x : DataW H × List MemPlace} (h : DataW.trod enc Ybaf.prog W 0 (fun _ => true) true n 5 [v] = some x) : ∃ N : Nat, N < 256 ∧ v = .int .u8 (N : Int) := by
  obtain ⟨z, e, _, w0⟩ := DataW.trod_int Ybaf.underlying5 h
  simp only [List.cons.injEq, and_true] at e
  simp [Lit.wf, IntKind.min, IntKind.max, IntKind.signed, IntKind.bits] at w0
  exact ⟨z.toNat, by omega, by rw [e, Int.toNat_of_nonneg (by omega)]⟩

theorem rawIn_of {H : Type} {enc : TypeId × Value → H} {W : World} {a : Option Addr} {len cap : Nat} {d : DataW H} {ps : List MemPlace} (h : DataW.Trod enc Ybaf.prog W 0 (fun _ => true) true 23 (.slice a len cap) d ps) :
    ∃ R : List Raw, R.length = len ∧ rawIn W a R := by
  obtain ⟨fuel, hf⟩ := h
  rcases Go.Deep.open_slice Ybaf.underlying23 hf with ⟨hcs, _⟩ | ⟨x, l, c, m, n, D, Pl, hcs, hb, hl, hm, hmm, _, hx⟩
  · simp [Value.cells] at hcs
    obtain ⟨rfl, rfl, rfl⟩ := hcs
    exact ⟨[], rfl, fun t ht => by simp at ht⟩
  · simp [Value.cells] at hcs
    obtain ⟨rfl, rfl, rfl⟩ := hcs
    have hm' : m = cap := by simpa using hmm
    have ce : Ybaf.prog.cellsOf 37 = 4 := by kernel_rfl
    have c5 : Ybaf.prog.cellsOf 5 = 1 := by kernel_rfl
    have each : ∀ i, i < len → ∃ r : Raw, okRaw r ∧ W.cell? (x.add (i * 4)) = some (.int .u8 (r.P : Int)) ∧ W.cell? (x.add (i * 4 + 1)) = some (.int .u8 (r.W : Int)) ∧ W.cell? (x.add (i * 4 + 2)) = some (.int .u8 (r.L : Int)) ∧ W.cell? (x.add (i * 4 + 3)) = some (.int .u8 (r.C : Int)) := by
      intro i hi
      obtain ⟨cs', h1, h2⟩ := hx i (by omega)
      rw [ce] at h1
      obtain ⟨_, hlen, hcell⟩ := World.cells?_some h1
      obtain ⟨y0, y1, y2, y3, k, _, _, g0, g1, g2, g3⟩ := Go.Joins.trod_struct4 Ybaf.underlying37 h2
      clear h2
      obtain ⟨v0, v1, v2, v3, rfl⟩ : ∃ v0 v1 v2 v3, cs' = [v0, v1, v2, v3] := by
        clear hcell h1 g0 g1 g2 g3 hx
        rcases cs' with _ | ⟨v0, _ | ⟨v1, _ | ⟨v2, _ | ⟨v3, _ | ⟨v4, r⟩⟩⟩⟩⟩ <;> simp at hlen
        exact ⟨v0, v1, v2, v3, rfl⟩
      · simp [c5] at g0 g1 g2 g3
        obtain ⟨N0, l0, rfl⟩ := u8_of g0
        obtain ⟨N1, l1, rfl⟩ := u8_of g1
        obtain ⟨N2, l2, rfl⟩ := u8_of g2
        obtain ⟨N3, l3, rfl⟩ := u8_of g3
        have e0 := hcell 0 (by omega)
        have e1 := hcell 1 (by omega)
        have e2 := hcell 2 (by omega)
        have e3 := hcell 3 (by omega)
        rw [Go.Deep.add_add] at e0 e1 e2 e3
        exact ⟨⟨N0, N1, N2, N3⟩, ⟨l0, l1, l2, l3⟩, by simpa using e0, by simpa using e1, by simpa using e2, by simpa using e3⟩
    have f : ∀ i, ∃ r : Raw, i < len → okRaw r ∧ W.cell? (x.add (i * 4)) = some (.int .u8 (r.P : Int)) ∧ W.cell? (x.add (i * 4 + 1)) = some (.int .u8 (r.W : Int)) ∧ W.cell? (x.add (i * 4 + 2)) = some (.int .u8 (r.L : Int)) ∧ W.cell? (x.add (i * 4 + 3)) = some (.int .u8 (r.C : Int)) := by
      intro i
      by_cases hi : i < len
      · obtain ⟨r, hr⟩ := each i hi; exact ⟨r, fun _ => hr⟩
      · exact ⟨⟨0, 0, 0, 0⟩, fun h => absurd h hi⟩
    have hg := fun i => Classical.choose_spec (f i)
    obtain ⟨g, hge⟩ : ∃ g : Nat → Raw, g = fun i => Classical.choose (f i) := ⟨_, rfl⟩
    replace hg : ∀ i, i < len → okRaw (g i) ∧ W.cell? (x.add (i * 4)) = some (.int .u8 ((g i).P : Int)) ∧ W.cell? (x.add (i * 4 + 1)) = some (.int .u8 ((g i).W : Int)) ∧ W.cell? (x.add (i * 4 + 2)) = some (.int .u8 ((g i).L : Int)) ∧ W.cell? (x.add (i * 4 + 3)) = some (.int .u8 ((g i).C : Int)) := by rw [hge]; exact hg
    refine ⟨(List.range len).map g, by simp, fun t ht => ?_⟩
    have ht' : t < len := by simpa using ht
    obtain ⟨b, off, rfl⟩ := addr_none (hg 0 (by omega)).2.1
    obtain ⟨k0, k1, k2, k3, k4⟩ := hg t ht'
    rw [add_lit] at k1 k2 k3 k4
    simp only [List.getElem_map, List.getElem_range]
    exact ⟨k0, b, off, rfl, World.block_lt_of_cell? W _ k1, k1, k2, k3, k4⟩
end Go.Proofs.YbulkajboFmt
