/- The law over the walks: the frame after the guide's own shell; the walk is by cases on the edges' length. -/
import Derived.Test.YbulkajbaLawC
import Derived.ProofKit
import Derived.OpenShut
import Derived.ShutString
import Derived.ChangeOld
import Derived.Below
import Derived.Deep.SlicePairs
namespace Go.Proofs.Ybulkajba.lawS1742CRelease
open Go.ChangeShapes Go.WideShapes Go.ChangeAt Go.RowKit
open Go.ChangeMaps (open_string shut_string)
set_option linter.unusedVariables false

theorem own : ownKnob Yba.prog.godebug = none := by kernel_rfl
theorem laidOut : laidOutB Yba.prog = true := by kernel_rfl

/-- What is known of a slice of int8 that came in. -/
theorem waitIn {H : Type} {enc : TypeId × Value → H} {W : World} {a : Option Addr} {len cap : Nat} {d : DataW H} {ps : List MemPlace} (h : DataW.Trod enc Yba.prog W 0 (fun _ => true) true 90 (.slice a len cap) d ps) :
    ∃ C : List Int, cameIn W a len cap (C.map (.int .i8)) ∧ (∀ x ∈ C, -128 ≤ x ∧ x ≤ 127) ∧ len ≤ 9223372036854775807 := by
  obtain ⟨fuel, hf⟩ := h
  rcases open_ints Yba.underlying90 Yba.underlying93 (by kernel_rfl) hf with ⟨hcs, _⟩ | ⟨x, l, c, zs, hcs, _, hl, hm, hz, _, hcell, hwz⟩
  · simp [Value.cells] at hcs
    obtain ⟨rfl, rfl, rfl⟩ := hcs
    exact ⟨[], ⟨rfl, fun _ => ⟨rfl, rfl⟩, fun ad h => by cases h⟩, (fun x hx => by simp at hx), by omega⟩
  · simp [Value.cells] at hcs
    obtain ⟨rfl, rfl, rfl⟩ := hcs
    have hz' : zs.length = cap := by simpa using hz
    refine ⟨zs.take len, ⟨by rw [List.length_map, List.length_take, hz']; exact Nat.min_eq_left hl, fun h => by (cases h), ?_⟩, fun y hy => ?_, ?_⟩
    · intro ad had j u hu
      obtain rfl := Option.some.inj had
      rw [List.getElem?_map, List.getElem?_take] at hu
      split at hu
      · rename_i hj
        have hzz : j < zs.length := by omega
        rw [List.getElem?_eq_getElem hzz] at hu
        simp only [Option.map_some, Option.some.injEq] at hu
        rw [hcell j hzz, ← hu]
        simp [List.getElem?_eq_getElem hzz]
      · cases hu
    · have := hwz y (List.mem_of_mem_take hy)
      simp [Lit.wf, IntKind.min, IntKind.max, IntKind.signed, IntKind.bits] at this
      omega
    · unfold maxLen at hm; omega

/-- What is known of a slice of edges that came in. -/
theorem edgesIn {H : Type} {enc : TypeId × Value → H} {W : World} {a : Option Addr} {len cap : Nat} {d : DataW H} {ps : List MemPlace} (h : DataW.Trod enc Yba.prog W 0 (fun _ => true) true 89 (.slice a len cap) d ps) :
    ∃ L : List (Int × Int), cameUU W a len cap L := by
  obtain ⟨fuel, hf⟩ := h
  rcases Go.Deep.open_slice_pairs Yba.underlying89 Yba.underlying92 (by kernel_rfl) rfl rfl (by kernel_rfl) (by kernel_rfl) hf with ⟨hcs, _⟩ | ⟨x, l, c, m, n, V0, V1, D0, D1, P0, P1, hcs, _, hl, hm, hmm, _, hx⟩
  · simp [Value.cells] at hcs
    obtain ⟨rfl, rfl, rfl⟩ := hcs
    exact ⟨[], rfl, fun _ => ⟨rfl, rfl⟩, fun ad h => by (cases h), fun i h => by simp at h⟩
  · simp [Value.cells] at hcs
    obtain ⟨rfl, rfl, rfl⟩ := hcs
    have hm' : m = cap := by simpa using hmm
    subst hm'
    have each : ∀ i, i < len → V0 i = .int .u8 (intOf (V0 i)) ∧ V1 i = .int .u8 (intOf (V1 i)) ∧ 0 ≤ intOf (V0 i) ∧ intOf (V0 i) ≤ 255 ∧ 0 ≤ intOf (V1 i) ∧ intOf (V1 i) ≤ 255 := by
      intro i hi
      obtain ⟨_, _, t0, t1⟩ := hx i (by omega)
      obtain ⟨z0, e0, _, w0⟩ := DataW.trod_int Yba.underlying5 t0
      obtain ⟨z1, e1, _, w1⟩ := DataW.trod_int Yba.underlying5 t1
      simp only [List.cons.injEq, and_true] at e0 e1
      rw [e0, e1]
      simp [Lit.wf, IntKind.min, IntKind.max, IntKind.signed, IntKind.bits] at w0 w1
      simp [intOf]
      omega
    refine ⟨(List.range len).map fun i => (intOf (V0 i), intOf (V1 i)), by simp, fun h => by (cases h), ?_, ?_⟩
    · intro ad had i hi
      obtain rfl := Option.some.inj had
      have hi' : i < len := by simpa using hi
      obtain ⟨c0, c1, _, _⟩ := hx i (by omega)
      obtain ⟨e0, e1, _⟩ := each i hi'
      simp only [List.getElem_map, List.getElem_range]
      exact ⟨by rw [c0, ← e0], by rw [c1, ← e1]⟩
    · intro i hi
      have hi' : i < len := by simpa using hi
      simp only [List.getElem_map, List.getElem_range]
      exact (each i hi').2.2

set_option maxRecDepth 100000 in
theorem walk (nt nb st : Int) (a1 : Option Addr) (m1 c1 : Nat) (L : List (Int × Int)) (a2 : Option Addr) (m2 c2 : Nat) (Wt : List Int) (rdy : Nat) (w : World)
    (t0 : 0 ≤ nt) (t1 : nt ≤ 255) (b0 : 0 ≤ nb) (b1 : nb ≤ 255) (s0 : 0 ≤ st) (s1 : st ≤ 255) (hr : rdy < 18446744073709551616) (hL : cameUU w a1 m1 c1 L) (hW : cameIn w a2 m2 c2 (Wt.map (.int .i8))) (hWb : ∀ x ∈ Wt, -128 ≤ x ∧ x ≤ 127) (hm2 : m2 ≤ 9223372036854775807) :
    Calls Yba.prog 5 #[.int .u8 nt, .int .u8 nb, .int .u8 st, .slice a1 m1 c1, .slice a2 m2 c2, .int .u64 rdy] w fun e w' => e = .returned (.bool true) ∧ Below w.heap.size w w' := by
  by_cases h1 : m1 ≤ 1024
  · exact lawC_small nt nb st a1 m1 c1 L a2 m2 c2 Wt rdy w t0 t1 b0 b1 s0 s1 hr h1 hL hW hWb hm2
  · have l1 : (1024 : Int) < (m1 : Int) := by omega
    clear hL hW hWb
    go_enter Yba.func5, Yba.ntmps5
    go_wp2_with fail
    go_ret
    exact ⟨rfl, Below.refl _ _⟩

set_option maxRecDepth 100000 in
theorem lifted (os : Os) (started : os.Started) (H : Type) (enc : TypeId × Value → H) :
    ReturnsInHanded {} Yba.checked os 5 .any (Rows.lawS1742CReleaseSpec.pre6 enc Yba.prog Yba.f5 Rows.lawS1742CReleaseRow.domain false) (Rows.lawS1742CReleaseSpec.post enc Yba.prog Yba.f5 false true false false) := by
  refine returnsInHanded_of_change (C := Yba.checked) own started (by kernel_rfl) Yba.func5
    (ChangeSpec.witness6 (enc := enc) (C := Yba.checked) false ⟨#[], #[.int .u8 0, .int .u8 0, .int .u8 0, .slice none 0 0, .slice none 0 0, .int .u64 0], []⟩ 8 (by kernel_rfl) (by kernel_rfl) (by kernel_rfl) (by kernel_rfl)) ?_
  intro W base args ds gs before hval0 hW hcnd _
  have hval : ∀ (j : Nat) t v, Yba.f5.params[j]? = some t → args[j]? = some v → Value.okWide Yba.prog W .any base t v := hval0
  have hW' := hW
  obtain ⟨p, q, hA0, hV, rfl, hfz, hnd⟩ := hW
  have hA : DataW.TrodAll enc Yba.prog W 0 (fun _ => true) true Yba.f5.params.toList args.toList ds p := hA0
  rw [Yba.params5] at hA hval
  obtain ⟨v0, vs0, d0, ds0, p0, q0, hargs, rfl, rfl, h0, r0⟩ := trodAll_cons hA
  obtain ⟨v1, vs1, d1, ds1, p1, q1, rfl, rfl, rfl, h1, r1⟩ := trodAll_cons r0
  obtain ⟨v2, vs2, d2, ds2, p2, q2, rfl, rfl, rfl, h2, r2⟩ := trodAll_cons r1
  obtain ⟨v3, vs3, d3, ds3, p3, q3, rfl, rfl, rfl, h3, r3⟩ := trodAll_cons r2
  obtain ⟨v4, vs4, d4, ds4, p4, q4, rfl, rfl, rfl, h4, r4⟩ := trodAll_cons r3
  obtain ⟨v5, vs5, d5, ds5, p5, q5, rfl, rfl, rfl, h5, r5⟩ := trodAll_cons r4
  obtain ⟨rfl, rfl, rfl⟩ := trodAll_nil r5
  obtain rfl : args = #[v0, v1, v2, v3, v4, v5] := by cases args; simp_all
  obtain ⟨rfl, rfl⟩ := trodVars_none hV
  obtain ⟨n0, rfl, rfl, rfl, e0⟩ := open_int Yba.underlying5 (hval 0 5 v0 rfl rfl) h0
  obtain ⟨n1, rfl, rfl, rfl, e1⟩ := open_int Yba.underlying5 (hval 1 5 v1 rfl rfl) h1
  obtain ⟨n2, rfl, rfl, rfl, e2⟩ := open_int Yba.underlying5 (hval 2 5 v2 rfl rfl) h2
  obtain ⟨n5, rfl, rfl, rfl, e5⟩ := open_int Yba.underlying26 (hval 5 26 v5 rfl rfl) h5
  obtain ⟨a1, m1, c1, rfl⟩ := okWide_slice Yba.underlying89 (hval 3 89 v3 rfl rfl)
  obtain ⟨a2, m2, c2, rfl⟩ := okWide_slice Yba.underlying90 (hval 4 90 v4 rfl rfl)
  have lt3 : ∀ x ∈ p3, x.block < W.heap.size := by obtain ⟨m, hm⟩ := h3; exact DataW.trod_lt m _ _ _ hm
  have lt4 : ∀ x ∈ p4, x.block < W.heap.size := by obtain ⟨m, hm⟩ := h4; exact DataW.trod_lt m _ _ _ hm
  obtain ⟨L, hL⟩ := edgesIn h3
  obtain ⟨Wt, hWt, hWb, hm2⟩ := waitIn h4
  have b0 : 0 ≤ n0 ∧ n0 ≤ 255 := by simp [Lit.wf, IntKind.min, IntKind.max, IntKind.signed, IntKind.bits] at e0; omega
  have b1 : 0 ≤ n1 ∧ n1 ≤ 255 := by simp [Lit.wf, IntKind.min, IntKind.max, IntKind.signed, IntKind.bits] at e1; omega
  have b2 : 0 ≤ n2 ∧ n2 ≤ 255 := by simp [Lit.wf, IntKind.min, IntKind.max, IntKind.signed, IntKind.bits] at e2; omega
  have b5 : 0 ≤ n5 ∧ n5 < 18446744073709551616 := by simp [Lit.wf, IntKind.min, IntKind.max, IntKind.signed, IntKind.bits] at e5; omega
  obtain ⟨rdy, rfl⟩ : ∃ rdy : Nat, n5 = (rdy : Int) := ⟨n5.toNat, by omega⟩
  clear hA0 hval0
  refine (walk n0 n1 n2 a1 m1 c1 L a2 m2 c2 Wt rdy W b0.1 b0.2 b1.1 b1.2 b2.1 b2.2 (by omega) hL hWt hWb hm2).mono fun e W' ⟨he, bel⟩ => ?_
  subst he
  exact ⟨_, rfl, _, _, _, [], _, [], hW', trodAll_mk1 (shut_bool Yba.underlying4 _), (trodAll_cons_mk (shut_int Yba.underlying5 e0) (trodAll_cons_mk (shut_int Yba.underlying5 e1) (trodAll_cons_mk (shut_int Yba.underlying5 e2) (trodAll_cons_mk (Below.trod laidOut (by kernel_rfl) (of_decide_eq_true (by kernel_rfl)) h3 bel lt3) (trodAll_cons_mk (Below.trod laidOut (by kernel_rfl) (of_decide_eq_true (by kernel_rfl)) h4 bel lt4) (trodAll_cons_mk (shut_int Yba.underlying26 e5) trodAll_mk0)))))), rfl, bel.frame _, fun h => by cases h⟩

theorem over : Rows.lawS1742CReleaseRow.holds Yba.pinned (OpenSpec.ofChange Rows.lawS1742CReleaseSpec) :=
  OpenClaim.holds_of_wide 5 Yba.f5 rfl rfl rfl rfl rfl rfl rfl ⟨rfl, rfl, rfl, rfl, rfl⟩ rfl rfl rfl rfl rfl (by kernel_rfl) Yba.func5 (by kernel_rfl)
    (of_decide_eq_true (by kernel_rfl)) (by unfold Func.isWrapper; first | (rw [if_pos (by decide +kernel)]; kernel_rfl) | (rw [if_neg (by decide +kernel)]; exact ⟨rfl, rfl⟩))
    (fun os started H enc _ => lifted os started H enc)

theorem proved : Rows.LawS1742CReleaseSaid := over
end Go.Proofs.Ybulkajba.lawS1742CRelease
