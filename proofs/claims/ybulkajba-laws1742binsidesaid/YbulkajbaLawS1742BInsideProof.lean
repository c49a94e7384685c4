/- The law over the walks: the frame after the guide's own shell; the walk is by cases on the three lengths. -/
import Derived.Test.YbulkajbaLawB
import Derived.ProofKit
import Derived.OpenShut
import Derived.ShutString
import Derived.ChangeOld
import Derived.Below
import Derived.Deep.SlicePairs
namespace Go.Proofs.Ybulkajba.lawS1742BInside
open Go.ChangeShapes Go.WideShapes Go.ChangeAt Go.RowKit
open Go.ChangeMaps (open_string shut_string)
set_option linter.unusedVariables false

theorem own : ownKnob Yba.prog.godebug = none := by kernel_rfl
theorem laidOut : laidOutB Yba.prog = true := by kernel_rfl

/-- What is known of a slice of bytes that came in. -/
theorem bytesIn {H : Type} {enc : TypeId × Value → H} {W : World} {a : Option Addr} {len cap : Nat} {d : DataW H} {ps : List MemPlace} (h : DataW.Trod enc Yba.prog W 0 (fun _ => true) true 55 (.slice a len cap) d ps) :
    ∃ C : List Int, cameIn W a len cap (C.map (.int .u8)) ∧ ∀ x ∈ C, 0 ≤ x ∧ x ≤ 255 := by
  obtain ⟨fuel, hf⟩ := h
  rcases open_ints Yba.underlying55 Yba.underlying5 (by kernel_rfl) hf with ⟨hcs, _⟩ | ⟨x, l, c, zs, hcs, _, hl, hm, hz, _, hcell, hwz⟩
  · simp [Value.cells] at hcs
    obtain ⟨rfl, rfl, rfl⟩ := hcs
    exact ⟨[], ⟨rfl, fun _ => ⟨rfl, rfl⟩, fun ad h => by cases h⟩, fun x hx => by simp at hx⟩
  · simp [Value.cells] at hcs
    obtain ⟨rfl, rfl, rfl⟩ := hcs
    have hz' : zs.length = cap := by simpa using hz
    refine ⟨zs.take len, ⟨by rw [List.length_map, List.length_take, hz']; exact Nat.min_eq_left hl, fun h => by (cases h), ?_⟩, fun y hy => ?_⟩
    · intro ad had j u hu
      obtain rfl := Option.some.inj had
      rw [List.getElem?_map, List.getElem?_take] at hu
      split at hu
      · rename_i hj
        have hzz : j < zs.length := by omega
        rw [List.getElem?_eq_getElem hzz] at hu
        simp only [Option.map_some, Option.some.injEq] at hu
        rw [hcell j hzz, ← hu]
        simp [List.getElem?_eq_getElem hzz]
      · cases hu
    · have := hwz y (List.mem_of_mem_take hy)
      simp [Lit.wf, IntKind.min, IntKind.max, IntKind.signed, IntKind.bits] at this
      omega

/-- What is known of a slice of writes that came in. -/
theorem writesIn {H : Type} {enc : TypeId × Value → H} {W : World} {a : Option Addr} {len cap : Nat} {d : DataW H} {ps : List MemPlace} (h : DataW.Trod enc Yba.prog W 0 (fun _ => true) true 56 (.slice a len cap) d ps) :
    ∃ L : List (Int × Int), cameIn2 W a len cap L := by
  obtain ⟨fuel, hf⟩ := h
  rcases Go.Deep.open_slice_pairs Yba.underlying56 Yba.underlying86 (by kernel_rfl) rfl rfl (by kernel_rfl) (by kernel_rfl) hf with ⟨hcs, _⟩ | ⟨x, l, c, m, n, V0, V1, D0, D1, P0, P1, hcs, _, hl, hm, hmm, _, hx⟩
  · simp [Value.cells] at hcs
    obtain ⟨rfl, rfl, rfl⟩ := hcs
    exact ⟨[], rfl, fun _ => ⟨rfl, rfl⟩, fun ad h => by (cases h), fun i h => by simp at h⟩
  · simp [Value.cells] at hcs
    obtain ⟨rfl, rfl, rfl⟩ := hcs
    have hm' : m = cap := by simpa using hmm
    subst hm'
    have each : ∀ i, i < len → V0 i = .int .u8 (intOf (V0 i)) ∧ V1 i = .int .i32 (intOf (V1 i)) ∧ 0 ≤ intOf (V0 i) ∧ intOf (V0 i) ≤ 255 ∧ -2147483648 ≤ intOf (V1 i) ∧ intOf (V1 i) ≤ 2147483647 := by
      intro i hi
      obtain ⟨_, _, t0, t1⟩ := hx i (by omega)
      obtain ⟨z0, e0, _, w0⟩ := DataW.trod_int Yba.underlying5 t0
      obtain ⟨z1, e1, _, w1⟩ := DataW.trod_int Yba.underlying21 t1
      simp only [List.cons.injEq, and_true] at e0 e1
      rw [e0, e1]
      simp [Lit.wf, IntKind.min, IntKind.max, IntKind.signed, IntKind.bits] at w0 w1
      simp [intOf]
      omega
    refine ⟨(List.range len).map fun i => (intOf (V0 i), intOf (V1 i)), by simp, fun h => by (cases h), ?_, ?_⟩
    · intro ad had i hi
      obtain rfl := Option.some.inj had
      have hi' : i < len := by simpa using hi
      obtain ⟨c0, c1, _, _⟩ := hx i (by omega)
      obtain ⟨e0, e1, _⟩ := each i hi'
      simp only [List.getElem_map, List.getElem_range]
      exact ⟨by rw [c0, ← e0], by rw [c1, ← e1]⟩
    · intro i hi
      have hi' : i < len := by simpa using hi
      simp only [List.getElem_map, List.getElem_range]
      exact (each i hi').2.2

set_option maxRecDepth 100000 in
theorem walk (a0 : Option Addr) (m0 c0 : Nat) (C : List Int) (a1 : Option Addr) (m1 c1 : Nat) (F : List (Int × Int)) (a2 : Option Addr) (m2 c2 : Nat) (G : List (Int × Int)) (p : Bool) (w : World)
    (hC : cameIn w a0 m0 c0 (C.map (.int .u8))) (hCb : ∀ x ∈ C, 0 ≤ x ∧ x ≤ 255) (hF : cameIn2 w a1 m1 c1 F) (hG : cameIn2 w a2 m2 c2 G) :
    Calls Yba.prog 4 #[.slice a0 m0 c0, .slice a1 m1 c1, .slice a2 m2 c2, .bool p] w fun e w' => e = .returned (.bool true) ∧ Below w.heap.size w w' := by
  by_cases h0 : m0 ≤ 1024
  · by_cases h1 : m1 ≤ 1024
    · by_cases h2 : m2 ≤ 1024
      · exact lawB_small a0 m0 c0 C a1 m1 c1 F a2 m2 c2 G p w h0 h1 h2 hC hCb hF hG
      · have l0 : ¬ (1024 : Int) < (m0 : Int) := by omega
        have l1 : ¬ (1024 : Int) < (m1 : Int) := by omega
        have l2 : (1024 : Int) < (m2 : Int) := by omega
        clear hC hCb hF hG
        go_enter Yba.func4, Yba.ntmps4
        go_wp2_with fail
        go_ret
        exact ⟨rfl, Below.refl _ _⟩
    · have l0 : ¬ (1024 : Int) < (m0 : Int) := by omega
      have l1 : (1024 : Int) < (m1 : Int) := by omega
      clear hC hCb hF hG
      go_enter Yba.func4, Yba.ntmps4
      go_wp2_with fail
      go_ret
      exact ⟨rfl, Below.refl _ _⟩
  · have l0 : (1024 : Int) < (m0 : Int) := by omega
    clear hC hCb hF hG
    go_enter Yba.func4, Yba.ntmps4
    go_wp2_with fail
    go_ret
    exact ⟨rfl, Below.refl _ _⟩

set_option maxRecDepth 100000 in
theorem lifted (os : Os) (started : os.Started) (H : Type) (enc : TypeId × Value → H) :
    ReturnsInHanded {} Yba.checked os 4 .any (Rows.lawS1742BInsideSpec.pre6 enc Yba.prog Yba.f4 Rows.lawS1742BInsideRow.domain false) (Rows.lawS1742BInsideSpec.post enc Yba.prog Yba.f4 false true false false) := by
  refine returnsInHanded_of_change (C := Yba.checked) own started (by kernel_rfl) Yba.func4
    (ChangeSpec.witness6 (enc := enc) (C := Yba.checked) false ⟨#[], #[.slice none 0 0, .slice none 0 0, .slice none 0 0, .bool false], []⟩ 8 (by kernel_rfl) (by kernel_rfl) (by kernel_rfl) (by kernel_rfl)) ?_
  intro W base args ds gs before hval0 hW hcnd _
  have hval : ∀ (j : Nat) t v, Yba.f4.params[j]? = some t → args[j]? = some v → Value.okWide Yba.prog W .any base t v := hval0
  have hW' := hW
  obtain ⟨p, q, hA0, hV, rfl, hfz, hnd⟩ := hW
  have hA : DataW.TrodAll enc Yba.prog W 0 (fun _ => true) true Yba.f4.params.toList args.toList ds p := hA0
  rw [Yba.params4] at hA hval
  obtain ⟨v0, vs0, d0, ds0, p0, q0, hargs, rfl, rfl, h0, r0⟩ := trodAll_cons hA
  obtain ⟨v1, vs1, d1, ds1, p1, q1, rfl, rfl, rfl, h1, r1⟩ := trodAll_cons r0
  obtain ⟨v2, vs2, d2, ds2, p2, q2, rfl, rfl, rfl, h2, r2⟩ := trodAll_cons r1
  obtain ⟨v3, vs3, d3, ds3, p3, q3, rfl, rfl, rfl, h3, r3⟩ := trodAll_cons r2
  obtain ⟨rfl, rfl, rfl⟩ := trodAll_nil r3
  obtain rfl : args = #[v0, v1, v2, v3] := by cases args; simp_all
  obtain ⟨rfl, rfl⟩ := trodVars_none hV
  obtain ⟨a0, m0, c0, rfl⟩ := okWide_slice Yba.underlying55 (hval 0 55 v0 rfl rfl)
  obtain ⟨a1, m1, c1, rfl⟩ := okWide_slice Yba.underlying56 (hval 1 56 v1 rfl rfl)
  obtain ⟨a2, m2, c2, rfl⟩ := okWide_slice Yba.underlying56 (hval 2 56 v2 rfl rfl)
  have lt0 : ∀ x ∈ p0, x.block < W.heap.size := by obtain ⟨m, hm⟩ := h0; exact DataW.trod_lt m _ _ _ hm
  have lt1 : ∀ x ∈ p1, x.block < W.heap.size := by obtain ⟨m, hm⟩ := h1; exact DataW.trod_lt m _ _ _ hm
  have lt2 : ∀ x ∈ p2, x.block < W.heap.size := by obtain ⟨m, hm⟩ := h2; exact DataW.trod_lt m _ _ _ hm
  obtain ⟨C, hC, hCb⟩ := bytesIn h0
  obtain ⟨F, hF⟩ := writesIn h1
  obtain ⟨G, hG⟩ := writesIn h2
  obtain ⟨b, rfl, rfl, rfl⟩ := open_bool Yba.underlying4 (hval 3 4 v3 rfl rfl) h3
  clear hA0 hval0
  refine (walk a0 m0 c0 C a1 m1 c1 F a2 m2 c2 G b W hC hCb hF hG).mono fun e W' ⟨he, bel⟩ => ?_
  subst he
  exact ⟨_, rfl, _, _, _, [], _, [], hW', trodAll_mk1 (shut_bool Yba.underlying4 _), (trodAll_cons_mk (Below.trod laidOut (by kernel_rfl) (of_decide_eq_true (by kernel_rfl)) h0 bel lt0) (trodAll_cons_mk (Below.trod laidOut (by kernel_rfl) (of_decide_eq_true (by kernel_rfl)) h1 bel lt1) (trodAll_cons_mk (Below.trod laidOut (by kernel_rfl) (of_decide_eq_true (by kernel_rfl)) h2 bel lt2) (trodAll_cons_mk (shut_bool Yba.underlying4 b) trodAll_mk0)))), rfl, bel.frame _, fun h => by cases h⟩

theorem over : Rows.lawS1742BInsideRow.holds Yba.pinned (OpenSpec.ofChange Rows.lawS1742BInsideSpec) :=
  OpenClaim.holds_of_wide 4 Yba.f4 rfl rfl rfl rfl rfl rfl rfl ⟨rfl, rfl, rfl, rfl, rfl⟩ rfl rfl rfl rfl rfl (by kernel_rfl) Yba.func4 (by kernel_rfl)
    (of_decide_eq_true (by kernel_rfl)) (by unfold Func.isWrapper; first | (rw [if_pos (by decide +kernel)]; kernel_rfl) | (rw [if_neg (by decide +kernel)]; exact ⟨rfl, rfl⟩))
    (fun os started H enc _ => lifted os started H enc)

theorem proved : Rows.LawS1742BInsideSaid := over
end Go.Proofs.Ybulkajba.lawS1742BInside
