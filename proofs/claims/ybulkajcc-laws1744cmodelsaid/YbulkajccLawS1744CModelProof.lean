/- The law over the walks: the frame after the guide's own shell. -/
import Derived.Test.YbulkajccLawM
import Derived.ProofKit
import Derived.OpenShut
import Derived.ShutString
import Derived.ChangeOld
import Derived.Below
import Derived.Deep.Slices
namespace Go.Proofs.Ybulkajcc.lawS1744CModel
open Go.ChangeShapes Go.WideShapes Go.ChangeAt Go.RowKit
open Go.ChangeMaps (open_string shut_string)
open Go.Lib (HoldsBytes)
set_option linter.unusedVariables false

theorem own : ownKnob Yba.prog.godebug = none := by kernel_rfl
theorem laidOut : laidOutB Yba.prog = true := by kernel_rfl

/-- One answer that came in. -/
theorem elemIn {H : Type} {enc : TypeId × Value → H} {W : World} {n : Nat} {v : Value} {x : DataW H × List MemPlace} (h : DataW.trod enc Yba.prog W 0 (fun _ => true) true n 23 [v] = some x) :
    ∃ q : (Option Addr × Nat × Nat) × List UInt8, v = encS q.1 ∧ HoldsBytes W (encS q.1) q.2 ∧ (q.1.1 = none → q.1.2.2 = 0) := by
  rcases open_ints Yba.underlying23 Yba.underlying5 (by kernel_rfl) h with ⟨hcs, _⟩ | ⟨ad, len, cap, zs, hcs, _, hl, hm, hz, _, hc, hw⟩
  · simp only [List.cons.injEq, and_true] at hcs
    subst hcs
    exact ⟨((none, 0, 0), []), rfl, ⟨none, 0, rfl, fun _ => rfl, fun a e => by (cases e)⟩, fun _ => rfl⟩
  · simp only [List.cons.injEq, and_true] at hcs
    subst hcs
    have hz' : zs.length = cap := by simpa using hz
    refine ⟨((some ad, len, cap), Lib.bytesOf (zs.take len)), rfl, ⟨some ad, cap, ?_, fun e => by (cases e), fun b e i x hx => ?_⟩, fun e => by (cases e)⟩
    · show Value.slice (some ad) len cap = _
      rw [Lib.bytesOf_length, List.length_take, hz', Nat.min_eq_left hl]
    · obtain rfl := Option.some.inj e
      unfold Lib.bytesOf at hx
      rw [List.getElem?_map, List.getElem?_take] at hx
      split at hx
      · rename_i hi
        have hiz : i < zs.length := by omega
        rw [List.getElem?_eq_getElem hiz] at hx
        simp only [Option.map_some, Option.some.injEq] at hx
        subst hx
        have hb := hw zs[i] (List.getElem_mem hiz)
        simp [Lit.wf, IntKind.min, IntKind.max, IntKind.signed, IntKind.bits] at hb
        rw [hc i hiz]
        have hm : zs[i].toNat % 256 = zs[i].toNat := by omega
        simp [List.getD_eq_getElem?_getD, List.getElem?_eq_getElem hiz, hm]
        omega
      · cases hx

/-- The answers that came in. -/
theorem ansIn {H : Type} {enc : TypeId × Value → H} {W : World} {a : Option Addr} {len cap : Nat} {d : DataW H} {ps : List MemPlace} (h : DataW.Trod enc Yba.prog W 0 (fun _ => true) true 22 (.slice a len cap) d ps) :
    ∃ qs, AnsIn W a len cap qs := by
  obtain ⟨fuel, hf⟩ := h
  rcases Go.Deep.open_slice1 Yba.underlying22 (by kernel_rfl) hf with ⟨hcs, _⟩ | ⟨x, l, c, m, n, V, D, Pl, hcs, _, hl, hm, hmm, _, hx⟩
  · simp [Value.cells] at hcs
    obtain ⟨rfl, rfl, rfl⟩ := hcs
    exact ⟨[], rfl, fun _ => ⟨rfl, rfl⟩, fun ad e => by (cases e), fun p hp => by simp at hp⟩
  · simp [Value.cells] at hcs
    obtain ⟨rfl, rfl, rfl⟩ := hcs
    have hm' : m = cap := by simpa using hmm
    subst hm'
    have each : ∀ i, ∃ q : (Option Addr × Nat × Nat) × List UInt8, i < len → V i = encS q.1 ∧ HoldsBytes W (encS q.1) q.2 ∧ (q.1.1 = none → q.1.2.2 = 0) := by
      intro i
      by_cases hi : i < len
      · obtain ⟨q, hq⟩ := elemIn (hx i (by omega)).2
        exact ⟨q, fun _ => hq⟩
      · exact ⟨((none, 0, 0), []), fun h => absurd h hi⟩
    obtain ⟨f, hfx⟩ := Classical.axiomOfChoice each
    refine ⟨(List.range len).map f, by simp, fun e => by (cases e), fun ad e i hi => ?_, fun p hp => ?_⟩
    · obtain rfl := Option.some.inj e
      have hi' : i < len := by simpa using hi
      simp only [List.getElem_map, List.getElem_range]
      rw [(hx i (by omega)).1, (hfx i hi').1]
    · obtain ⟨i, hi, rfl⟩ := List.mem_map.1 hp
      exact (hfx i (List.mem_range.1 hi)).2

set_option maxRecDepth 100000 in
theorem lifted (os : Os) (started : os.Started) (H : Type) (enc : TypeId × Value → H) :
    ReturnsInHanded {} Yba.checked os 3 .any (Rows.lawS1744CModelSpec.pre6 enc Yba.prog Yba.f3 Rows.lawS1744CModelRow.domain false) (Rows.lawS1744CModelSpec.post enc Yba.prog Yba.f3 false true false false) := by
  refine returnsInHanded_of_change (C := Yba.checked) own started (by kernel_rfl) Yba.func3
    (ChangeSpec.witness6 (enc := enc) (C := Yba.checked) false ⟨#[], #[.slice none 0 0], []⟩ 8 (by kernel_rfl) (by kernel_rfl) (by kernel_rfl) (by kernel_rfl)) ?_
  intro W base args ds gs before hval0 hW hcnd _
  have hval : ∀ (j : Nat) t v, Yba.f3.params[j]? = some t → args[j]? = some v → Value.okWide Yba.prog W .any base t v := hval0
  have hW' := hW
  obtain ⟨p, q, hA0, hV, rfl, hfz, hnd⟩ := hW
  have hA : DataW.TrodAll enc Yba.prog W 0 (fun _ => true) true Yba.f3.params.toList args.toList ds p := hA0
  rw [Yba.params3] at hA hval
  obtain ⟨v0, vs0, d0, ds0, p0, q0, hargs, rfl, rfl, h0, r0⟩ := trodAll_cons hA
  obtain ⟨rfl, rfl, rfl⟩ := trodAll_nil r0
  obtain rfl : args = #[v0] := by cases args; simp_all
  obtain ⟨rfl, rfl⟩ := trodVars_none hV
  obtain ⟨a0, m0, c0, rfl⟩ := okWide_slice Yba.underlying22 (hval 0 22 v0 rfl rfl)
  have lt0 : ∀ x ∈ p0, x.block < W.heap.size := by obtain ⟨m, hm⟩ := h0; exact DataW.trod_lt m _ _ _ hm
  obtain ⟨qs, hqs⟩ := ansIn h0
  clear hA0 hval0
  refine (law_any a0 m0 c0 qs W hqs).mono fun e W' ⟨he, bel⟩ => ?_
  subst he
  exact ⟨_, rfl, _, _, _, [], _, [], hW', trodAll_mk1 (shut_bool Yba.underlying4 _), (trodAll_cons_mk (Below.trod laidOut (by kernel_rfl) (of_decide_eq_true (by kernel_rfl)) h0 bel lt0) trodAll_mk0), rfl, bel.frame _, fun h => by cases h⟩

theorem over : Rows.lawS1744CModelRow.holds Yba.pinned (OpenSpec.ofChange Rows.lawS1744CModelSpec) :=
  OpenClaim.holds_of_wide 3 Yba.f3 rfl rfl rfl rfl rfl rfl rfl ⟨rfl, rfl, rfl, rfl, rfl⟩ rfl rfl rfl rfl rfl (by kernel_rfl) Yba.func3 (by kernel_rfl)
    (of_decide_eq_true (by kernel_rfl)) (by unfold Func.isWrapper; first | (rw [if_pos (by decide +kernel)]; kernel_rfl) | (rw [if_neg (by decide +kernel)]; exact ⟨rfl, rfl⟩))
    (fun os started H enc _ => lifted os started H enc)

theorem proved : Rows.LawS1744CModelSaid := over
end Go.Proofs.Ybulkajcc.lawS1744CModel
