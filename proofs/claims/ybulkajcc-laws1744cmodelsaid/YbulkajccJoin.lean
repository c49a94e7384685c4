import Derived.Test.YbulkajccConcat
import Derived.Test.YbulkajccDel
import Derived.Lib.SlBytesConst
namespace Go.Proofs.Ybulkajcc
open Go.RowKit
open Go.Lib (HoldsBytes PartsAt FreshBytes)
set_option linter.unusedVariables false

theorem fresh_holds {B : Nat} {w : World} {v : Value} {l : List UInt8} (h : FreshBytes B w v l) : HoldsBytes w v l ∧ (∃ g cap, v = .slice (some ⟨g, 0, none⟩) l.length cap ∧ B ≤ g) := by
  obtain ⟨g, cap, zs, rfl, hB, hl, hm, hz, hzb, hb, hc, hf⟩ := h
  refine ⟨⟨some ⟨g, 0, none⟩, cap, rfl, fun e => by (cases e), fun a ha i x hx => ?_⟩, g, cap, rfl, hB⟩
  obtain rfl := Option.some.inj ha
  have hi : i < l.length := (List.getElem?_eq_some_iff.1 hx).1
  rw [add_lit0, hc i (by omega)]
  rw [← hb] at hx
  unfold Lib.bytesOf at hx
  have hiz : i < zs.length := by omega
  rw [List.getElem?_map, List.getElem?_take, if_pos hi, List.getElem?_eq_getElem hiz] at hx
  simp only [Option.map_some, Option.some.injEq] at hx
  have := hzb zs[i] (List.getElem_mem hiz)
  subst hx
  have hm : zs[i].toNat % 256 = zs[i].toNat := by omega
  simp [List.getD_eq_getElem?_getD, List.getElem?_eq_getElem hiz, hm]
  omega

theorem join_any (b n c : Nat) (vs : List Value) (ls : List (List UInt8)) (sv : Value) (sep : List UInt8) (w : World) (hn : ls.length = n) (h1 : 1 ≤ n) (hP : PartsAt w ⟨b, 0, none⟩ vs ls) (hcap : n ≤ c) (hS : HoldsBytes w sv sep)
    (hn47 : n ≤ 1024) (hlen : Lib.lens ls + sep.length * (n - 1) ≤ 140737488355328) :
    Calls Yba.prog 12 #[.slice (some ⟨b, 0, none⟩) n c, sv] w fun e w' => ∃ p cap, e = .returned (.slice p (Lib.join ls sep).length cap) ∧ HoldsBytes w' (.slice p (Lib.join ls sep).length cap) (Lib.join ls sep) ∧ (p = none → cap = 0) ∧ Below w.heap.size w w' := by
  by_cases h2 : 2 ≤ n
  · refine (Yba.bytes_Join_many b 0 n c vs ls sv sep w hn h2 hP hcap hS (by omega) hlen).mono ?_
    rintro e w' ⟨v, rfl, hf, hb⟩
    obtain ⟨hh, g, cap, rfl, _⟩ := fresh_holds hf
    exact ⟨some ⟨g, 0, none⟩, cap, rfl, hh, fun e => by (cases e), hb⟩
  · obtain rfl : n = 1 := by omega
    obtain ⟨l, rfl⟩ := List.length_eq_one_iff.1 hn
    rw [Lib.join_one]
    obtain ⟨p, cp, hv, hc, hn0, hcs⟩ := parts_at hP 0 (by simp)
    simp only [List.getElem_cons_zero] at hv hc hn0 hcs
    rw [add_lit0] at hc
    by_cases hl : l.length = 0
    · have hl' : l = [] := List.length_eq_zero_iff.1 hl
      subst hl'
      refine (Yba.bytes_Join_one_empty b 0 c p cp sv w hc).mono ?_
      rintro e w' ⟨rfl, rfl⟩
      exact ⟨none, 0, rfl, ⟨none, 0, rfl, fun _ => rfl, fun a h => by (cases h)⟩, fun _ => rfl, Below.refl _ _⟩
    · rcases p with _ | ad
      · exact absurd (by rw [hn0 rfl]; rfl) hl
      · have hlb : l.length ≤ 140737488355328 := by simp [Lib.lens] at hlen; omega
        refine (Yba.bytes_Join_one b 0 c ad cp l sv w hc (fun i x hx => ?_) (by omega) hlb).mono ?_
        · refine hcs ad rfl i _ ?_
          unfold bv; rw [List.getElem?_map, hx]; rfl
        · rintro e w' ⟨v, rfl, hf, hb⟩
          obtain ⟨hh, g, cap, rfl, _⟩ := fresh_holds hf
          exact ⟨some ⟨g, 0, none⟩, cap, rfl, hh, fun e => by (cases e), hb⟩

theorem convC (W : World) (C : Array Value) (n c g : Nat) (hg : g = W.heap.size) :
    (convert 23 23 (.slice (some ⟨g, 0, none⟩) n c)).run Yba.prog (W.alloc (.cells C 5)) = .ok (.slice (some ⟨g, 0, none⟩) n c) (W.alloc (.cells C 5 (C.size, C.size + 1))) := by
  subst hg; exact Lib.run_convert_bytes_const W 23 5 C n c Yba.underlying23 Yba.underlying5
end Go.Proofs.Ybulkajcc
