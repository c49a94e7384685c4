import Derived.Test.YbulkajbaPrepD
namespace Go.Proofs.Ybulkajba
open Go.RowKit
open Rel
set_option linter.unusedVariables false

theorem trig_any (W : Int) (d : Nat) (w : World) (h1 : -128 ≤ W) (h2 : W ≤ 127) (h3 : d ≤ 100000000) :
    Calls Yba.prog 11 #[.int .i64 W, .int .i64 d] w fun e w' => e = .returned (.int .i64 ((trig W d : Nat) : Int)) ∧ w' = w := by
  by_cases hd : d = 0
  · subst hd
    go_enter Yba.func11, Yba.ntmps11
    go_wp2_with fail
    go_ret
    exact ⟨rfl, rfl⟩
  · have hd0 : ¬ (d : Int) ≤ 0 := by omega
    by_cases hw : W ≤ 1
    · have e : trig W d = d := by unfold trig; rw [if_neg hd, if_pos hw]
      rw [e]
      clear e
      go_enter Yba.func11, Yba.ntmps11
      go_wp2_with fail
      go_ret
      exact ⟨rfl, rfl⟩
    · by_cases hg : W ≤ (d : Int)
      · have e : ((trig W d : Nat) : Int) = (d : Int) - W + 1 := by unfold trig; rw [if_neg hd, if_neg hw, if_pos hg]; omega
        rw [e]
        clear e
        go_enter Yba.func11, Yba.ntmps11
        go_wp2_with fail
        go_ret
        exact ⟨rfl, rfl⟩
      · have e : trig W d = 0 := by unfold trig; rw [if_neg hd, if_neg hw, if_neg hg]
        rw [e]
        clear e
        go_enter Yba.func11, Yba.ntmps11
        go_wp2_with fail
        go_ret
        exact ⟨rfl, rfl⟩

theorem Dyn.keptS {L : Lay} {w w' : World} {c : Nat → Nat} {S : Nat → Prop} (h : Dyn L w c) (k : Kept S w w') (h1 : ¬ S L.bW) (h2 : ¬ S L.bP) (h3 : ¬ S L.bR) : Dyn L w' c := by
  obtain ⟨R, r1, r2, r3⟩ := h.rd
  exact ⟨k.row h.wt h1, k.row h.pl h2, R, r1, k.row r2 h3, r3⟩

theorem Exp.still {w : World} {bT bX bY : Nat} {w0 : Nat → Int} {T v : Nat} {c : Nat → Nat} {N x : Nat} (h : Exp w bT bX bY w0 T v c N x) (n1 : bT ≠ bY) (n2 : bX ≠ bY) (hv : v < x) (hc : x < T ∨ trig (w0 x) (c x) = 0) :
    Exp (w.setCell ⟨bY, x, none⟩ (.int .i32 (w0 x - (c x : Int)))) bT bX bY w0 T v c N (x + 1) := by
  refine ⟨?_, ?_, ?_⟩
  · rw [← timesL_same w0 T v c N x (by rw [tm_after w0 T v c x hv]; split <;> omega)]
    exact h.t.other (p := ⟨bY, x, none⟩) n1 _
  · rw [← expPL_same w0 T c N x hc]
    exact h.p.other (p := ⟨bY, x, none⟩) n2 _
  · rw [← expWL_set]; exact h.y.setInt x _

theorem Exp.place {w : World} {bT bX bY : Nat} {w0 : Nat → Int} {T v : Nat} {c : Nat → Nat} {N x : Nat} (h : Exp w bT bX bY w0 T v c N x) (n1 : bT ≠ bY) (n2 : bX ≠ bY) (n3 : bT ≠ bX) (hv : v < x) (hT : T ≤ x) (hc : 0 < trig (w0 x) (c x)) :
    Exp (((w.setCell ⟨bY, x, none⟩ (.int .i32 (w0 x - (c x : Int)))).setCell ⟨bX, x, none⟩ (.bool true)).setCell ⟨bT, x, none⟩ (.int .i64 ((trig (w0 x) (c x) : Nat) : Int))) bT bX bY w0 T v c N (x + 1) := by
  refine ⟨?_, ?_, ?_⟩
  · have e := timesL_set w0 T v c N x
    rw [tm_after w0 T v c x hv, if_pos hT] at e
    rw [← e]
    exact ((h.t.other (p := ⟨bY, x, none⟩) n1 _).other (p := ⟨bX, x, none⟩) n3 _).setInt x _
  · rw [← expPL_set w0 T c N x hT hc]
    exact ((h.p.other (p := ⟨bY, x, none⟩) n2 _).set x _).other (p := ⟨bT, x, none⟩) (fun e => n3 e.symm) _
  · rw [← expWL_set]; exact ((h.y.setInt x _).other (p := ⟨bX, x, none⟩) (fun e => n2 e.symm) _).other (p := ⟨bT, x, none⟩) (fun e => n1 e.symm) _
end Go.Proofs.Ybulkajba
