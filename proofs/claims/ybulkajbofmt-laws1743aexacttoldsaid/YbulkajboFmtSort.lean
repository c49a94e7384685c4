/- The closure that compares, and sort.Slice over the quorums. -/
import Derived.Test.YbulkajboFmtSet
import Derived.Test.YbulkajboFmtShelf
namespace Go.Proofs.YbulkajboFmt
open Go.RowKit Go.Shelf Go.Lib Go.Sort
set_option linter.unusedVariables false

def ltQ (a b : Nat × Nat) : Bool := decide (a.1 < b.1) || (decide (a.1 = b.1) && decide (a.2 < b.2))
def encQ (x : Nat × Nat) : List Value := [.int .i64 (x.1 : Int), .int .i64 (x.2 : Int)]

set_option maxHeartbeats 2000000 in
theorem less_any (blk off c Bs size : Nat) (W : World) (G C : Nat → Nat) (hs : W.cell? ⟨Bs, 0, none⟩ = some (.slice (some ⟨blk, off, none⟩) size c))
    (hc : ∀ t, t < size → W.cell? ⟨blk, off + t * 2, none⟩ = some (.int .i64 (G t : Int)) ∧ W.cell? ⟨blk, off + t * 2 + 1, none⟩ = some (.int .i64 (C t : Int))) (i j : Nat) (hi : i < size) (hj : j < size) (_hsz : size < 4611686018427387904) :
    Calls Ybaf.prog 16 #[.int .i64 i, .int .i64 j, .pointer (some ⟨Bs, 0, none⟩)] W fun e w' => e = .returned (.bool (ltQ (G i, C i) (G j, C j))) ∧ ∃ q, w' = W.drewN q := by
  obtain ⟨gi, ci⟩ := hc i hi
  obtain ⟨gj, cj⟩ := hc j hj
  clear hc
  generalize G i = gi0 at *
  generalize G j = gj0 at *
  generalize C i = ci0 at *
  generalize C j = cj0 at *
  rcases Nat.lt_trichotomy gi0 gj0 with h | h | h
  · have hd : decide ((gi0 : Int) < (gj0 : Int)) = true := by simp; omega
    go_enter Ybaf.func16, Ybaf.ntmps16
    go_wp2
    go_quiet (fail)
    go_wp2
    go_ret
    exact ⟨by simp [ltQ, h], nq, rfl⟩
  · subst h
    go_enter Ybaf.func16, Ybaf.ntmps16
    go_wp2
    go_quiet (fail)
    go_wp2
    go_ret
    refine ⟨?_, nq, rfl⟩
    refine ret_bool (a := decide (ci0 < cj0)) ?_
    simp [ltQ]
  · have hd : decide ((gi0 : Int) < (gj0 : Int)) = false := by simp; omega
    have he : ((gi0 : Int) == (gj0 : Int)) = false := by simp; omega
    have hd2 : decide (gi0 < gj0) = false := by simp; omega
    have hd3 : decide (gi0 = gj0) = false := by simp; omega
    have hd4 : (gi0 == gj0) = false := by simp; omega
    go_enter Ybaf.func16, Ybaf.ntmps16
    go_wp2
    go_quiet (fail)
    go_wp2
    go_ret
    refine ⟨?_, nq, rfl⟩
    refine ret_bool (a := false) ?_
    simp [ltQ, show ¬ gi0 < gj0 by omega, show ¬ gi0 = gj0 by omega]

theorem swo_ltQ : SWO ltQ where
  irrefl := fun x => by simp [ltQ]
  trans := fun x y z h1 h2 => by simp [ltQ] at *; omega
  ntrans := fun x y z h1 h2 => by simp [ltQ] at *; omega

theorem Ybaf.svK (n : Nat) (h2 : 2 ≤ n) : Lib.swapperK n ((Ybaf.prog.info? 60).get (by kernel_rfl)) 25 = 9 := by
  have a : ((Ybaf.prog.info? 60).get (by kernel_rfl)).hasPointers = false := by kernel_rfl
  have b : ((Ybaf.prog.info? 60).get (by kernel_rfl)).bytes = 16 := by kernel_rfl
  have c : (n == 0) = false := by simp; omega
  have d : (n == 1) = false := by simp; omega
  simp [Lib.swapperK, a, b, c, d]

/-- Block g holds the pairs of Q, two cells each, none of them frozen. -/
def pairsAt (w : World) (g : Nat) (Q : List (Nat × Nat)) : Prop := ∀ t, t < Q.length →
  (w.cell? ⟨g, t * 2, none⟩ = some (.int .i64 ((Q.getD t (0, 0)).1 : Int)) ∧ w.frozen? ⟨g, t * 2, none⟩ = false) ∧ (w.cell? ⟨g, t * 2 + 1, none⟩ = some (.int .i64 ((Q.getD t (0, 0)).2 : Int)) ∧ w.frozen? ⟨g, t * 2 + 1, none⟩ = false)

theorem arr_get (d : Array (Nat × Nat)) (t : Nat) (h : t < d.size) : d[t]! = d.toList.getD t (0, 0) := by
  rw [getElem!_pos d t h, List.getD_eq_getElem?_getD, List.getElem?_eq_getElem (by simpa using h)]
  simp

theorem holdsK_of_pairs {w : World} {g : Nat} {d : Array (Nat × Nat)} (h : pairsAt w g d.toList) : HoldsK encQ 2 w g 0 d := by
  intro j hj
  rw [size_flatK] at hj
  rw [get_flatK _ _ _ _ hj, Nat.zero_add]
  have hlt : j / 2 < d.size := by omega
  obtain ⟨h1, h2⟩ := h (j / 2) (by simpa using hlt)
  rw [arr_get d _ hlt]
  rcases (show j % 2 = 0 ∨ j % 2 = 1 by omega) with e | e
  · rw [e, show j = j / 2 * 2 by omega]
    simp only [Nat.mul_div_left _ (show 0 < 2 by decide)]
    exact h1
  · have ej : j = j / 2 * 2 + 1 := by omega
    generalize hq : j / 2 = q at *
    rw [e, ej]
    exact h2

theorem pairs_of_holdsK {w : World} {g : Nat} {d : Array (Nat × Nat)} (h : HoldsK encQ 2 w g 0 d) : pairsAt w g d.toList := by
  intro t ht
  have ht' : t < d.size := by simpa using ht
  have h1 := h.cell (i := t) (c := 0) ht' (by omega)
  have h2 := h.cell (i := t) (c := 1) ht' (by omega)
  rw [arr_get d t ht', Nat.zero_add] at h1 h2
  exact ⟨h1, h2⟩

theorem kept_sorted {w : World} {g n : Nat} {d : Array (Nat × Nat)} {os : Array Obj} : Kept (fun k => k = g) w (grow (putRowK encQ 2 (Sort.ahead w n) g 0 d) os) := by
  refine ⟨rfl, rfl, rfl, ?_, fun j hj hn => ?_⟩
  · rw [size_grow]; unfold putRowK; rw [size_putRow]; exact Nat.le_add_right _ _
  · rw [heap_grow_old _ _ (by unfold putRowK; rw [size_putRow]; exact hj)]
    unfold putRowK putRow mapBlock
    rw [Array.getElem?_modify, if_neg (fun e => hn e.symm)]
    rfl

theorem kept_grow {w : World} {os : Array Obj} : Kept (fun _ => False) w (grow w os) := by
  refine ⟨rfl, rfl, rfl, ?_, fun j hj hn => heap_grow_old _ _ hj⟩
  rw [size_grow]; exact Nat.le_add_right _ _

theorem pairsAt_kept {S : Nat → Prop} {w w' : World} {g : Nat} {Q : List (Nat × Nat)} (h : pairsAt w g Q) (k : Kept S w w') (hg : g < w.heap.size) (hS : ¬ S g) : pairsAt w' g Q := by
  have e := k.block g hg hS
  intro t ht
  have h' := h t ht
  simp only [World.cell?, World.frozen?] at h' ⊢
  rw [e]; exact h'

theorem sort_tiny (al : Option Addr) (n c : Nat) (Bs : Nat) (hn : n ≤ 1) (w : World) :
    Calls Ybaf.prog 15 #[.iface 57 (.slice al n c), .func (.func 16) #[] #[.pointer (some ⟨Bs, 0, none⟩)]] w fun e w' =>
      e = .returned (.tuple #[]) ∧ Kept (fun _ => False) w w' := by
  rcases (show n = 0 ∨ n = 1 by omega) with rfl | rfl
  · refine (Any.sort_Slice_tiny Ybaf.laysGg6 57 60 ((Ybaf.prog.info? 57).get (by kernel_rfl)) ((Ybaf.prog.info? 60).get (by kernel_rfl)) (by kernel_rfl) (by kernel_rfl) (by kernel_rfl) (by kernel_rfl) 25 (fun _ => by kernel_rfl) al 0 c hn 36 (by kernel_rfl) (.func 16) #[] #[.pointer (some ⟨Bs, 0, none⟩)] w).mono ?_
    rintro e w' ⟨rfl, os, rfl⟩
    exact ⟨rfl, kept_grow⟩
  · refine (Any.sort_Slice_tiny Ybaf.laysGg6 57 60 ((Ybaf.prog.info? 57).get (by kernel_rfl)) ((Ybaf.prog.info? 60).get (by kernel_rfl)) (by kernel_rfl) (by kernel_rfl) (by kernel_rfl) (by kernel_rfl) 25 (fun _ => by kernel_rfl) al 1 c hn 37 (by kernel_rfl) (.func 16) #[] #[.pointer (some ⟨Bs, 0, none⟩)] w).mono ?_
    rintro e w' ⟨rfl, os, rfl⟩
    exact ⟨rfl, kept_grow⟩

theorem sort_any (g c Bs : Nat) (Q : List (Nat × Nat)) (hsz : Q.length ≤ 10000) (w : World) (hH : pairsAt w g Q) (hblk : g < w.heap.size)
    (hBs : w.cell? ⟨Bs, 0, none⟩ = some (.slice (some ⟨g, 0, none⟩) Q.length c)) (hB2 : Bs ≠ g) :
    Calls Ybaf.prog 15 #[.iface 57 (.slice (some ⟨g, 0, none⟩) Q.length c), .func (.func 16) #[] #[.pointer (some ⟨Bs, 0, none⟩)]] w fun e w' =>
      e = .returned (.tuple #[]) ∧ ∃ Q' : List (Nat × Nat), Q'.Perm Q ∧ pairsAt w' g Q' ∧ Kept (fun k => k = g) w w' := by
  have hB1 : Bs < w.heap.size := World.block_lt_of_cell? w _ hBs
  rcases Nat.lt_or_ge Q.length 2 with h2 | h2
  · refine (sort_tiny (some ⟨g, 0, none⟩) Q.length c Bs (by omega) w).mono ?_
    rintro e w' ⟨rfl, hk⟩
    exact ⟨rfl, Q, List.Perm.refl _, pairsAt_kept hH hk hblk (by simp), hk.mono (fun _ _ h => h.elim)⟩
  · obtain ⟨d, rfl⟩ : ∃ d : Array (Nat × Nat), Q = d.toList := ⟨Q.toArray, by simp⟩
    rw [Array.length_toList] at hsz h2 hBs
    have hHK := holdsK_of_pairs hH
    have hless : LessReadsK Ybaf.prog 16 #[.pointer (some ⟨Bs, 0, none⟩)] encQ 2 ltQ g 0 d.size w := by
      intro m os dk hs i j hi hj
      have e : sortWorldK encQ 2 w g 0 m dk os = putRowK encQ 2 (grow (Sort.ahead w m) os) g 0 dk := by
        unfold sortWorldK; rw [putRowK_grow _ _ (Sort.ahead w m) _ g 0 _ hblk]
      have hHg : HoldsK encQ 2 (grow (Sort.ahead w m) os) g 0 d := holdsK_grow _ _ _ _ g 0 d hblk (holdsK_ahead _ _ _ _ _ _ _ hHK)
      refine less_any g 0 c Bs d.size _ (fun t => dk[t]!.1) (fun t => dk[t]!.2) ?_ (fun t ht => ?_) i j hi hj (by omega)
      · rw [e, cell?_putRowK_other _ _ _ g 0 dk _ (by exact hB2), cell?_grow _ _ _ (by exact hB1)]; exact hBs
      · rw [e]
        have hp := holdsK_putRowK _ _ _ g 0 d dk hHg hs
        exact ⟨(hp.cell (i := t) (c := 0) (by omega) (by omega)).1, (hp.cell (i := t) (c := 1) (by omega) (by omega)).1⟩
    rw [Array.length_toList]
    refine (Any.sort_Slice_cells_sorted Ybaf.laysGg6 57 60 ((Ybaf.prog.info? 57).get (by kernel_rfl)) ((Ybaf.prog.info? 60).get (by kernel_rfl)) (by kernel_rfl) (by kernel_rfl) (by kernel_rfl) (by kernel_rfl) 25 (fun _ => by kernel_rfl) encQ 2 (fun _ => rfl) (by kernel_rfl) (fun _ => by kernel_rfl)
      (fun x v hv => by simp [encQ] at hv; rcases hv with rfl | rfl <;> rfl) ltQ swo_ltQ 16 _
      (enters_of Ybaf.func16 (by kernel_rfl) rfl) g 0 c d h2 (by omega) 44 (by rw [Ybaf.svK _ h2]; kernel_rfl) false
      (fun args W => run_callFunc_extern Ybaf.func44 (by kernel_rfl) (by kernel_rfl) (by kernel_rfl) (e := Extern.ReflectliteSwapper.swap false) (by kernel_rfl) args W) w hless hHK hblk).mono ?_
    rintro e w' ⟨rfl, d', n, os, hP, _, rfl⟩
    refine ⟨rfl, d'.toList, ?_, ?_, kept_sorted⟩
    · have := hP.2.2
      have e1 : d'.extract 0 d.size = d' := by rw [← hP.1]; simp
      have e2 : d.extract 0 d.size = d := by simp
      rwa [e1, e2] at this
    · refine pairs_of_holdsK (holdsK_grow _ _ _ _ g 0 d' (by unfold putRowK; rw [size_putRow]; exact hblk) (holdsK_putRowK _ _ _ g 0 d d' (holdsK_ahead _ _ _ _ _ _ _ hHK) hP.1))
end Go.Proofs.YbulkajboFmt
