import Derived.Test.YbulkajbaReaders
import Derived.Deep.DrawnRows
namespace Go.Proofs.Ybulkajba
open Go.RowKit
set_option linter.unusedVariables false

theorem Yba.info100 : (Yba.prog.info? 100).map (fun i => (i.zero, i.size, i.bytes)) = some (some (.agg #[.int .i32 0, .int .i32 0]), 2, 8) := by kernel_rfl

/-- What is known of a slice of writes that came in. -/
def cameIn2 (w : World) (al : Option Addr) (m cl : Nat) (L : List (Int × Int)) : Prop :=
  L.length = m ∧ (al = none → m = 0 ∧ cl = 0) ∧ (∀ ad, al = some ad → ∀ i (h : i < L.length), w.cell? (ad.add (i * 2)) = some (.int .u8 L[i].1) ∧ w.cell? (ad.add (i * 2 + 1)) = some (.int .i32 L[i].2)) ∧
    ∀ i (h : i < L.length), 0 ≤ L[i].1 ∧ L[i].1 ≤ 255 ∧ -2147483648 ≤ L[i].2 ∧ L[i].2 ≤ 2147483647

theorem cameIn2.at {w : World} {al : Option Addr} {m cl : Nat} {L : List (Int × Int)} (h : cameIn2 w al m cl L) {i : Nat} (hi : i < m) (hi' : i < L.length) :
    ∃ b off, al = some ⟨b, off, none⟩ ∧ b < w.heap.size ∧ w.cell? ⟨b, off + i * 2, none⟩ = some (.int .u8 L[i].1) ∧ w.cell? ⟨b, off + i * 2 + 1, none⟩ = some (.int .i32 L[i].2) := by
  obtain ⟨h1, h2, h3, _⟩ := h
  rcases al with _ | ⟨b, off, spot⟩
  · have := (h2 rfl).1; omega
  · obtain ⟨c0, _⟩ := h3 _ rfl 0 (by omega)
    have hs : spot = none := by simpa [Addr.add] using World.cell?_spot c0
    subst hs
    obtain ⟨c1, c2⟩ := h3 _ rfl i hi'
    rw [add_lit] at c1 c2
    exact ⟨b, off, rfl, World.block_lt_of_cell? w _ c1, c1, by rw [Nat.add_assoc]; exact c2⟩

theorem cameIn2.below {w w' : World} {al : Option Addr} {m cl : Nat} {L : List (Int × Int)} (h : cameIn2 w al m cl L) (hb : Below w.heap.size w w') : cameIn2 w' al m cl L :=
  ⟨h.1, h.2.1, fun ad had i hi => ⟨(hb.cell (World.block_lt_of_cell? w _ (h.2.2.1 ad had i hi).1)).trans (h.2.2.1 ad had i hi).1, (hb.cell (World.block_lt_of_cell? w _ (h.2.2.1 ad had i hi).2)).trans (h.2.2.1 ad had i hi).2⟩, h.2.2.2⟩

/-- The writes, each item brought into range. -/
def foldL (L : List (Int × Int)) (n : Nat) : List (Nat × Int) := L.map fun p => ((p.1 % (n : Int)).toNat, p.2)
def flat2 (L : List (Nat × Int)) : List Value := L.flatMap fun p => [.int .i32 p.1, .int .i32 p.2]

theorem flat2_snoc (L : List (Int × Int)) (n k : Nat) (h : k < L.length) : flat2 (foldL (L.take (k + 1)) n) = flat2 (foldL (L.take k) n) ++ [.int .i32 ((L[k].1 % (n : Int)).toNat : Int), .int .i32 L[k].2] := by
  unfold flat2 foldL
  rw [List.take_succ_eq_append_getElem h, List.map_append, List.flatMap_append]
  simp

theorem flat2_at (L : List (Nat × Int)) (j : Nat) (h : j < L.length) : (flat2 L)[j * 2]? = some (.int .i32 L[j].1) ∧ (flat2 L)[j * 2 + 1]? = some (.int .i32 L[j].2) := by
  induction L generalizing j with
  | nil => simp at h
  | cons p L ih =>
    cases j with
    | zero => simp [flat2]
    | succ j =>
      have := ih j (by simpa using h)
      rw [show (j + 1) * 2 = j * 2 + 1 + 1 from by omega]
      simp only [flat2, List.flatMap_cons, List.cons_append, List.nil_append, List.getElem?_cons_succ, List.getElem_cons_succ]
      exact this

attribute [local go_sem ↓] Go.wp_at_zero Go.wp_at_succ

set_option maxHeartbeats 1000000 in
theorem writes_any (al : Option Addr) (m cl n : Nat) (L : List (Int × Int)) (w : World) (hL : cameIn2 w al m cl L) (hm : m ≤ 1024) (hn : 0 < n) (hn2 : n ≤ 1025) :
    Calls Yba.prog 8 #[.slice al m cl, .int .i64 n] w fun e w' => ∃ g cap, e = .returned (.slice (some ⟨g, 0, none⟩) m cap) ∧ w'.ownsRow w.heap.size 100 2 (.slice (some ⟨g, 0, none⟩) m cap) m (flat2 (foldL L n)) ∧ Below w.heap.size w w' := by
  obtain ⟨i0, hi, hz0, hz1, hz2⟩ := info_parts Yba.info100
  have hu61 := Yba.underlying61
  have hn1 : (1 : Int) ≤ (n : Int) := by omega
  have hnn : ¬ n = 0 := by omega
  have HL := (show Hid (cameIn2 _ _ _ _ _) from hL)
  have HM : Hid (L.length = m) := hL.1
  clear hL
  go_enter Yba.func8, Yba.ntmps8
  go_wp2_with (at_make; refine wpList_make_own _ rfl _ _ 61 rfl w.heap.size 100 i0 _ 2 hu61 hi hz0 hz1 .i64 .i64 _ m rfl rfl rfl (by rw [hz2]; omega) (by unfold maxLen; omega) (Nat.le_refl _) ?_; intro w1 hown1 hgrow1; have HO1 : Hid (World.ownsRow _ _ _ _ _ _ _) := hown1; have HB1 : Hid (Below w.heap.size w w1) := (Below.refl _ _).grown hgrow1 (Nat.le_refl _) (by simp); clear hown1 hgrow1)
  go_loopw [5, 13] (fun v q wr => ∃ k g cap : Nat, k ≤ m ∧ q = .int .i64 k ∧ v = .slice (some ⟨g, 0, none⟩) k cap ∧ wr.ownsRow w.heap.size 100 2 v k (flat2 (foldL (L.take k) n)) ∧ Below w.heap.size w wr) (fun _ q _ => m - (intOf q).toNat)
  case atStart => exact ⟨0, _, _, Nat.zero_le _, rfl, rfl, HO1.out, HB1.out⟩
  case round =>
    obtain ⟨k, g, cap, hk, rfl, rfl, hown, hbel⟩ := hrel
    by_cases hlt : k < m
    · have hlt' : k < L.length := by rw [HM.out]; exact hlt
      have HS := (show Hid _ from flat2_snoc L n k hlt')
      obtain ⟨b, off, rfl, hb, e0, e1⟩ := HL.out.at hlt hlt'
      obtain ⟨l1, l2, l3, l4⟩ := HL.out.2.2.2 k hlt'
      generalize L[k].1 = it at *
      generalize L[k].2 = ow at *
      have c0 := (hbel.cell (p := ⟨b, off + k * 2, none⟩) hb).trans e0
      have c1 := (hbel.cell (p := ⟨b, off + k * 2 + 1, none⟩) hb).trans e1
      have x0 : 0 ≤ it % (n : Int) := Int.emod_nonneg _ (by omega)
      have x1 : it % (n : Int) < (n : Int) := Int.emod_lt_of_pos _ (by omega)
      have hT : it.tmod (n : Int) = it % (n : Int) := Int.tmod_eq_emod_of_nonneg l1
      have hX : ((it % (n : Int)).toNat : Int) = it % n := Int.toNat_of_nonneg x0
      rw [hX] at HS
      generalize it % (n : Int) = x at *
      have hW2 : IntKind.i32.wrap x = x := by rw [IntKind.wrap_i32]; omega
      clear hX
      have HO := (show Hid (World.ownsRow _ _ _ _ _ _ _) from hown)
      have HB := (show Hid (Below _ _ _) from hbel)
      have hs := hbel.size
      have NE := (show Hid (some wr.heap.size ≠ _) from own_ne hown (Nat.le_refl _))
      clear e0 e1 hown hbel HO1 HB1
      have hw1 : IntKind.i64.wrap it = it := by rw [IntKind.wrap_i64]; omega
      go_wp2_with fail
      go_region_held3 (fun w' => w'.cell? ⟨wr.heap.size, 0, none⟩ = some (.int .u8 it) ∧ w'.cell? ⟨wr.heap.size, 1, none⟩ = some (.int .i32 ow))
        (first
          | go_keep
          | (go_split_ands
             refine ⟨?_, ?_⟩
             · (rw [hgrow4.cell_far _ (by simp; omega) NE.out]; assumption)
             · (rw [hgrow4.cell_far _ (by simp; omega) NE.out]; assumption)))
        ((refine step_append_lies _ (by rfl) _ _ _ (by rfl) w.heap.size 100 i0 _ 2 8 hu61 hi hz0 hz1 hz2 rfl (by omega) _ k _ (by rfl) (((HO.out.alloc _).alloc _).drew) ⟨wr.heap.size + 1, 0, none⟩ 1 1 [.int .i32 x, .int .i32 ow] (by rfl) (by rfl) (World.news_of_block (heap_new2 wr _ _)) (by simp [Value.oneCell']) (by omega) (by unfold maxLen; omega) (by omega) (by simp; omega) _ rfl ?_; intro g4 c4 w4 hown4 hgrow4 hat4 hlt4))
      go_wp2_with fail
      go_roundw
      case rel =>
        refine ⟨k + 1, g4, c4, by omega, by go_num, rfl, ?_, ?_⟩
        · rw [HS.out]; exact hown4
        · exact Below.grown (((HB.out.alloc hs _).alloc (by simp; omega) _).drew) hgrow4 (by simp; omega) (fun j hj => (HO.out.lt j hj).1)
      case measure => simp [intOf]; omega
    · obtain rfl : k = m := by omega
      have HO := (show Hid (World.ownsRow _ _ _ _ _ _ _) from hown)
      have HB := (show Hid (Below _ _ _) from hbel)
      clear hown hbel
      go_wp2_with fail
      go_ret
      have ho := HO.out
      rw [List.take_of_length_le (by rw [HM.out]; exact Nat.le_refl _)] at ho
      exact ⟨g, cap, rfl, ho, HB.out⟩
end Go.Proofs.Ybulkajba
