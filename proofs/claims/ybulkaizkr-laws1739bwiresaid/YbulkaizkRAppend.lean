import Derived.Test.YbulkaizkRBasic
namespace Go.Proofs.YbulkaizkR
open Go.RowKit

/-- The bytes of an attribute in basic form. -/
def encOne (t v : Int) : List Value := [.int .u8 ((32768 + t) / 256), .int .u8 ((32768 + t) % 256), .int .u8 (v / 256), .int .u8 (v % 256)]
def encAll (L : List (Int × Int)) : List Value := L.flatMap fun p => encOne p.1 p.2

theorem encAll_snoc (L : List (Int × Int)) (k : Nat) (h : k < L.length) : encAll (L.take (k + 1)) = encAll (L.take k) ++ encOne L[k].1 L[k].2 := by
  unfold encAll
  rw [List.take_succ_eq_append_getElem h, List.flatMap_append]
  simp

/-- Where attribute i lies. -/
def attrAt (w : World) (g i : Nat) (t v : Int) : Prop :=
  ∃ gi cap, w.cell? ⟨g, i * 3, none⟩ = some (.int .u16 t) ∧ w.cell? ⟨g, i * 3 + 1, none⟩ = some (.bool true) ∧ w.cell? ⟨g, i * 3 + 2, none⟩ = some (.slice (some ⟨gi, 0, none⟩) 2 cap) ∧
    w.cell? ⟨gi, 0, none⟩ = some (.int .u8 (v / 256)) ∧ w.cell? ⟨gi, 1, none⟩ = some (.int .u8 (v % 256))

theorem news2 {w : World} {g : Nat} {x y : Value} (h0 : w.cell? ⟨g, 0, none⟩ = some x) (h1 : w.cell? ⟨g, 1, none⟩ = some y) : ∀ j u, [x, y][j]? = some u → w.cell? ((⟨g, 0, none⟩ : Addr).add j) = some u := by
  intro j u hj
  have hadd : (⟨g, 0, none⟩ : Addr).add j = ⟨g, j, none⟩ := by unfold Addr.add; split <;> simp_all
  rw [hadd]
  match j, hj with
  | 0, hj => simp at hj; subst hj; exact h0
  | 1, hj => simp at hj; subst hj; exact h1

theorem own_ne {w : World} {B : Nat} {e : TypeId} {size : Nat} {v : Value} {n : Nat} {xs : List Value} (h : w.ownsRow B e size v n xs) {k : Nat} (hk : w.heap.size ≤ k) : some k ≠ v.ownBlock := by
  intro he
  have := (h.lt k he.symm).2
  omega

set_option maxHeartbeats 400000 in
theorem appendAttrs_any (L : List (Int × Int)) (g cap : Nat) (w : World) (hL : L.length ≤ 1000) (ht : ∀ p ∈ L, bits BinOp.or IntKind.u16 32768 p.1 = 32768 + p.1 ∧ 0 ≤ p.1 ∧ p.1 < 32768) (hat : ∀ i (h : i < L.length), attrAt w g i L[i].1 L[i].2) :
    Calls Yba.prog 7 #[.slice none 0 0, .slice (some ⟨g, 0, none⟩) L.length cap] w fun e w' => ∃ sv, e = .returned sv ∧
      w'.ownsRow w.heap.size 5 1 sv (4 * L.length) (encAll L) ∧ Below w.heap.size w w' := by
  obtain ⟨i0, hi, hz0, hz1, hz2⟩ := info_parts Yba.info5
  go_enter Yba.func7, Yba.ntmps7
  go_wp2_with fail
  go_loopw [0, 9] (fun sv i wr => ∃ k : Nat, k ≤ L.length ∧ i = .int .i64 k ∧ wr.ownsRow w.heap.size 5 1 sv (4 * k) (encAll (L.take k)) ∧ Below w.heap.size w wr)
    (fun _ i _ => L.length - (intOf i).toNat)
  case atStart => exact ⟨0, Nat.zero_le _, rfl, World.ownsRow_nil _ _ _ _, Below.refl _ _⟩
  case round =>
    obtain ⟨k, hk, rfl, hown, hbel⟩ := hrel
    by_cases hlt : k < L.length
    · obtain ⟨gi, ci, q0, q1, q2, q3, q4⟩ := hat k hlt
      have HS : Hid (encAll (L.take (k + 1)) = encAll (L.take k) ++ encOne L[k].1 L[k].2) := encAll_snoc L k hlt
      have g0 : g < w.heap.size := World.block_lt_of_cell? w _ q0
      have g1 : gi < w.heap.size := World.block_lt_of_cell? w _ q3
      have c0 := (hbel.cell (p := ⟨g, k * 3, none⟩) g0).trans q0
      have c1 := (hbel.cell (p := ⟨g, k * 3 + 1, none⟩) g0).trans q1
      have c2 := (hbel.cell (p := ⟨g, k * 3 + 2, none⟩) g0).trans q2
      obtain ⟨htb, ht0, ht1⟩ := ht L[k] (List.getElem_mem hlt)
      generalize L[k].1 = tk at *
      generalize L[k].2 = vk at *
      have hsz := hbel.size
      clear q0 q1 q2 hat ht
      go_wp2_with fail
      refine (be_any w.heap.size (4 * k) (32768 + tk) _ _ _ (by omega) (by omega) (hown.alloc _) (by simp; omega) (by omega)).mono ?_
      rintro e w1 ⟨g2, cap2, rfl, hown1, hgrow1⟩
      obtain ⟨d0, d1, d2, f0, f1, f2, d3⟩ := cells3 ((hgrow1.block wr.heap.size (by simp) (own_ne hown (Nat.le_refl _))).trans (heap_alloc_new wr _))
      have HB : Hid (Below w.heap.size w w1) := (hbel.alloc hsz _).grown hgrow1 (by simp; omega) (fun k hk => (hown.lt k hk).1)
      have hsz1 := HB.out.size
      have N2 := news2 ((HB.out.cell (p := ⟨gi, 0, none⟩) g1).trans q3) ((HB.out.cell (p := ⟨gi, 1, none⟩) g1).trans q4)
      have N2H : Hid _ := N2
      clear N2 hgrow1 hown hbel q3 q4 c0 c1 c2
      go_wp2_with (at_builtin; refine wpList_append_lies _ rfl _ _ 23 rfl w.heap.size 5 i0 (.int .u8 0) 1 1 Yba.underlying23 hi hz0 hz1 hz2 rfl (by omega) _ (4 * k + 2) _ rfl hown1 ⟨gi, 0, none⟩ 2 ci _ rfl rfl N2H.out (by simp [Value.oneCell']) (by omega) (by unfold maxLen; omega) (by omega) (by omega) _ rfl ?_; intro g3 cap3 w2 hown2 hgrow2 hat2 hlt2)
      go_roundw
      case rel => 
        refine ⟨k + 1, by omega, by go_num, ?_, ?_⟩
        · rw [HS.out]
          simpa [encOne, Nat.mul_add] using hown2
        · exact HB.out.grown hgrow2 hsz1 (fun k hk => (hown1.lt k hk).1)
      case measure => simp [intOf]; omega
    · go_wp2_with fail
      go_ret
      have hkk : k = L.length := by omega
      subst hkk
      rw [List.take_length] at hown
      exact ⟨_, rfl, hown, hbel⟩
end Go.Proofs.YbulkaizkR
