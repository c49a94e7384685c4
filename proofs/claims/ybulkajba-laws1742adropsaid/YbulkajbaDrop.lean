import Derived.Test.YbulkajbaAin
namespace Go.Proofs.Ybulkajba
open Go.RowKit

/-- What dropGained leaves. -/
def dropZ (Z V : List Int) : List Int := (List.range Z.length).map fun (i : Nat) => if inB V (i : Int) then 0 else Z.getD i 0

theorem dropZ_length (Z V : List Int) : (dropZ Z V).length = Z.length := by simp [dropZ]
theorem dropZ_nil (Z : List Int) : dropZ Z [] = Z := by
  apply List.ext_getElem
  · simp [dropZ]
  · intro i h1 h2
    simp [dropZ, inB, List.getElem?_eq_getElem h2]
theorem dropZ_at (Z V : List Int) (i : Nat) (h : i < Z.length) : (dropZ Z V).getD i 0 = if inB V (i : Int) then 0 else Z.getD i 0 := by
  simp [dropZ, h]
theorem dropZ_step (Z V : List Int) (k : Nat) (hk : k < V.length) (h0 : 0 ≤ V.getD k 0) : (dropZ Z (V.take k)).set (V.getD k 0).toNat 0 = dropZ Z (V.take (k + 1)) := by
  have hv : V.getD k 0 = V[k] := by simp [List.getElem?_eq_getElem hk]
  rw [hv] at h0 ⊢
  apply List.ext_getElem
  · simp [dropZ]
  · intro i h1 h2
    simp only [List.take_succ_eq_append_getElem hk, List.getElem_set, dropZ, inB, List.getElem_map, List.getElem_range, List.mem_append, List.mem_singleton]
    by_cases he : V[k].toNat = i
    · have : (i : Int) = V[k] := by omega
      simp [he, this]
    · have : ¬ (i : Int) = V[k] := by omega
      simp [he, this]

set_option maxHeartbeats 400000 in
theorem drop_any (Z V : List Int) (bS bG bw m n cap : Nat) (w : World) (hm : Z.length = m) (hn : V.length = n) (_hm2 : m ≤ 1024) (hn2 : n ≤ 1024)
    (h23 : w.cell? ⟨bS, 23, none⟩ = some (.slice (some ⟨bG, 0, none⟩) m m)) (h24 : w.cell? ⟨bS, 24, none⟩ = some (.slice (some ⟨bw, 0, none⟩) n cap)) (hf : w.frozen? ⟨bS, 24, none⟩ = false)
    (hG : rowIs w bG 26 (Z.map (.int .u64))) (hV : ∀ j, j < n → w.cell? ⟨bw, j, none⟩ = some (.int .i32 (V.getD j 0))) (hVb : ∀ j, j < n → 0 ≤ V.getD j 0 ∧ V.getD j 0 < m)
    (n1 : bS ≠ bG) (n2 : bw ≠ bG) (sb : bS < w.heap.size) (wb : bw < w.heap.size) :
    Calls Yba.prog 7 #[.pointer (some ⟨bS, 0, none⟩)] w fun e w' => e = .returned (.tuple #[]) ∧ rowIs w' bG 26 ((dropZ Z V).map (.int .u64)) ∧
      w'.cell? ⟨bS, 23, none⟩ = some (.slice (some ⟨bG, 0, none⟩) m m) ∧ w'.cell? ⟨bS, 24, none⟩ = some (.slice (some ⟨bw, 0, none⟩) 0 cap) ∧ Kept (fun k => k = bG ∨ k = bS) w w' := by
  have HM : Hid (Z.length = m) := hm
  have HN : Hid (V.length = n) := hn
  have HV : Hid (∀ j, j < n → w.cell? ⟨bw, j, none⟩ = some (.int .i32 (V.getD j 0))) := hV
  have HVb : Hid (∀ j, j < n → 0 ≤ V.getD j 0 ∧ V.getD j 0 < m) := hVb
  have HG : Hid (rowIs w bG 26 ((dropZ Z (V.take 0)).map (.int .u64))) := by
    rw [List.take_zero, dropZ_nil]; exact hG
  clear hm hn hV hVb hG
  go_enter Yba.func7, Yba.ntmps7
  go_wp2_with fail
  go_loopw [9] (fun q wr => ∃ k : Nat, k ≤ n ∧ q = .int .i64 k ∧ rowIs wr bG 26 ((dropZ Z (V.take k)).map (.int .u64)) ∧ Kept (fun j => j = bG) w wr) (fun q _ => n - (intOf q).toNat)
  case atStart => exact ⟨0, Nat.zero_le _, rfl, HG.out, Kept.refl _ _⟩
  case round =>
    obtain ⟨k, hk, rfl, hr, hkept⟩ := hrel
    have c23 := (hkept.cell (p := ⟨bS, 23, none⟩) sb (fun e => n1 e)).trans h23
    have c24 := (hkept.cell (p := ⟨bS, 24, none⟩) sb (fun e => n1 e)).trans h24
    have f24 : wr.frozen? ⟨bS, 24, none⟩ = false := (World.frozen?_of_block (a := ⟨bS, 24, none⟩) (hkept.block bS sb (fun e => n1 e))).trans hf
    by_cases hlt : k < n
    · have cV := (hkept.cell (p := ⟨bw, k, none⟩) wb (fun e => n2 e)).trans (HV.out k hlt)
      obtain ⟨l1, l2⟩ := HVb.out k hlt
      have HS : Hid ((dropZ Z (V.take k)).set (V.getD k 0).toNat 0 = dropZ Z (V.take (k + 1))) := dropZ_step Z V k (by rw [HN.out]; exact hlt) l1
      obtain ⟨x, hx⟩ : ∃ x, x = V.getD k 0 := ⟨_, rfl⟩
      rw [← hx] at cV l1 l2 HS
      obtain ⟨y, rfl⟩ := Int.eq_ofNat_of_zero_le l1
      have cG : wr.cell? ⟨bG, y, none⟩ = some (.int .u64 ((dropZ Z (V.take k)).getD y 0)) := by
        rw [hr.cell, map_at]
        rw [dropZ_length, HM.out]; omega
      have fG := hr.free y
      have HR := (show Hid (rowIs _ _ _ _) from hr)
      have HK := (show Hid (Kept _ _ _) from hkept)
      generalize (dropZ Z (V.take k)).getD y 0 = old at *
      clear hx hr hkept
      go_wp2_with fail
      go_roundw
      case rel =>
        refine ⟨k + 1, by omega, by go_num, ?_, HK.out.setCell (fun _ => rfl) _⟩
        have := HR.out.set y (.int .u64 0)
        rw [← List.map_set] at this
        rw [← HS.out]
        simpa using this
      case measure => simp [intOf]; omega
    · obtain rfl : k = n := by omega
      have HR := (show Hid (rowIs _ _ _ _) from hr)
      have HK := (show Hid (Kept _ _ _) from hkept)
      clear hr hkept
      go_wp2_with fail
      go_end0
      refine ⟨rfl, ?_, ?_, ?_, (HK.out.mono (fun j _ e => .inl e)).setCell (fun _ => .inr rfl) _⟩
      · have := HR.out.other (p := ⟨bS, 24, none⟩) (fun e => n1 e.symm) (.slice (some ⟨bw, 0, none⟩) 0 cap)
        rwa [List.take_of_length_le (by rw [HN.out]; exact Nat.le_refl _)] at this
      · exact (World.cell?_setCell_other _ _ _ _ (by simp)).trans c23
      · exact World.cell?_setCell_same _ _ _ c24
end Go.Proofs.Ybulkajba
