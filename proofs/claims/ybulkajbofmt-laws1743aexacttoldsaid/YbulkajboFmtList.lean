/- The walk of processList: some string. -/
import Derived.Test.YbulkajboFmtApart2
import Derived.Test.YbulkajboFmtFmt
import Derived.Test.YbulkajboFmtShelf
namespace Go.Proofs.YbulkajboFmt
open Go.RowKit Go.Extern.Stop Go.Stop Go.Extern
set_option linter.unusedVariables false
attribute [local go_sem ↓] Go.wp_at_zero Go.wp_at_succ

/-- fmt.Sprint's text of a small number is short, whenever it is asked. -/
def Short (w : World) : Prop := ∃ F : Interp, F.answers w.tape ∧ ∀ x : Nat, x ≤ 9 → (FmtStop.textOf (F "fmt.Sprint" [Ybaf.shape3, digits 8 x] 0)).size ≤ 21
theorem Short.kept {S : Nat → Prop} {w w' : World} (h : Short w) (k : Kept S w w') : Short w' := by
  unfold Short; rw [k.tape]; exact h

theorem Ybaf.info9 : (Ybaf.prog.info? 9).map (fun i => (i.zero, i.size, i.bytes)) = some (some (.string ⟨#[]⟩), 1, 16) := by kernel_rfl

theorem made_strings (n : Nat) : (madeCells (Value.string ⟨#[]⟩).cells (n * 1)).toList = (List.replicate n (⟨#[]⟩ : ByteArray)).map Value.string := by
  rw [show (Value.string ⟨#[]⟩).cells = #[Value.string ⟨#[]⟩] from rfl, toList_madeCells_one]; simp

theorem listIs.at {w : World} {B : Nat} {al : Option Addr} {cap : Nat} {L : List Nat} (h : listIs w B (.slice al L.length cap) L) {k : Nat} (hk : k < L.length) :
    ∃ g, al = some ⟨g, 0, none⟩ ∧ g < w.heap.size ∧ w.cell? ⟨g, k, none⟩ = some (.int .i64 (L.getD k 0 : Nat)) ∧ L.getD k 0 < 9 := by
  obtain ⟨h1, h2⟩ := h
  rcases h1.2 with ⟨h3, h4⟩ | ⟨g, cap', cur, h3, h4, h5, h6, h7, h8, h9⟩
  · omega
  · simp only [Value.slice.injEq, true_and] at h3
    obtain ⟨rfl, rfl⟩ := h3
    refine ⟨g, rfl, lt_of_block h5, ?_, ?_⟩
    · rw [cell_of_row w g k _ _ _ h5]
      have h10 : (cur.toList.take (L.length * 1))[k]? = some (.int .i64 (L.getD k 0 : Nat)) := by
        rw [h9]; simp [List.getElem?_eq_getElem hk]
      rw [List.getElem?_take, if_pos (by omega)] at h10
      simpa using h10
    · rw [List.getD_eq_getElem?_getD, List.getElem?_eq_getElem hk]
      exact h2 _ (List.getElem_mem hk)

theorem lens_le (c : Nat) : ∀ xs : List (List UInt8), (∀ x ∈ xs, x.length ≤ c) → Lib.lens xs ≤ c * xs.length
  | [], _ => by simp [Lib.lens]
  | x :: xs, h => by
    have h1 := lens_le c xs (fun y hy => h y (by simp [hy]))
    have h2 := h x (by simp)
    simp only [Lib.lens, List.map_cons, List.sum_cons, List.length_cons] at h1 ⊢
    rw [Nat.mul_succ]
    omega

theorem join_call (xs : List ByteArray) (g m : Nat) (wr : World) (hl : xs.length = m + 2) (hm : m ≤ 98) (hx : ∀ x ∈ xs, x.size ≤ 21) (hrow : rowIs wr g 9 (xs.map Value.string)) (w' : World) (hb : Below wr.heap.size wr w') :
    Calls Ybaf.prog 34 #[.slice (some ⟨g, 0, none⟩) (m + 1) (m + 2), .string ⟨#[44, 32]⟩] w' fun e w'' => ∃ z : ByteArray, z.size ≤ 10000 ∧ e = .returned (.string z) ∧ Below wr.heap.size wr w'' := by
  have hlen : (xs.take (m + 1)).length = m + 1 := by rw [List.length_take]; omega
  have hjl : (Lib.join ((xs.take (m + 1)).map (·.data.toList)) [44, 32]).length ≤ 10000 := by
    have hle := lens_le 21 ((xs.take (m + 1)).map (·.data.toList)) (fun y hy => by
      obtain ⟨x, hx', rfl⟩ := List.mem_map.1 hy
      have := hx x (List.mem_of_mem_take hx')
      simpa using this)
    rcases hq : (xs.take (m + 1)).map (·.data.toList) with _ | ⟨y, r⟩
    · rw [hq, Lib.join_nil]; simp
    · rw [hq] at hle
      have hl2 := congrArg List.length hq
      rw [List.length_map, hlen, List.length_cons] at hl2
      rw [hq, Lib.join_length]
      simp only [List.length_cons, List.length_nil] at hle ⊢
      omega
  have h := Ybaf.strings_Join g 0 (m + 2) (xs.take (m + 1)) ⟨#[44, 32]⟩ w' (fun j x hj => by
      have hj' : xs[j]? = some x := by
        rw [List.getElem?_take] at hj
        split at hj
        · exact hj
        · cases hj
      rw [hb.cell hrow.lt, Nat.zero_add, hrow.cell]
      simp [hj']) (Nat.lt_of_lt_of_le hrow.lt hb.size) (by omega) (by omega) (by
      have e : (⟨#[44, 32]⟩ : ByteArray).data.toList = [44, 32] := rfl
      rw [e]; omega)
  rw [hlen] at h
  refine h.mono ?_
  rintro e w'' ⟨rfl, hb2⟩
  refine ⟨_, ?_, rfl, hb.trans (hb2.mono hb.size)⟩
  have e : (⟨#[44, 32]⟩ : ByteArray).data.toList = [44, 32] := rfl
  rw [e]
  show (List.toArray _).size ≤ 10000
  rw [List.size_toArray]
  exact hjl

set_option maxRecDepth 100000 in
set_option maxHeartbeats 4000000 in
theorem list_any (v : Value) (B : Nat) (L : List Nat) (w : World) (hL : listIs w B v L) (hn : L.length ≤ 100) (hS : Short w) :
    Calls Ybaf.prog 18 #[v] w fun e w' => (∃ s, e = .returned (.string s)) ∧ Kept (fun _ => False) w w' := by
  obtain ⟨al, cap, rfl⟩ := own_slice hL.1
  obtain ⟨i0, hi, hz0, hz1, hz2⟩ := info_parts Ybaf.info9
  have hu96 := Ybaf.underlying96
  have HL := (show Hid (listIs _ _ _ _) from hL)
  have HS := (show Hid (Short _) from hS)
  clear hL hS
  go_enter Ybaf.func18, Ybaf.ntmps18
  go_wp2_with (at_make; refine wpList_make_full _ rfl _ _ 96 rfl w.heap.size 9 i0 (.string ⟨#[]⟩) 1 hu96 hi hz0 hz1 .i64 .i64 _ _ L.length rfl rfl rfl rfl (by rw [hz2]; omega) (by unfold maxLen; omega) (Nat.le_refl _) ?_; intro w1 hown1 hgrow1; have HO1 := (show Hid (World.ownsRow _ _ _ _ _ _ _) from hown1); have HG1 := (show Hid (World.grownBy _ _ _) from hgrow1); clear hown1 hgrow1)
  go_loopw [12] (fun q wr => ∃ (k : Nat) (xs : List ByteArray), k ≤ L.length ∧ q = .int .i64 k ∧ xs.length = L.length ∧ (∀ x ∈ xs, x.size ≤ 21) ∧ rowIs wr w.heap.size 9 (xs.map Value.string) ∧ Kept (fun _ => False) w wr) (fun q _ => L.length - (intOf q).toNat)
  case atStart =>
    refine ⟨0, List.replicate L.length ⟨#[]⟩, by omega, rfl, by simp, ?_, ?_, (Kept.ofGrown HG1.out).mono (fun _ _ h => by simp at h)⟩
    · intro x hx; rw [(List.mem_replicate.1 hx).2]; decide
    · rw [← made_strings]; exact owned_whole HO1.out
  case round =>
    obtain ⟨k, xs, hk, rfl, hx1, hx2, hrow, hkp⟩ := hrel
    have HR := (show Hid (rowIs _ _ _ _) from hrow)
    have HP := (show Hid (Kept _ _ _) from hkp)
    have HX := (show Hid (xs.length = _) from hx1)
    have HX2 := (show Hid (∀ x ∈ xs, _) from hx2)
    have hlt := hrow.lt
    clear HO1 HG1
    by_cases hlt : k < L.length
    · obtain ⟨g, rfl, hg, cg, h9⟩ := HL.out.at hlt
      have c0 := (hkp.cell (p := ⟨g, k, none⟩) hg (by simp)).trans cg
      have f0 := hrow.free k
      have c1 : wr.cell? ⟨w.heap.size, k, none⟩ = some (.string (xs.getD k ⟨#[]⟩)) := by
        rw [hrow.cell]; simp [List.getElem?_eq_getElem (show k < xs.length by omega)]
      generalize L.getD k 0 = p at *
      clear hrow hkp hx1 hx2 cg
      go_wp2_with fail
      obtain ⟨F, hF, hsh⟩ := HS.out
      have q := fun i name reading k range => (congrFun (congrFun HP.out.tape i) _).trans (hF i name reading k range)
      rw [q]
      obtain ⟨s, hs, hsz⟩ : ∃ s : ByteArray, FmtStop.textOf (F "fmt.Sprint" [Ybaf.shape3, digits 8 ((p + 1) % 18446744073709551616)] 0) = s ∧ s.size ≤ 21 := by
        refine ⟨_, rfl, ?_⟩
        rw [Nat.mod_eq_of_lt (by omega)]
        exact hsh _ (by omega)
      rw [hs]
      go_roundw
      case rel =>
        refine ⟨k + 1, xs.set k s, by omega, by go_num, by rw [List.length_set]; exact HX.out, ?_, ?_, ?_⟩
        · intro x hx
          rcases List.mem_or_eq_of_mem_set hx with h | h
          · exact HX2.out x h
          · rw [h]; exact hsz
        · rw [List.map_set]; exact ((HR.out.set k _).alloc _).drew
        · exact ((HP.out.setCell (p := ⟨w.heap.size, k, none⟩) (fun h => by exact absurd h (by simp)) _).alloc _).drew
      case measure => go_light; simp [intOf]; omega
    · obtain rfl : k = L.length := by omega
      rcases (show L.length = 0 ∨ L.length = 1 ∨ 2 ≤ L.length by omega) with h0 | h1 | h2
      · rw [h0] at *
        go_wp2_with fail
        go_ret
        exact ⟨⟨_, rfl⟩, HP.out⟩
      · have c0 : wr.cell? ⟨w.heap.size, 0, none⟩ = some (.string (xs.getD 0 ⟨#[]⟩)) := by
          rw [hrow.cell]; simp [List.getElem?_eq_getElem (show 0 < xs.length by omega)]
        obtain ⟨t, ht, hts⟩ : ∃ t, xs.getD 0 ⟨#[]⟩ = t ∧ t.size ≤ 21 := ⟨_, rfl, by
          rw [List.getD_eq_getElem?_getD, List.getElem?_eq_getElem (show 0 < xs.length by omega)]
          exact hx2 _ (List.getElem_mem _)⟩
        rw [ht] at c0
        have hcat : ¬ 9223372036854775807 < 8 + t.size := by omega
        clear hrow hkp hx1 hx2 ht HX
        rw [h1] at *
        go_wp2_with fail
        go_ret
        exact ⟨⟨_, rfl⟩, HP.out⟩
      · obtain ⟨m, hm⟩ : ∃ m, L.length = m + 2 := ⟨L.length - 2, by omega⟩
        have c0 : wr.cell? ⟨w.heap.size, m + 1, none⟩ = some (.string (xs.getD (m + 1) ⟨#[]⟩)) := by
          rw [hrow.cell]; simp [List.getElem?_eq_getElem (show m + 1 < xs.length by omega)]
        obtain ⟨t, ht, hts⟩ : ∃ t, xs.getD (m + 1) ⟨#[]⟩ = t ∧ t.size ≤ 21 := ⟨_, rfl, by
          rw [List.getD_eq_getElem?_getD, List.getElem?_eq_getElem (show m + 1 < xs.length by omega)]
          exact hx2 _ (List.getElem_mem _)⟩
        rw [ht] at c0
        have JCALL := (show Hid _ from join_call xs w.heap.size m wr (by omega) (by omega) hx2 hrow)
        have hm1 : m ≤ 98 := by omega
        clear hrow hkp hx1 hx2 ht HX
        rw [hm] at *
        go_wp2_with fail
        rw [show ((m : Int) + 2 - 1) = (m : Int) + 1 by omega]
        have b1 : (0 : Int) ≤ (m : Int) + 1 := by omega
        have b2 : (m : Int) + 1 ≤ (m : Int) + 2 := by omega
        have b3 : (m : Int) + 1 < (m : Int) + 2 := by omega
        go_region_held3 (fun w' => w'.cell? ⟨w.heap.size, m + 1, none⟩ = some (.string t)) (go_keep)
          (first
            | (go_at_call 34; refine Calls.mono (JCALL.out _ ?_) ?_; (exact ((Below.refl _ _).drew)); rintro e w6 ⟨z, hz, rfl, hb6⟩; have cJ := (hb6.cell (p := ⟨w.heap.size, m + 1, none⟩) (by omega)).trans c0; have HB6 := (show Hid (Below _ _ _) from hb6); clear hb6; have z1 : ¬ 9223372036854775807 < 10 + z.size := (by omega); have z2 : ¬ 9223372036854775807 < 10 + z.size + 5 := (by omega); have z3 : ¬ 9223372036854775807 < 10 + z.size + 5 + t.size := (by omega)))
        go_wp2_with fail
        go_ret
        exact ⟨⟨_, rfl⟩, HP.out.then (Kept.ofBelow HB6.out) (fun j hj h => by have := HP.out.size; omega)⟩
end Go.Proofs.YbulkajboFmt
