/- The walks of a set of processes (one word): new, add, has, and, clone, len. -/
import Derived.Test.YbulkajboFmtMem
import Derived.Test.YbulkajboFmtPlain
import Derived.Deep.QuietTactic
import Derived.BigQuiet
import Derived.Deep.RegionHeld3
import Derived.Laws.BitsAllLaws
import Derived.Deep.DeepCutAuto
import Derived.Deep.CutBlock
import Derived.Deep.DrawnRows
import Derived.Deep.Light
namespace Go.Proofs.YbulkajboFmt
open Go.RowKit
set_option linter.unusedVariables false

theorem Kept.ofGrown {w w' : World} {row : Option Nat} (h : w.grownBy w' row) : Kept (fun k => row = some k) w w' :=
  ⟨h.os, h.tape, h.output, h.size, fun j hj hn => h.block j hj (fun e => hn e.symm)⟩
theorem Ybaf.info79 : (Ybaf.prog.info? 79).map (fun i => (i.zero, i.size, i.bytes)) = some (some (.int .u64 0), 1, 8) := by kernel_rfl

/-- Block b holds the set whose word is R. -/
def setIs (w : World) (b R : Nat) : Prop := ∃ rest, rowIs w b 79 (.int .u64 (R : Int) :: rest)
theorem Kept.set {S : Nat → Prop} {w w' : World} (h : Kept S w w') {b R : Nat} (hr : setIs w b R) (hn : ¬ S b) : setIs w' b R := let ⟨r, hr⟩ := hr; ⟨r, h.row hr hn⟩
theorem setIs.lt {w : World} {b R : Nat} (h : setIs w b R) : b < w.heap.size := let ⟨_, h⟩ := h; rowIs.lt h
theorem setIs.cell {w : World} {b R : Nat} (h : setIs w b R) : w.cell? ⟨b, 0, none⟩ = some (.int .u64 (R : Int)) := by
  obtain ⟨r, h⟩ := h
  rw [rowIs.cell h]; rfl
theorem setIs.free {w : World} {b R : Nat} (h : setIs w b R) : w.frozen? ⟨b, 0, none⟩ = false := let ⟨_, h⟩ := h; rowIs.free h 0
theorem setIs.put {w : World} {b R : Nat} (h : setIs w b R) (T : Nat) : setIs (w.setCell ⟨b, 0, none⟩ (.int .u64 (T : Int))).drew b T := by
  obtain ⟨r, h⟩ := h
  exact ⟨r, (rowIs.set h 0 _).drew⟩

theorem made_word : (madeCells (Value.int IntKind.u64 0).cells (1 * 1)).toList = [Value.int .u64 ((0 : Nat) : Int)] := by kernel_rfl
theorem set_new (n : Nat) (h1 : 1 ≤ n) (h9 : n ≤ 9) (w : World) : Calls Ybaf.prog 11 #[.int .i64 n] w fun e w' =>
    e = .returned (.slice (some ⟨w.heap.size, 0, none⟩) 1 1) ∧ setIs w' w.heap.size 0 ∧ Kept (fun _ => False) w w' := by
  obtain ⟨i0, hi, hz0, hz1, hz2⟩ := info_parts Ybaf.info79
  have hu53 := Ybaf.underlying53
  have hq : ((n : Int) + 63).tdiv 64 = 1 := by
    rw [Int.tdiv_eq_ediv_of_nonneg (by omega)]; omega
  go_enter Ybaf.func11, Ybaf.ntmps11
  go_wp2_with (at_make; refine wpList_make_full _ rfl _ _ 53 rfl w.heap.size 79 i0 (.int .u64 0) 1 hu53 hi hz0 hz1 .i64 .i64 _ _ 1 rfl rfl (by simp) (by simp) (by rw [hz2]; omega) (by unfold maxLen; omega) (Nat.le_refl _) ?_; intro w1 hown1 hgrow1)
  go_ret
  exact ⟨rfl, ⟨[], by rw [← made_word]; exact owned_whole hown1⟩, (Kept.ofGrown hgrow1).mono (fun _ _ h => by simp at h)⟩

theorem or_lt {R : Nat} (i : Nat) (hR : R < 512) (hi : i < 9) : R ||| 2 ^ i < 512 :=
  Nat.or_lt_two_pow (n := 9) hR (Nat.pow_lt_pow_of_lt (by omega) (by omega))

theorem shl_u64 (i : Nat) (hi : i < 9) : IntKind.u64.wrap (2 ^ i) = ((2 ^ i : Nat) : Int) := by
  have : i = 0 ∨ i = 1 ∨ i = 2 ∨ i = 3 ∨ i = 4 ∨ i = 5 ∨ i = 6 ∨ i = 7 ∨ i = 8 := by omega
  rcases this with rfl | rfl | rfl | rfl | rfl | rfl | rfl | rfl | rfl <;> decide

theorem set_add (b cap i R : Nat) (hi : i < 9) (hR : R < 512) (w : World) (hS : setIs w b R) : Calls Ybaf.prog 12 #[.slice (some ⟨b, 0, none⟩) 1 cap, .int .i64 i] w fun e w' =>
    e = .returned (.tuple #[]) ∧ setIs w' b (R ||| 2 ^ i) ∧ Kept (fun k => k = b) w w' := by
  have c0 := hS.cell
  have f0 := hS.free
  have hq : (i : Int).tdiv 64 = 0 := by rw [Int.tdiv_eq_ediv_of_nonneg (by omega)]; omega
  have hr : (i : Int).tmod 64 = i := by rw [Int.tmod_eq_emod_of_nonneg (by omega)]; omega
  go_enter Ybaf.func12, Ybaf.ntmps12
  go_wp2
  go_region
  go_wp2
  have hb : bits .or .u64 (R : Int) (IntKind.u64.wrap (2 ^ i)) = ((R ||| 2 ^ i : Nat) : Int) := by
    rw [shl_u64 i hi, u64_or_nat _ _ (by omega) (by have := Nat.pow_lt_pow_of_lt (a := 2) (by omega) hi; omega)]
  rw [hb]
  refine bodyPost_end (v := .tuple #[]) (by simp [results, Ybaf.results12]) rfl ?_
  exact ⟨rfl, hS.put _, ((Kept.refl (fun k => k = b) w).setCell (p := ⟨b, 0, none⟩) (fun _ => rfl) _).drew⟩

theorem and_pow (R i : Nat) : (R &&& 2 ^ i = 0) ↔ R.testBit i = false := by
  constructor
  · intro h
    have h2 := congrArg (fun x => x.testBit i) h
    simpa [Nat.testBit_and, Nat.testBit_two_pow_self] using h2
  · intro h
    apply Nat.eq_of_testBit_eq
    intro j
    rw [Nat.testBit_and, Nat.testBit_two_pow]
    by_cases hj : i = j
    · subst hj; simp [h]
    · simp [hj]

theorem set_has (b cap i R : Nat) (hi : i < 9) (hR : R < 512) (w : World) (hS : setIs w b R) : Calls Ybaf.prog 13 #[.slice (some ⟨b, 0, none⟩) 1 cap, .int .i64 i] w fun e w' =>
    e = .returned (.bool (R.testBit i)) ∧ ∃ q, w' = w.drewN q := by
  have c0 := hS.cell
  have hq : (i : Int).tdiv 64 = 0 := by rw [Int.tdiv_eq_ediv_of_nonneg (by omega)]; omega
  have hr : (i : Int).tmod 64 = i := by rw [Int.tmod_eq_emod_of_nonneg (by omega)]; omega
  go_enter Ybaf.func13, Ybaf.ntmps13
  go_wp2
  go_quiet (fail)
  go_wp2
  go_ret
  refine ⟨?_, nq, rfl⟩
  have hb : bits .and .u64 (R : Int) (IntKind.u64.wrap (2 ^ i)) = ((R &&& 2 ^ i : Nat) : Int) := by
    rw [shl_u64 i hi, u64_and_nat _ _ (by omega) (by have := Nat.pow_lt_pow_of_lt (a := 2) (by omega) hi; omega)]
  rw [hb]
  have h3 := and_pow R i
  refine ret_bool (a := ((R &&& 2 ^ i : Nat) : Int) != 0) ?_
  cases ht : R.testBit i
  · rw [h3.2 ht]; rfl
  · rw [ht] at h3
    have : ¬ (R &&& 2 ^ i = 0) := fun h => by cases h3.1 h
    simp only [bne_iff_ne]
    omega

attribute [local go_sem ↓] Go.wp_at_zero Go.wp_at_succ

theorem and_lt {R T : Nat} (hR : R < 512) : R &&& T < 512 := Nat.lt_of_le_of_lt Nat.and_le_left hR

theorem set_and (b c capb capc R T : Nat) (hR : R < 512) (hT : T < 512) (w : World) (hS : setIs w b R) (hC : setIs w c T) : Calls Ybaf.prog 21 #[.slice (some ⟨b, 0, none⟩) 1 capb, .slice (some ⟨c, 0, none⟩) 1 capc] w fun e w' =>
    e = .returned (.tuple #[]) ∧ setIs w' b (R &&& T) ∧ Kept (fun k => k = b) w w' := by
  have c0 := hS.cell
  have c1 := hC.cell
  have f0 := hS.free
  have hb : bits .and .u64 (R : Int) (T : Int) = ((R &&& T : Nat) : Int) := u64_and_nat _ _ (by omega) (by omega)
  go_enter Ybaf.func21, Ybaf.ntmps21
  go_wp2_with fail
  refine wp_loop_rounds 2 ?_
  rw [rounds_succ]
  go_wp2_with fail
  go_region
  go_wp2_with fail
  rw [rounds_succ]
  go_wp2_with fail
  refine bodyPost_end (v := .tuple #[]) (by simp [results, Ybaf.results21]) rfl ?_
  exact ⟨rfl, hS.put _, ((Kept.refl (fun k => k = b) w).setCell (p := ⟨b, 0, none⟩) (fun _ => rfl) _).drew⟩

theorem own_form {w : World} {B : Nat} {e : TypeId} {size : Nat} {v : Value} {n : Nat} {xs : List Value} (h : w.ownsRow B e size v n xs) (hn : v ≠ .slice none 0 0) : ∃ g cap, v = .slice (some ⟨g, 0, none⟩) n cap := by
  rcases h.2 with ⟨h2, _⟩ | ⟨g, cap, cur, h2, _⟩
  · exact absurd h2 hn
  · exact ⟨g, cap, h2⟩

theorem set_clone (b cap R : Nat) (w : World) (hS : setIs w b R) : Calls Ybaf.prog 20 #[.slice (some ⟨b, 0, none⟩) 1 cap] w fun e w' =>
    ∃ g cap', e = .returned (.slice (some ⟨g, 0, none⟩) 1 cap') ∧ w.heap.size ≤ g ∧ setIs w' g R ∧ Kept (fun _ => False) w w' := by
  have c0 := hS.cell
  obtain ⟨i0, hi, hz0, hz1, hz2⟩ := info_parts Ybaf.info79
  have hu53 := Ybaf.underlying53
  go_enter Ybaf.func20, Ybaf.ntmps20
  go_wp2_with (at_builtin; refine wpList_append_own_at _ rfl _ _ 53 rfl w.heap.size 79 i0 (.int .u64 0) 1 8 hu53 hi hz0 hz1 hz2 rfl (by decide) (.slice none 0 0) 0 [] rfl ⟨rfl, .inl ⟨rfl, rfl⟩⟩ ⟨b, 0, none⟩ 1 cap [.int .u64 R] rfl rfl (fun j u hu => by rw [add_lit0]; rcases j with _ | j <;> simp at hu; subst hu; exact c0) (fun u hu => by simp at hu; subst hu; rfl) (by unfold maxLen; omega) (by omega) (Nat.le_refl _) ?_; intro v' w1 hown1 hgrow1 hnil hloc)
  go_ret
  obtain ⟨g, cap', rfl⟩ := own_form hown1 (fun h => by simpa using hnil.1 h)
  obtain ⟨cur, h1, h2, h3, h4, h5⟩ := owned_row hown1
  refine ⟨g, ⟨cap', rfl⟩, h4, ?_, (Kept.ofGrown hgrow1).mono (fun _ _ h => by simp [Value.ownBlock] at h)⟩
  rcases cur with _ | ⟨u, cur⟩
  · simp at h3
  · simp at h3
    exact ⟨cur, by rw [← h3]; exact h1⟩

def o1 (x : Int) : Int := IntKind.u64.wrap (bits .and .u64 (x / 2) 6148914691236517205 + bits .and .u64 x 6148914691236517205)
def o2 (x : Int) : Int := IntKind.u64.wrap (bits .and .u64 (x / 4) 3689348814741910323 + bits .and .u64 x 3689348814741910323)
def o3 (x : Int) : Int := bits .and .u64 (IntKind.u64.wrap (x / 16 + x)) 1085102592571150095
def o4 (x : Int) : Int := IntKind.u64.wrap (x + x / 256)
def o5 (x : Int) : Int := IntKind.u64.wrap (x + x / 65536)
def o6 (x : Int) : Int := IntKind.u64.wrap (x + x / 4294967296)
def o7 (x : Int) : Int := bits .and .i64 (wrap64 x) 127
theorem ones_eq : ∀ R, R < 512 → o7 (o6 (o5 (o4 (o3 (o2 (o1 ((R : Nat) : Int))))))) = ((Plain.cnt 9 (fun q => R.testBit q) : Nat) : Int) := by decide +kernel
theorem ones_any (R : Nat) (hR : R < 512) (w : World) : Calls Ybaf.prog 35 #[.int .u64 R] w fun e w' => e = .returned (.int .i64 (Plain.cnt 9 (fun q => R.testBit q))) ∧ w' = w := by
  go_enter Ybaf.func35, Ybaf.ntmps35
  go_wp2_with fail
  go_ret
  rw [← ones_eq R hR]
  refine ⟨congrArg (fun z => Ending.returned (.int .i64 z)) ?_, rfl⟩
  change bits .and .i64 _ _ = _
  unfold o7
  refine congrArg (fun z => bits .and .i64 z 127) ?_
  rfl

theorem set_len (b cap R : Nat) (hR : R < 512) (w : World) (hS : setIs w b R) : Calls Ybaf.prog 22 #[.slice (some ⟨b, 0, none⟩) 1 cap] w fun e w' =>
    e = .returned (.int .i64 (Plain.cnt 9 (fun q => R.testBit q))) ∧ w' = w := by
  have c0 := hS.cell
  have hc := Plain.cnt_le 9 (fun q => R.testBit q)
  go_enter Ybaf.func22, Ybaf.ntmps22
  go_wp2_with fail
  refine wp_loop_rounds 2 ?_
  rw [rounds_succ]
  go_wp2_with (go_at_call 35; refine (ones_any R hR _).mono ?_; rintro e w' ⟨rfl, rfl⟩)
  rw [rounds_succ]
  go_wp2_with fail
  go_ret
  exact ⟨rfl, rfl⟩

theorem max0_any (x : Int) (w : World) : Calls Ybaf.prog 23 #[.int .i64 x] w fun e w' => e = .returned (.int .i64 (if x < 0 then 0 else x)) ∧ w' = w := by
  by_cases h : x < 0
  · go_enter Ybaf.func23, Ybaf.ntmps23
    go_wp2_with fail
    go_ret
    simp
  · go_enter Ybaf.func23, Ybaf.ntmps23
    go_wp2_with fail
    go_ret
    simp

end Go.Proofs.YbulkajboFmt
