import Derived.Test.YbulkajccJoin
import Derived.Great.Walk
namespace Go.Proofs.Ybulkajcc
open Go.RowKit
open Go.Lib (HoldsBytes PartsAt)
set_option linter.unusedVariables false

theorem lens_le (ls : List (List UInt8)) (h : ∀ l ∈ ls, l.length ≤ 4096) : Lib.lens ls ≤ 4096 * ls.length := by
  induction ls with
  | nil => simp [Lib.lens]
  | cons l ls ih =>
    have h1 := h l (List.mem_cons_self ..)
    have h2 := ih fun x hx => h x (List.mem_cons_of_mem _ hx)
    rw [Lib.lens_cons, List.length_cons]; omega
theorem joinTail_le (r : List (List UInt8)) (h : ∀ l ∈ r, l.length ≤ 4096) : (Lib.joinTail [44] r).length ≤ 4097 * r.length := by
  induction r with
  | nil => simp [Lib.joinTail]
  | cons l r ih =>
    have h1 := h l (List.mem_cons_self ..)
    have h2 := ih fun x hx => h x (List.mem_cons_of_mem _ hx)
    simp only [Lib.joinTail, List.map_cons, List.flatten_cons, List.length_append, List.length_cons, List.length_nil] at h2 ⊢
    omega
theorem join_le (ls : List (List UInt8)) (h : ∀ l ∈ ls, l.length ≤ 4096) : (Lib.join ls [44]).length ≤ 4097 * ls.length := by
  cases ls with
  | nil => simp [Lib.join_nil]
  | cons l r =>
    have h1 := h l (List.mem_cons_self ..)
    have h2 := joinTail_le r fun x hx => h x (List.mem_cons_of_mem _ hx)
    rw [Lib.join_cons, List.length_append, List.length_cons]; omega

theorem three_parts {w : World} {a : Addr} {v0 v1 v2 : Value} {l0 l1 l2 : List UInt8} (c0 : w.cell? (a.add 0) = some v0) (c1 : w.cell? (a.add 1) = some v1) (c2 : w.cell? (a.add 2) = some v2) (h0 : HoldsBytes w v0 l0) (h1 : HoldsBytes w v1 l1) (h2 : HoldsBytes w v2 l2) : PartsAt w a [v0, v1, v2] [l0, l1, l2] := by
  refine ⟨rfl, fun i v hv => ?_, fun i v l hv hl => ?_⟩
  · match i, hv with
    | 0, hv => simp at hv; subst hv; exact c0
    | 1, hv => simp at hv; subst hv; exact c1
    | 2, hv => simp at hv; subst hv; exact c2
    | (i + 3), hv => simp at hv
  · match i, hv, hl with
    | 0, hv, hl => simp at hv hl; subst hv; subst hl; exact h0
    | 1, hv, hl => simp at hv hl; subst hv; subst hl; exact h1
    | 2, hv, hl => simp at hv hl; subst hv; subst hl; exact h2
    | (i + 3), hv, hl => simp at hv

/-- What is left of the answers. -/
def keep (ps : List ((Option Addr × Nat × Nat) × List UInt8)) : List ((Option Addr × Nat × Nat) × List UInt8) := ps.filter fun p => !isNil p.1
theorem keep_map (ps : List ((Option Addr × Nat × Nat) × List UInt8)) : ((ps.map (·.1)).filter fun x => !isNil x) = (keep ps).map (·.1) := by
  unfold keep
  rw [List.filter_map]; rfl
/-- The answer. -/
def enc (ls : List (List UInt8)) : List UInt8 := [[91], Lib.join ls [44], [93]].flatten

theorem enc_some (blk cap : Nat) (ps : List ((Option Addr × Nat × Nat) × List UInt8)) (w : World) (hr : rowIs w blk 23 ((ps.map (·.1)).map encS)) (hl : ps.length ≤ 1024) (hc : ps.length ≤ cap)
    (hh : ∀ p ∈ ps, HoldsBytes w (encS p.1) p.2 ∧ p.2.length ≤ 4096 ∧ ∀ a, p.1.1 = some a → a.block ≠ blk) (hk : keep ps ≠ []) :
    Calls Yba.prog 6 #[.slice (some ⟨blk, 0, none⟩) ps.length cap] w fun e w' => ∃ g cp, e = .returned (.slice (some ⟨g, 0, none⟩) (enc ((keep ps).map (·.2))).length cp) ∧
      w'.ownsRow w.heap.size 5 1 (.slice (some ⟨g, 0, none⟩) (enc ((keep ps).map (·.2))).length cp) (enc ((keep ps).map (·.2))).length (bv (enc ((keep ps).map (·.2)))) ∧ Kept (fun k => k = blk) w w' := by
  have hd := del_any blk cap (ps.map (·.1)) w hr (by simpa using hl) (by simpa using hc)
  rw [List.length_map, keep_map, List.length_map] at hd
  have hsub : ∀ p ∈ keep ps, p ∈ ps := fun p hp => (List.mem_filter.1 hp).1
  have hle : (keep ps).length ≤ ps.length := List.length_filter_le _ _
  have hpos : 0 < (keep ps).length := List.length_pos_iff.2 hk
  have hblk := hr.lt
  have HKH : Hid (∀ p ∈ keep ps, HoldsBytes w (encS p.1) p.2 ∧ p.2.length ≤ 4096 ∧ ∀ a, p.1.1 = some a → a.block ≠ blk) := fun p hp => hh p (hsub p hp)
  clear hr hh hk hsub
  generalize keep ps = ks at *
  generalize ps.length = n at *
  obtain ⟨k, hk⟩ : ∃ k, k = ks.length := ⟨_, rfl⟩
  rw [← hk] at hd hle hpos
  have HK := (show Hid (k = ks.length) from hk)
  have HD := (show Hid (Calls _ _ _ _ _) from hd)
  clear hd hk
  go_enter Yba.func6, Yba.ntmps6
  go_wp2_with fail
  refine HD.out.mono ?_
  rintro e w1 ⟨rfl, hc1, hk1⟩
  have hb : ((k : Int) == 0) = false := by
    cases k with
    | zero => omega
    | succ k => simp; omega
  have HCL := (show Hid _ from hc1)
  have HK1 := (show Hid (Kept _ _ _) from hk1)
  have hcv := convC
  clear HD hc1 hk1
  go_wp2_with fail
  -- the world at bytes.Join
  have hA : HoldsBytes ((w1.alloc (Obj.cells #[Value.int IntKind.u8 91] 5 (1, 2))).alloc (Obj.cells #[Value.int IntKind.u8 44] 5 (1, 2))) (.slice (some ⟨w1.heap.size, 0, none⟩) 1 1) [91] := by
    refine ⟨some ⟨w1.heap.size, 0, none⟩, 1, rfl, fun e => by (cases e), fun a ha i x hx => ?_⟩
    obtain rfl := Option.some.inj ha
    obtain ⟨rfl, rfl⟩ : i = 0 ∧ x = 91 := by
      cases i with
      | zero => simp at hx; exact ⟨rfl, hx.symm⟩
      | succ i => simp at hx
    rw [add_lit0]
    exact Lib.cell?_alloc_marked _ (by rw [World.cell?_alloc_mark]; rfl)
  have hS : HoldsBytes ((w1.alloc (Obj.cells #[Value.int IntKind.u8 91] 5 (1, 2))).alloc (Obj.cells #[Value.int IntKind.u8 44] 5 (1, 2))) (.slice (some ⟨w1.heap.size + 1, 0, none⟩) 1 1) [44] := by
    refine ⟨some ⟨w1.heap.size + 1, 0, none⟩, 1, rfl, fun e => by (cases e), fun a ha i x hx => ?_⟩
    obtain rfl := Option.some.inj ha
    obtain ⟨rfl, rfl⟩ : i = 0 ∧ x = 44 := by
      cases i with
      | zero => simp at hx; exact ⟨rfl, hx.symm⟩
      | succ i => simp at hx
    rw [add_lit0]
    have := World.cell?_alloc_mark (w1.alloc (Obj.cells #[Value.int IntKind.u8 91] 5 (1, 2))) #[Value.int IntKind.u8 44] 5 (1, 2) 0
    rw [World.size_alloc] at this
    rw [this]; rfl
  have hkB : Kept (fun j => j = blk) w ((w1.alloc (Obj.cells #[Value.int IntKind.u8 91] 5 (1, 2))).alloc (Obj.cells #[Value.int IntKind.u8 44] 5 (1, 2))) := (HK1.out.alloc _).alloc _
  have hP : PartsAt ((w1.alloc (Obj.cells #[Value.int IntKind.u8 91] 5 (1, 2))).alloc (Obj.cells #[Value.int IntKind.u8 44] 5 (1, 2))) ⟨blk, 0, none⟩ ((ks.map (·.1)).map encS) (ks.map (·.2)) := by
    refine ⟨by simp, fun i v hv => ?_, fun i v l hv hl => ?_⟩
    · rw [add_lit0]
      rw [List.getElem?_map] at hv
      obtain ⟨x, hx, rfl⟩ := Option.map_eq_some_iff.1 hv
      exact Lib.cell?_alloc_marked _ (Lib.cell?_alloc_marked _ (HCL.out i x hx))
    · rw [List.map_map, List.getElem?_map] at hv
      rw [List.getElem?_map] at hl
      obtain ⟨p, hp, rfl⟩ := Option.map_eq_some_iff.1 hv
      rw [hp] at hl
      obtain rfl := Option.some.inj hl
      obtain ⟨a1, a2, a3⟩ := HKH.out p (List.mem_of_getElem? hp)
      exact holds_kept a1 hkB (fun a n c e => a3 a (by simp [encS] at e; exact e.1))
  have l1 : w1.heap.size + 1 < ((w1.alloc (Obj.cells #[Value.int IntKind.u8 91] 5 (1, 2))).alloc (Obj.cells #[Value.int IntKind.u8 44] 5 (1, 2))).heap.size := by simp
  have l2 := HK1.out.size
  generalize (w1.alloc (Obj.cells #[Value.int IntKind.u8 91] 5 (1, 2))).alloc (Obj.cells #[Value.int IntKind.u8 44] 5 (1, 2)) = w2 at *
  have hbd : ∀ l ∈ ks.map (·.2), l.length ≤ 4096 := fun l hl => by
    obtain ⟨p, hp, rfl⟩ := List.mem_map.1 hl
    exact (HKH.out p hp).2.1
  have hjl := join_le (ks.map (·.2)) hbd
  have hll := lens_le (ks.map (·.2)) hbd
  rw [List.length_map, ← HK.out] at hjl hll
  refine (join_any blk k cap ((ks.map (·.1)).map encS) (ks.map (·.2)) _ [44] w2 (by rw [List.length_map, HK.out]) (by omega) hP (by omega) hS (by omega) (by simp; omega)).mono ?_
  rintro e w3 ⟨p, cp, rfl, hJ, hpn, hb3⟩
  have HA := (show Hid (HoldsBytes _ _ _) from hA)
  have HJ := (show Hid (HoldsBytes _ _ _) from hJ)
  have HPN := (show Hid _ from hpn)
  have HB3 := (show Hid (Below _ _ _) from hb3)
  have HKB := (show Hid (Kept _ _ _) from hkB)
  obtain ⟨jl, hj⟩ : ∃ jl, jl = Lib.join (ks.map (·.2)) [44] := ⟨_, rfl⟩
  have HJL := (show Hid (jl = _) from hj)
  rw [← hj] at HJ hjl ⊢
  have l3 : w2.heap.size ≤ w3.heap.size := hb3.size
  clear hA hJ hpn hb3 hkB hP hS hj hll
  go_wp2_with fail
  have kB3 : Kept (fun j => j = blk) w w3 := HKB.out.then (Kept.ofBelow HB3.out) (fun j hj h => by have := HKB.out.size; omega)
  have k4 : Kept (fun _ => False) w3 ((w3.alloc (Obj.cells #[Value.int IntKind.u8 93] 5 (1, 2))).alloc (Obj.cells #[Value.slice (some ⟨w1.heap.size, 0, none⟩) 1 1, Value.slice p jl.length cp, Value.slice (some ⟨w3.heap.size, 0, none⟩) 1 1] 23)) := ((Kept.refl _ w3).alloc _).alloc _
  have hC : HoldsBytes ((w3.alloc (Obj.cells #[Value.int IntKind.u8 93] 5 (1, 2))).alloc (Obj.cells #[Value.slice (some ⟨w1.heap.size, 0, none⟩) 1 1, Value.slice p jl.length cp, Value.slice (some ⟨w3.heap.size, 0, none⟩) 1 1] 23)) (.slice (some ⟨w3.heap.size, 0, none⟩) 1 1) [93] := by
    refine ⟨some ⟨w3.heap.size, 0, none⟩, 1, rfl, fun e => by (cases e), fun a ha i x hx => ?_⟩
    obtain rfl := Option.some.inj ha
    obtain ⟨rfl, rfl⟩ : i = 0 ∧ x = 93 := by
      cases i with
      | zero => simp at hx; exact ⟨rfl, hx.symm⟩
      | succ i => simp at hx
    rw [add_lit0]
    exact Lib.cell?_alloc_marked _ (by rw [World.cell?_alloc_mark]; rfl)
  have hrow : rowIs ((w3.alloc (Obj.cells #[Value.int IntKind.u8 93] 5 (1, 2))).alloc (Obj.cells #[Value.slice (some ⟨w1.heap.size, 0, none⟩) 1 1, Value.slice p jl.length cp, Value.slice (some ⟨w3.heap.size, 0, none⟩) 1 1] 23)) (w3.heap.size + 1) 23 [Value.slice (some ⟨w1.heap.size, 0, none⟩) 1 1, Value.slice p jl.length cp, Value.slice (some ⟨w3.heap.size, 0, none⟩) 1 1] := heap_new2 _ _ _
  have hA3 : HoldsBytes w3 (.slice (some ⟨w1.heap.size, 0, none⟩) 1 1) [91] := holds_kept HA.out (Kept.ofBelow HB3.out) (fun a n c e => by
    simp only [Value.slice.injEq, Option.some.injEq] at e
    obtain ⟨rfl, _⟩ := e
    show ¬ w2.heap.size ≤ w1.heap.size
    omega)
  generalize (w3.alloc (Obj.cells #[Value.int IntKind.u8 93] 5 (1, 2))).alloc (Obj.cells #[Value.slice (some ⟨w1.heap.size, 0, none⟩) 1 1, Value.slice p jl.length cp, Value.slice (some ⟨w3.heap.size, 0, none⟩) 1 1] 23) = w4 at *
  have hP4 : PartsAt w4 ⟨w3.heap.size + 1, 0, none⟩ [Value.slice (some ⟨w1.heap.size, 0, none⟩) 1 1, Value.slice p jl.length cp, Value.slice (some ⟨w3.heap.size, 0, none⟩) 1 1] [[91], jl, [93]] :=
    three_parts (by rw [add_lit0, hrow.cell]; rfl) (by rw [add_lit0, hrow.cell]; rfl) (by rw [add_lit0, hrow.cell]; rfl) (holds_kept hA3 k4 (fun _ _ _ _ => id)) (holds_kept HJ.out k4 (fun _ _ _ _ => id)) hC
  have hfl : [[91], jl, [93]].flatten.length = jl.length + 2 := by simp
  have k5 : Kept (fun j => j = blk) w w4 := kB3.then k4 (fun _ _ e => e.elim)
  have HK5 := (show Hid (Kept _ _ _) from k5)
  have HENC : Hid (enc (ks.map (·.2)) = [[91], jl, [93]].flatten) := by show _ = _; unfold enc; rw [HJL.out]
  refine (concat_any (w3.heap.size + 1) 3 3 _ [[91], jl, [93]] w4 rfl hP4 (by rw [hfl]; omega) (by rw [hfl]; omega) (by omega) ?_).mono ?_
  · intro i m c hv
    match i, hv with
    | 0, hv => simp at hv
    | 1, hv => simp at hv; rw [← hv.2.2]; exact HPN.out hv.1
    | 2, hv => simp at hv
    | (i + 3), hv => simp at hv
  rintro e w5 ⟨g, cp5, rfl, ho5, hk5⟩
  have HO5 := (show Hid (World.ownsRow _ _ _ _ _ _ _) from ho5)
  have HK6 := (show Hid (Kept _ _ _) from hk5)
  clear ho5 hk5 hP4 hrow hC hA3 k4 kB3 k5
  rw [hfl]
  go_wp2_with fail
  go_ret
  rw [HENC.out, hfl]
  refine ⟨g, cp5, rfl, ?_, HK5.out.then HK6.out (fun _ _ e => e.elim)⟩
  have := ownsRow_mono HO5.out HK5.out.size
  rw [hfl] at this
  exact this
end Go.Proofs.Ybulkajcc
