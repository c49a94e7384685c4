/- The walk of apart. -/
import Derived.Test.YbulkajboFmtApart
namespace Go.Proofs.YbulkajboFmt
open Go.RowKit
open Plain (pass chooseP pstep apartB)
set_option linter.unusedVariables false
attribute [local go_sem ↓] Go.wp_at_zero Go.wp_at_succ

theorem chooseP_lt (n k o y T : Nat) (hn : n ≤ 9) (hT : T < 512) : (chooseP n k o y T).2 < 512 := pass_lt n hn (pass_lt n hn hT)

structure AF (n bS b1 b2 K1 K2 bs bt bT T : Nat) (x : World) : Prop where
  cs : x.cell? ⟨bs, 0, none⟩ = some (.pointer (some ⟨bS, 0, none⟩))
  cn : x.cell? ⟨bS, 0, none⟩ = some (.int .i64 n)
  ct : x.cell? ⟨bt, 0, none⟩ = some (.slice (some ⟨bT, 0, none⟩) 1 1)
  sT : setIs x bT T
  s1 : setIs x b1 K1
  s2 : setIs x b2 K2
  n1 : bs ≠ bT
  n2 : bS ≠ bT
  n3 : bt ≠ bT
  n4 : b1 ≠ bT
  n5 : b2 ≠ bT
theorem AF.kept {n bS b1 b2 K1 K2 bs bt bT T T' : Nat} {x x' : World} (h : AF n bS b1 b2 K1 K2 bs bt bT T x) (k : Kept (fun j => j = bT) x x') (hT : setIs x' bT T') : AF n bS b1 b2 K1 K2 bs bt bT T' x' :=
  ⟨(k.cell (World.block_lt_of_cell? x _ h.cs) h.n1).trans h.cs, (k.cell (World.block_lt_of_cell? x _ h.cn) h.n2).trans h.cn, (k.cell (World.block_lt_of_cell? x _ h.ct) h.n3).trans h.ct, hT, k.set h.s1 h.n4, k.set h.s2 h.n5, h.n1, h.n2, h.n3, h.n4, h.n5⟩
theorem AF.start {n bS b1 b2 K1 K2 : Nat} {w w1 : World} (cn : w.cell? ⟨bS, 0, none⟩ = some (.int .i64 n)) (hs1 : setIs w b1 K1) (hs2 : setIs w b2 K2)
    (HT : setIs w1 (w.alloc (.cells #[.pointer (some ⟨bS, 0, none⟩)] 27)).heap.size 0) (HK : Kept (fun _ => False) (w.alloc (.cells #[.pointer (some ⟨bS, 0, none⟩)] 27)) w1) :
    AF n bS b1 b2 K1 K2 w.heap.size w1.heap.size (w.heap.size + 1) 0 (w1.alloc (.cells #[.slice (some ⟨w.heap.size + 1, 0, none⟩) 1 1] 53)) ∧ Kept (fun _ => False) w (w1.alloc (.cells #[.slice (some ⟨w.heap.size + 1, 0, none⟩) 1 1] 53)) := by
  have k0 : Kept (fun _ => False) w w1 := ((Kept.refl (fun _ => False) w).alloc _).trans HK
  have k1 := k0.alloc (.cells #[.slice (some ⟨w.heap.size + 1, 0, none⟩) 1 1] 53)
  have lt1 := hs1.lt
  have lt2 := hs2.lt
  have lt3 : bS < w.heap.size := World.block_lt_of_cell? w _ cn
  have hsz := HK.size
  rw [World.size_alloc] at hsz HT
  have hlt := HT.lt
  refine ⟨⟨?_, (k1.cell lt3 (by simp)).trans cn, ?_, ((Kept.refl (fun _ => False) w1).alloc _).set HT (by simp), k1.set hs1 (by simp), k1.set hs2 (by simp), by omega, by omega, by omega, by omega, by omega⟩, k1⟩
  · have r0 := HK.row (rowIs_new w [.pointer (some ⟨bS, 0, none⟩)] 27) (by simp)
    rw [(r0.alloc _).cell]; rfl
  · rw [(rowIs_new w1 [.slice (some ⟨w.heap.size + 1, 0, none⟩) 1 1] 53).cell]; rfl

set_option maxRecDepth 100000 in
set_option maxHeartbeats 4000000 in
theorem apart_any (n K1 y1 K2 y2 bS b1 b2 c1 c2 : Nat) (h1 : 1 ≤ n) (h9 : n ≤ 9) (hK1 : K1 < 512) (hK2 : K2 < 512) (hy1 : y1 ≤ 100) (hy2 : y2 ≤ 100) (w : World)
    (cn : w.cell? ⟨bS, 0, none⟩ = some (.int .i64 n)) (hs1 : setIs w b1 K1) (hs2 : setIs w b2 K2) :
    Calls Ybaf.prog 17 #[.pointer (some ⟨bS, 0, none⟩), .slice (some ⟨b1, 0, none⟩) 1 c1, .int .i64 y1, .slice (some ⟨b2, 0, none⟩) 1 c2, .int .i64 y2] w fun e w' =>
      ∃ v1 v2 L1 L2, e = .returned (.tuple #[v1, v2, .bool (apartB n K1 y1 K2 y2)]) ∧ listIs w' w.heap.size v1 L1 ∧ listIs w' w.heap.size v2 L2 ∧ L1.length ≤ 100 ∧ L2.length ≤ 100 ∧ Kept (fun _ => False) w w' := by
  have lt1 := hs1.lt
  have lt2 := hs2.lt
  have lt3 : bS < w.heap.size := World.block_lt_of_cell? w _ cn
  have HS1 := (show Hid (setIs _ _ _) from hs1)
  have HS2 := (show Hid (setIs _ _ _) from hs2)
  have CN := (show Hid (_ = _) from cn)
  clear hs1 hs2
  have tk1 : True := trivial
  have tk2 : True := trivial
  go_enter Ybaf.func17, Ybaf.ntmps17
  go_wp2_with (first
    | (go_at_call 11; refine Calls.mono (set_new n h1 h9 _) ?_; rintro e w1 ⟨rfl, hs, hk⟩; have HT := (show Hid (setIs _ _ _) from hs); have HK := (show Hid (Kept _ _ _) from hk); clear hs hk; have AF0 := (show Hid (AF n bS b1 b2 K1 K2 _ _ _ 0 _ ∧ Kept _ _ _) from AF.start CN.out HS1.out HS2.out HT.out HK.out))
    | (go_at_call 32; have _t := tk1; refine Calls.mono (choose_any n K1 K2 y1 0 w.heap.size bS w1.heap.size (w.heap.size + 1) b1 b2 c1 c2 h1 h9 hK1 hK2 (by omega) hy1 _ AF0.out.1.cs AF0.out.1.cn AF0.out.1.ct AF0.out.1.sT AF0.out.1.s1 AF0.out.1.s2 AF0.out.1.n1 AF0.out.1.n2 AF0.out.1.n3 AF0.out.1.n4 AF0.out.1.n5) ?_; rintro e w3 ⟨v1, L1, rfl, hL1, hl1, hT1, hk1⟩; obtain ⟨al1, cap1, rfl⟩ := own_slice hL1.1; have AF1 := (show Hid (AF n bS b1 b2 K1 K2 _ _ _ _ _) from AF0.out.1.kept hk1 hT1); have HL1 := (show Hid (listIs _ _ _ _) from hL1); have LE1 := (show Hid (_ = _) from hl1); have HK1 := (show Hid (Kept _ _ _) from hk1); clear hL1 hl1 hT1 hk1 _t tk1)
    | (go_at_call 32; have _t := tk2; refine Calls.mono (choose_any n K2 K1 y2 (chooseP n K1 K2 y1 0).2 w.heap.size bS w1.heap.size (w.heap.size + 1) b2 b1 c2 c1 h1 h9 hK2 hK1 (chooseP_lt _ _ _ _ _ h9 (by omega)) hy2 _ AF1.out.cs AF1.out.cn AF1.out.ct AF1.out.sT AF1.out.s2 AF1.out.s1 AF1.out.n1 AF1.out.n2 AF1.out.n3 AF1.out.n5 AF1.out.n4) ?_; rintro e w4 ⟨v2, L2, rfl, hL2, hl2, hT2, hk2⟩; obtain ⟨al2, cap2, rfl⟩ := own_slice hL2.1; have HL2 := (show Hid (listIs _ _ _ _) from hL2); have LE2 := (show Hid (_ = _) from hl2); have HK2 := (show Hid (Kept _ _ _) from hk2); clear hL2 hl2 hT2 hk2 _t tk2))
  all_goals
    have kk : Kept (fun _ => False) w w4 := (AF0.out.2.then HK1.out (fun j hj e => by omega)).then HK2.out (fun j hj e => by omega)
    have sz := AF0.out.2.size
    have szb := AF1.out.sT.lt
    have la : listIs w4 w.heap.size (Value.slice al1 L1.length cap1) L1 := ⟨ownsRow_mono (ownsRow_kept HL1.out.1 HK2.out (fun j e => by have := AF0.out.1.sT.lt; omega)) sz, HL1.out.2⟩
    have lb : listIs w4 w.heap.size (Value.slice al2 L2.length cap2) L2 := ⟨ownsRow_mono HL2.out.1 (Nat.le_trans sz HK1.out.size), HL2.out.2⟩
    go_ret3
    refine ⟨_, _, L1, L2, ?_, la, lb, by rw [LE1.out, Plain.chooseP_count]; omega, by rw [LE2.out, Plain.chooseP_count]; omega, kk⟩
    unfold apartB
    rw [← LE1.out, ← LE2.out]
    rename_i hh
  · have hh' : L1.length = y1 := by omega
    simp [hh']
    by_cases h : L2.length = y2
    · simp [h]
    · simp only [h, decide_false, beq_eq_false_iff_ne]; omega
  · have hh' : ¬ L1.length = y1 := by omega
    simp [hh']
end Go.Proofs.YbulkajboFmt
