/- Ranging over who knows which label. -/
import Derived.Test.YbulkajboFmtMaps
import Derived.Test.YbulkajboFmtCrash
namespace Go.Proofs.YbulkajboFmt
open Go.RowKit
open Go.Maps (Keyed)
set_option linter.unusedVariables false

theorem ranges_keptK {P : Program} {k : TypeId} {R : Value → Option (DataW U × List MemPlace)} {w w' : World} {b r n : Nat} {D : DataW U} {left : Lit → Bool} {cnt : Nat} {S : Nat → Prop} (h : w.ranges P k R b r n D left cnt) (hk : Kept S w w') (hb : ¬ S b) (hr : ¬ S r) : w'.ranges P k R b r n D left cnt := by
  have h1 := h.owns.lt
  have h2 := h.lt
  obtain ⟨es, clock, since, seen, c0, e1, F, hs, hD, e2, rest⟩ := h
  exact ⟨es, clock, since, seen, c0, (hk.block b h1 hb).trans e1, F, hs, hD, (hk.block r h2 hr).trans e2, rest⟩
theorem size_le {P : Program} {k : TypeId} {R : Value → Option (DataW U × List MemPlace)} {w : World} {b n : Nat} {D : DataW U} (h : w.ownsMap P k R b n D) : Maps.size D ≤ n := by
  obtain ⟨es, clock, hb, F, hs, rfl⟩ := h
  simpa [Maps.size, length_sorted] using hs

theorem wpList_next_knows (w : World) {ops : Array Oper} {rest : List Oper} {o : Oper} {a : Act} {Q : Exit → Act → World → Prop} (hg : o.guard = none) (it : Operand) (hop : o.op = Op.next it false) (b r n : Nat) (D : DataW U) (f : Nat → Option Nat) (hD : knowsD D f) (left : Lit → Bool) (cnt : Nat)
    (hlf : ∀ kl, left kl = true → Maps.has D kl = true)
    (hit : a.eval it = .pointer (some ⟨r, 0, none⟩)) (h : w.ranges Ybaf.prog 3 RK b r n D left cnt)
    (hDone : (∀ kl, left kl = false) → wpList Ybaf.prog ops Q rest (a.put o.dst (.tuple #[.bool false])) w)
    (hMore : ∀ (l s : Nat) (w' : World) (cnt' : Nat), l < 3 → f l = some s → w'.ranges Ybaf.prog 3 RK b r n D (fun z => left z && !z.sameKey (.int .i64 (l : Int))) cnt' → cnt' < cnt →
      Kept (fun j => j = r) w w' → (Instr.entry (.pointer (some ⟨r, 0, none⟩))).run Ybaf.prog w' = .ok (.tuple #[.int .i64 (l : Int), .slice (some ⟨s, 0, none⟩) 1 1]) w' → wpList Ybaf.prog ops Q rest (a.put o.dst (.tuple #[.bool true, .int .i64 (l : Int), .slice (some ⟨s, 0, none⟩) 1 1])) w') :
    wpList Ybaf.prog ops Q (o :: rest) a w := by
  refine wpList_next_ranges w hg it hop 3 law3 RK (Value.int .i64) kv (fun key kl hkey => ?_) (fun v y hv => ?_) b r n D left cnt hit h (fun _ hl => hDone hl) (fun x c kl y w' cnt' hkey hlk hv hat hrg hlt hgr hsz hen => ?_)
  · obtain ⟨x, rfl, _⟩ := Maps.keyOf_int_inv Ybaf.underlying3 hkey; exact ⟨x, rfl⟩
  · obtain ⟨c, rfl, _⟩ := RK_inv hv; exact ⟨c, rfl⟩
  · obtain ⟨x', ex, rfl, hwx⟩ := Maps.keyOf_int_inv Ybaf.underlying3 hkey
    cases ex
    obtain ⟨l, hl, el, hs⟩ := hD.keys _ (hlf _ hlk)
    have exl : x = (l : Int) := by simpa using el
    subst exl
    obtain ⟨s, hs⟩ := Option.isSome_iff_exists.1 hs
    have h1 := hat (kd none)
    rw [hD.look l hl, hs] at h1
    rw [RK_kv] at hv
    have h2 : kd c = y.1 := by have := congrArg Prod.fst (Option.some.inj hv); exact this
    have h3 : c = some s := kd_inj (h2.trans h1.symm)
    subst h3
    exact hMore l s w' cnt' hl hs hrg hlt ((Kept.ofGrown hgr).mono (fun k _ e => by simpa using e.symm)) hen

/-- What the loop over the labels keeps true. -/
structure RInv (n : Nat) (cr : Nat → Bool) (ps : List HP) (bM r N bN bK : Nat) (D : DataW U) (f : Nat → Option Nat) (left : Lit → Bool) (cnt NN : Nat) (h : Nat → Nat) (w wr : World) : Prop where
  rg : wr.ranges Ybaf.prog 3 RK bM r N D left cnt
  ct : cntAt wr bN NN h
  sK : setIs wr bK (corrB cr n)
  st : ∀ l b, l < 3 → f l = some b → setIs wr b (knowB ps l)
  kp : Kept (fun _ => False) w wr
  lf : ∀ kl, left kl = true → Maps.has D kl = true
  dn : ∀ l : Nat, l < 3 → (f l).isSome = true → left (.int .i64 (l : Int)) = false → h l = cntB n cr ps l
  nn : NN + cnt ≤ Maps.size D
  wr' : w.heap.size ≤ r ∧ w.heap.size ≤ bN
  ne : r ≠ bN ∧ bM ≠ bN ∧ bK ≠ bN ∧ r ≠ bK ∧ ∀ l b, l < 3 → f l = some b → b ≠ bN ∧ b ≠ r

/-- One round: the iterator's step, a set cloned and cut down, its number stored. -/
theorem RInv.round {n : Nat} {cr : Nat → Bool} {ps : List HP} {bM r N bN bK : Nat} {D : DataW U} {f : Nat → Option Nat} {left : Lit → Bool} {cnt NN : Nat} {h : Nat → Nat} {w wr : World} (I : RInv n cr ps bM r N bN bK D f left cnt NN h w wr)
    {l s cnt' g : Nat} {w1 w2 w3 w4 : World} {T : Nat} (hl : l < 3) (hs : f l = some s) (hrg : w1.ranges Ybaf.prog 3 RK bM r N D (fun z => left z && !z.sameKey (.int .i64 (l : Int))) cnt') (hlt : cnt' < cnt) (k1 : Kept (fun j => j = r) wr w1)
    (k2 : Kept (fun _ => False) w1 w2) (hg : w1.heap.size ≤ g) (k3 : Kept (fun j => j = g) w2 w3) (hT : T = cntB n cr ps l) (hct : cntAt w4 bN (NN + 1) (updN h l T)) (k4 : Kept (fun j => j = bN) w3 w4) :
    RInv n cr ps bM r N bN bK D f (fun z => left z && !z.sameKey (.int .i64 (l : Int))) cnt' (NN + 1) (updN h l T) w w4 := by
  have hbM : bM < w1.heap.size := hrg.owns.lt
  have hr : r < w1.heap.size := hrg.lt
  have hM := hrg.ne
  obtain ⟨n1, n2, n3, n4, n5⟩ := I.ne
  have hwr := I.wr'
  have hkw := I.kp.size
  have s1 := k1.size
  have set4 : ∀ b R, setIs wr b R → b ≠ r → b ≠ bN → setIs w4 b R := fun b R hb e1 e2 => by
    have hlt := hb.lt
    exact k4.set (k3.set (k2.set (k1.set hb e1) (by simp)) (by omega)) e2
  refine ⟨ranges_keptK (ranges_keptK (ranges_keptK hrg k2 (by simp) (by simp)) k3 (by omega) (by omega)) k4 n2 n1, hct, set4 _ _ I.sK (fun e => n4 e.symm) n3, fun x b hx hb => set4 _ _ (I.st x b hx hb) (n5 x b hx hb).2 (n5 x b hx hb).1,
    (((I.kp.then k1 (fun j hj e => by omega)).trans k2).then k3 (fun j hj e => by omega)).then k4 (fun j hj e => by omega), fun kl hkl => ?_, fun x hx hsx hx0 => ?_, ?_, I.wr', I.ne⟩
  · simp only [Bool.and_eq_true] at hkl; exact I.lf kl hkl.1
  · unfold updN
    by_cases e : x = l
    · rw [if_pos e, hT, e]
    · rw [if_neg e]
      refine I.dn x hx hsx ?_
      rw [Maps.sameKey_ne (i64_ne e)] at hx0
      simpa using hx0
  · have := I.nn; omega
end Go.Proofs.YbulkajboFmt
