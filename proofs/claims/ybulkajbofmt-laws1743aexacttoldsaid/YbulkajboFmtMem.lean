/- Blocks that are known whole, and what is kept from one world to the next. -/
import Derived.Test.YbulkajboFmtRows
import Derived.WalkKit
import Derived.WalkSpells
import Derived.WalkLawsBesides
import Derived.Deep.AppendLies
import Derived.Laws.CopyOwn
namespace Go.Proofs.YbulkajboFmt
open Go.RowKit

/-- Block b of w holds just the cells xs, none of them frozen. -/
def rowIs (w : World) (b : Nat) (t : TypeId) (xs : List Value) : Prop := w.heap[b]? = some (.cells xs.toArray t (0, 0))

theorem rowIs.lt {w : World} {b : Nat} {t : TypeId} {xs : List Value} (h : rowIs w b t xs) : b < w.heap.size := lt_of_block h
theorem rowIs.cell {w : World} {b : Nat} {t : TypeId} {xs : List Value} (h : rowIs w b t xs) (j : Nat) : w.cell? ⟨b, j, none⟩ = xs[j]? := by
  rw [cell_of_row w b j _ t _ h]; simp
theorem rowIs.free {w : World} {b : Nat} {t : TypeId} {xs : List Value} (h : rowIs w b t xs) (j : Nat) : w.frozen? ⟨b, j, none⟩ = false := frozen_of_row w b j _ t h
theorem rowIs.alloc {w : World} {b : Nat} {t : TypeId} {xs : List Value} (h : rowIs w b t xs) (o : Obj) : rowIs (w.alloc o) b t xs :=
  (Below.heap_alloc w o b h.lt).trans h
theorem rowIs.drew {w : World} {b : Nat} {t : TypeId} {xs : List Value} (h : rowIs w b t xs) : rowIs w.drew b t xs := h
theorem rowIs.drewN {w : World} {b : Nat} {t : TypeId} {xs : List Value} (h : rowIs w b t xs) (n : Nat) : rowIs (w.drewN n) b t xs := h
theorem rowIs_new (w : World) (cs : List Value) (t : TypeId) : rowIs (w.alloc (.cells cs.toArray t)) w.heap.size t cs := heap_alloc_new w _
theorem rowIs.other {w : World} {b : Nat} {t : TypeId} {xs : List Value} (h : rowIs w b t xs) {p : Addr} (hne : b ≠ p.block) (u : Value) : rowIs (w.setCell p u) b t xs :=
  (Below.heap_setCell w p u b hne).trans h
theorem rowIs.set {w : World} {b : Nat} {t : TypeId} {xs : List Value} (h : rowIs w b t xs) (j : Nat) (u : Value) : rowIs (w.setCell ⟨b, j, none⟩ u) b t (xs.set j u) := by
  unfold rowIs at h ⊢
  simp only [World.setCell, Array.getElem?_modify, h]
  simp
theorem rowIs.uniq {w : World} {b : Nat} {t t' : TypeId} {xs ys : List Value} (h : rowIs w b t xs) (k : rowIs w b t' ys) : t = t' ∧ xs = ys := by
  unfold rowIs at h k
  rw [h] at k
  simp only [Option.some.injEq, Obj.cells.injEq] at k
  exact ⟨k.2.1, by have := congrArg Array.toList k.1; simpa using this⟩

/-- A slice over a block that is known whole owns its first cells. -/
theorem rowIs.owns {w : World} {b : Nat} {t : TypeId} {xs : List Value} (h : rowIs w b t xs) (B n size : Nat) (hB : B ≤ b) (hc : xs.length = n * size) (hm : n ≤ maxLen) : w.ownsRow B t size (.slice (some ⟨b, 0, none⟩) n n) n xs :=
  ⟨hc, .inr ⟨b, n, xs.toArray, rfl, hB, h, Nat.le_refl _, hm, by simpa using hc, by simp [← hc]⟩⟩

/-- A row that is owned: its block, whole. -/
theorem owned_row {w : World} {B : Nat} {e : TypeId} {size : Nat} {g n cap : Nat} {xs : List Value} (h : w.ownsRow B e size (.slice (some ⟨g, 0, none⟩) n cap) n xs) :
    ∃ cur, rowIs w g e cur ∧ cur.length = cap * size ∧ cur.take (n * size) = xs ∧ B ≤ g ∧ n ≤ cap := by
  rcases h.2 with ⟨h2, _⟩ | ⟨g', cap', cur, h2, hb, h4, h5, _, h6, h7⟩
  · cases h2
  · simp only [Value.slice.injEq, Option.some.injEq, Addr.mk.injEq, and_true, true_and] at h2
    obtain ⟨rfl, rfl⟩ := h2
    exact ⟨cur.toList, by unfold rowIs; simpa using h4, by simpa using h6, h7, hb, h5⟩

theorem owned_whole {w : World} {B : Nat} {e : TypeId} {size : Nat} {g n : Nat} {xs : List Value} (h : w.ownsRow B e size (.slice (some ⟨g, 0, none⟩) n n) n xs) : rowIs w g e xs := by
  obtain ⟨cur, h1, h2, h3, _, _⟩ := owned_row h
  rw [← h3, List.take_of_length_le (by omega)]
  exact h1

theorem ownsRow_mono {w : World} {B B' : Nat} {e : TypeId} {size : Nat} {v : Value} {n : Nat} {xs : List Value} (h : w.ownsRow B e size v n xs) (hB : B' ≤ B) : w.ownsRow B' e size v n xs := by
  refine ⟨h.1, ?_⟩
  rcases h.2 with h | ⟨g, cap, cur, h1, h2, h3⟩
  · exact .inl h
  · exact .inr ⟨g, cap, cur, h1, by omega, h3⟩

/-- All that was there in w is there in w', but for the blocks that S names. -/
structure Kept (S : Nat → Prop) (w w' : World) : Prop where
  os : w'.os = w.os
  tape : w'.tape = w.tape
  output : w'.output = w.output
  size : w.heap.size ≤ w'.heap.size
  block : ∀ k, k < w.heap.size → ¬ S k → w'.heap[k]? = w.heap[k]?

theorem Kept.refl (S : Nat → Prop) (w : World) : Kept S w w := ⟨rfl, rfl, rfl, Nat.le_refl _, fun _ _ _ => rfl⟩
theorem Kept.trans {S : Nat → Prop} {a b c : World} (h : Kept S a b) (k : Kept S b c) : Kept S a c :=
  ⟨k.os.trans h.os, k.tape.trans h.tape, k.output.trans h.output, Nat.le_trans h.size k.size, fun j hj hn => (k.block j (Nat.lt_of_lt_of_le hj h.size) hn).trans (h.block j hj hn)⟩
theorem Kept.mono {S S' : Nat → Prop} {a b : World} (h : Kept S a b) (hs : ∀ k, k < a.heap.size → S k → S' k) : Kept S' a b :=
  ⟨h.os, h.tape, h.output, h.size, fun j hj hn => h.block j hj (fun hk => hn (hs j hj hk))⟩
/-- Behind h, whatever is written in blocks that S names, or that are new since a. -/
theorem Kept.then {S S' : Nat → Prop} {a b c : World} (h : Kept S a b) (k : Kept S' b c) (hs : ∀ j, j < a.heap.size → S' j → S j) : Kept S a c :=
  ⟨k.os.trans h.os, k.tape.trans h.tape, k.output.trans h.output, Nat.le_trans h.size k.size, fun j hj hn => (k.block j (Nat.lt_of_lt_of_le hj h.size) (fun hk => hn (hs j hj hk))).trans (h.block j hj hn)⟩
theorem Kept.alloc {S : Nat → Prop} {a w : World} (h : Kept S a w) (o : Obj) : Kept S a (w.alloc o) :=
  ⟨h.os, h.tape, h.output, by have := h.size; simp; omega, fun j hj hn => (Below.heap_alloc w o j (Nat.lt_of_lt_of_le hj h.size)).trans (h.block j hj hn)⟩
theorem Kept.drew {S : Nat → Prop} {a w : World} (h : Kept S a w) : Kept S a w.drew := ⟨h.os, h.tape, h.output, h.size, h.block⟩
theorem Kept.drewN {S : Nat → Prop} {a w : World} (h : Kept S a w) (n : Nat) : Kept S a (w.drewN n) := ⟨h.os, h.tape, h.output, h.size, h.block⟩
theorem Kept.setCell {S : Nat → Prop} {a w : World} (h : Kept S a w) {p : Addr} (hp : p.block < a.heap.size → S p.block) (u : Value) : Kept S a (w.setCell p u) := by
  have hb := ((Below.refl p.block w).setCell (p := p) (Nat.le_refl _) u)
  refine ⟨hb.os.trans h.os, hb.tape.trans h.tape, hb.output.trans h.output, Nat.le_trans h.size hb.size, fun j hj hn => ?_⟩
  have hne : j ≠ p.block := fun e => hn (e ▸ hp (e ▸ hj))
  exact (Below.heap_setCell w p u j hne).trans (h.block j hj hn)
theorem Kept.grown {S : Nat → Prop} {a w w' : World} {row : Option Nat} (h : Kept S a w) (hg : w.grownBy w' row) (hr : ∀ k, row = some k → k < a.heap.size → S k) : Kept S a w' :=
  ⟨hg.os.trans h.os, hg.tape.trans h.tape, hg.output.trans h.output, Nat.le_trans h.size hg.size, fun j hj hn => (hg.block j (Nat.lt_of_lt_of_le hj h.size) (fun e => hn (hr j e.symm hj))).trans (h.block j hj hn)⟩
theorem Kept.ofBelow {B : Nat} {w w' : World} (h : Below B w w') : Kept (fun k => B ≤ k) w w' :=
  ⟨h.os, h.tape, h.output, h.size, fun j _ hn => h.block j (by omega)⟩
theorem Kept.below {S : Nat → Prop} {w w' : World} (h : Kept S w w') {B : Nat} (hB : B ≤ w.heap.size) (hs : ∀ k, k < B → ¬ S k) : Below B w w' :=
  ⟨h.os, h.tape, h.output, h.size, fun j hj => h.block j (Nat.lt_of_lt_of_le hj hB) (hs j hj)⟩
theorem Kept.cell {S : Nat → Prop} {w w' : World} (h : Kept S w w') {p : Addr} (hp : p.block < w.heap.size) (hn : ¬ S p.block) : w'.cell? p = w.cell? p := World.cell?_of_block (h.block p.block hp hn)
theorem Kept.row {S : Nat → Prop} {w w' : World} (h : Kept S w w') {b : Nat} {t : TypeId} {xs : List Value} (hr : rowIs w b t xs) (hn : ¬ S b) : rowIs w' b t xs :=
  (h.block b hr.lt hn).trans hr
theorem rowIs.grown {w w' : World} {b : Nat} {t : TypeId} {xs : List Value} {row : Option Nat} (h : rowIs w b t xs) (hg : w.grownBy w' row) (hn : some b ≠ row) : rowIs w' b t xs := (hg.block b h.lt hn).trans h
theorem rowIs.below {w w' : World} {b B : Nat} {t : TypeId} {xs : List Value} (h : rowIs w b t xs) (hg : Below B w w') (hb : b < B) : rowIs w' b t xs := (hg.block b hb).trans h

theorem grownBy_trans {a b c : World} {row : Option Nat} (h : a.grownBy b row) (k : b.grownBy c row) : a.grownBy c row :=
  ⟨k.os.trans h.os, k.tape.trans h.tape, k.output.trans h.output, Nat.le_trans h.size k.size, fun j hj hn => (k.block j (Nat.lt_of_lt_of_le hj h.size) hn).trans (h.block j hj hn)⟩

theorem own_ne {w : World} {B : Nat} {e : TypeId} {size : Nat} {v : Value} {n : Nat} {xs : List Value} (h : w.ownsRow B e size v n xs) {k : Nat} (hk : w.heap.size ≤ k) : some k ≠ v.ownBlock := by
  intro he
  have := (h.lt k he.symm).2
  omega
theorem own_lo {w : World} {B : Nat} {e : TypeId} {size : Nat} {v : Value} {n : Nat} {xs : List Value} (h : w.ownsRow B e size v n xs) {b : Nat} (hb : b < B) : some b ≠ v.ownBlock := by
  intro he
  have := (h.lt b he.symm).1
  omega

theorem add_lit0 (g j : Nat) : (⟨g, 0, none⟩ : Addr).add j = ⟨g, j, none⟩ := by unfold Addr.add; split <;> simp_all
theorem add_lit (g o j : Nat) : (⟨g, o, none⟩ : Addr).add j = ⟨g, o + j, none⟩ := by unfold Addr.add; split <;> simp_all
theorem news_row {w : World} {g : Nat} {t : TypeId} {xs : List Value} (h : rowIs w g t xs) : ∀ j u, xs[j]? = some u → w.cell? ((⟨g, 0, none⟩ : Addr).add j) = some u := fun j u hu => by
  rw [add_lit0, h.cell, hu]

theorem splice_whole {L cs : List Value} (h : L.length = cs.length) : splice L 0 cs = cs := by
  simp [splice, ← h]

/-- What is known of a slice that came in: its address is none, or all its m elements lie there. -/
def cameIn (w : World) (al : Option Addr) (m cl : Nat) (xs : List Value) : Prop :=
  xs.length = m ∧ (al = none → m = 0 ∧ cl = 0) ∧ ∀ ad, al = some ad → ∀ j u, xs[j]? = some u → w.cell? (ad.add j) = some u

theorem cameIn.at {w : World} {al : Option Addr} {m cl : Nat} {xs : List Value} (h : cameIn w al m cl xs) {k : Nat} (hk : k < m) : ∃ b off, al = some ⟨b, off, none⟩ ∧ b < w.heap.size ∧ w.cell? ⟨b, off + k, none⟩ = xs[k]? := by
  obtain ⟨h1, h2, h3⟩ := h
  rcases al with _ | ⟨b, off, spot⟩
  · have := (h2 rfl).1; omega
  · have h := h3 _ rfl k xs[k] (List.getElem?_eq_getElem (by omega))
    have h' := h3 _ rfl 0 xs[0] (List.getElem?_eq_getElem (by omega))
    have hs : spot = none := by simpa [Addr.add] using World.cell?_spot h'
    subst hs
    rw [add_lit] at h
    exact ⟨b, off, rfl, World.block_lt_of_cell? w _ h, by rw [h, List.getElem?_eq_getElem]⟩

theorem cameIn.below {w w' : World} {al : Option Addr} {m cl : Nat} {xs : List Value} (h : cameIn w al m cl xs) (hb : Below w.heap.size w w') : cameIn w' al m cl xs :=
  ⟨h.1, h.2.1, fun ad had j u hu => (hb.cell (World.block_lt_of_cell? w _ (h.2.2 ad had j u hu))).trans (h.2.2 ad had j u hu)⟩

theorem oneCell_ints (k : IntKind) (Z : List Int) : ∀ u ∈ Z.map (Value.int k), u.oneCell' = true := by
  intro u hu
  obtain ⟨z, _, rfl⟩ := List.mem_map.1 hu
  rfl
theorem map_at (k : IntKind) (Z : List Int) (j : Nat) (h : j < Z.length) : (Z.map (Value.int k))[j]? = some (.int k (Z.getD j 0)) := by
  simp [List.getElem?_eq_getElem h]

/-- A struct's literal, by what its run gives. -/
theorem wpList_build_as {P : Program} {w : World} {ops : Array Oper} {rest : List Oper} {o : Oper} {a : Act} {Q : Exit → Act → World → Prop} (hg : o.guard = none) (t : TypeId) (L : List (Nat × Operand)) (ho : o.op = .build t L.toArray)
    (M : List (Nat × Value)) (hM : L.map (fun p => (p.1, a.eval p.2)) = M)
    (cells : Array Value) (hb : ∀ w : World, (Instr.build t M.toArray).run P w = .ok (.agg cells) w) (h : wpList P ops Q rest (a.put o.dst (.agg cells)) w) : wpList P ops Q (o :: rest) a w := by
  refine wpList_plain hg fun K hK => ?_
  have hb' : (Instr.build t (L.toArray.map fun (i, x) => (i, a.eval x))).run P w = .ok (.agg cells) w := by
    rw [List.map_toArray, ← hb w, ← hM]
  unfold Oper.wp execOp
  simp only [ho, Sem.run_bind, hb', Result.andThen_ok]
  exact hK _ _ h

theorem heap_new2 (w : World) (o1 o2 : Obj) : ((w.alloc o1).alloc o2).heap[w.heap.size + 1]? = some o2 := by
  have h := heap_alloc_new (w.alloc o1) o2
  rwa [World.size_alloc] at h
theorem ret_bool {a b : Bool} (h : a = b) : Ending.returned (.bool a) = .returned (.bool b) := by rw [h]

theorem rowIs.setInt {w : World} {b : Nat} {t : TypeId} {k : IntKind} {L : List Int} (h : rowIs w b t (L.map (.int k))) (j : Nat) (x : Int) : rowIs (w.setCell ⟨b, j, none⟩ (.int k x)) b t ((L.set j x).map (.int k)) := by
  rw [List.map_set]; exact h.set j _

end Go.Proofs.YbulkajboFmt
