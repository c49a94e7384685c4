import Derived.Test.YbulkaizkRSrc
import Derived.Deep.RegionHeld3
import Derived.Deep.DeepCutAuto
import Derived.Deep.DrawnRows
namespace Go.Proofs.YbulkaizkR
open Go.RowKit

theorem Yba.info34 : (Yba.prog.info? 34).map (fun i => (i.zero, i.size, i.bytes)) = some (some (.agg #[.int .u16 0, .bool false, .slice none 0 0]), 3, 32) := by kernel_rfl

/-- The cells of an attribute in basic form whose value lies in block g. -/
def attrCells (t : Int) (g cap : Nat) : List Value := [.int .u16 t, .bool true, .slice (some ⟨g, 0, none⟩) 2 cap]
/-- A two-byte value in block g. -/
def valAt (w : World) (g cap : Nat) (v : Int) : Prop := w.ownsRow 0 5 1 (.slice (some ⟨g, 0, none⟩) 2 cap) 2 [.int .u8 (v / 256), .int .u8 (v % 256)]

theorem valAt_below {w w' : World} {g cap : Nat} {v : Int} (h : valAt w g cap v) (hb : Below w.heap.size w w') : valAt w' g cap v := by
  obtain ⟨h1, h2⟩ := h
  refine ⟨h1, ?_⟩
  rcases h2 with ⟨h2, _⟩ | ⟨g', cap', cur, h2, h3, h4, h5⟩
  · cases h2
  · refine .inr ⟨g', cap', cur, h2, h3, ?_, h5⟩
    rw [hb.block g' (lt_of_block h4)]
    exact h4

theorem valAt_lt {w : World} {g cap : Nat} {v : Int} (h : valAt w g cap v) : g < w.heap.size := (h.lt g rfl).2

theorem valAt_grown {w w' : World} {g cap : Nat} {v : Int} {row : Option Nat} (h : valAt w g cap v) (hg : w.grownBy w' row) (hne : some g ≠ row) : valAt w' g cap v :=
  World.ownsRow.kept h hg (.inr hne)

/-- A row of attributes and a value are not one block. -/
theorem row_ne_val {w : World} {B : Nat} {sv : Value} {n : Nat} {xs : List Value} {g cap : Nat} {v : Int} (h : w.ownsRow B 34 3 sv n xs) (hv : valAt w g cap v) : some g ≠ sv.ownBlock := by
  intro he
  rcases h.2 with ⟨rfl, _⟩ | ⟨g1, c1, cur1, rfl, _, hg1, _⟩
  · simp [Value.ownBlock] at he
  · rcases hv.2 with ⟨hv, _⟩ | ⟨g2, c2, cur2, hv, _, hg2, _⟩
    · cases hv
    · simp only [Value.ownBlock, Option.some.injEq] at he
      simp only [Value.slice.injEq, Option.some.injEq, Addr.mk.injEq] at hv
      have : g2 = g1 := by rw [← hv.1.1]; exact he
      subst this
      rw [hg1] at hg2
      simp at hg2

/-- A slice of attributes in basic form: type, value, and the block and capacity of the value. -/
def attrsAt (w : World) (B : Nat) (v : Value) (items : List (Int × Int × Nat × Nat)) : Prop :=
  w.ownsRow B 34 3 v items.length (items.flatMap fun x => attrCells x.1 x.2.2.1 x.2.2.2) ∧ ∀ x ∈ items, valAt w x.2.2.1 x.2.2.2 x.2.1

theorem attrsAt_below {w w' : World} {B : Nat} {v : Value} {items : List (Int × Int × Nat × Nat)} (h : attrsAt w B v items) (hb : Below w.heap.size w w') : attrsAt w' B v items := by
  refine ⟨⟨h.1.1, ?_⟩, fun x hx => valAt_below (h.2 x hx) hb⟩
  rcases h.1.2 with h2 | ⟨g', cap', cur, h2, h3, h4, h5⟩
  · exact .inl h2
  · refine .inr ⟨g', cap', cur, h2, h3, ?_, h5⟩
    rw [hb.block g' (lt_of_block h4)]
    exact h4

theorem attrsAt_append {w w' : World} {B : Nat} {v v' : Value} {items more : List (Int × Int × Nat × Nat)} (h : attrsAt w B v items) (hm : ∀ x ∈ more, valAt w x.2.2.1 x.2.2.2 x.2.1) (hg : w.grownBy w' v.ownBlock)
    (ho : w'.ownsRow B 34 3 v' (items.length + more.length) ((items.flatMap fun x => attrCells x.1 x.2.2.1 x.2.2.2) ++ more.flatMap fun x => attrCells x.1 x.2.2.1 x.2.2.2)) : attrsAt w' B v' (items ++ more) := by
  refine ⟨by simpa using ho, fun x hx => ?_⟩
  rcases List.mem_append.1 hx with hx | hx
  · exact valAt_grown (h.2 x hx) hg (row_ne_val h.1 (h.2 x hx))
  · exact valAt_grown (hm x hx) hg (row_ne_val h.1 (hm x hx))

/-- The transform's own box. -/
def boxAt (w : World) (b : Nat) (x1 x2 x3 x4 x5 : Value) : Prop :=
  w.cell? ⟨b, 1, none⟩ = some x1 ∧ w.cell? ⟨b, 2, none⟩ = some x2 ∧ w.cell? ⟨b, 3, none⟩ = some x3 ∧ w.cell? ⟨b, 4, none⟩ = some x4 ∧ w.cell? ⟨b, 5, none⟩ = some x5 ∧ b < w.heap.size

theorem boxAt_new (w : World) (x0 x1 x2 x3 x4 x5 : Value) : boxAt (w.alloc (.cells #[x0, x1, x2, x3, x4, x5] 29)) w.heap.size x1 x2 x3 x4 x5 := by
  have h := heap_alloc_new w (.cells #[x0, x1, x2, x3, x4, x5] 29)
  exact ⟨by rw [cell_of_row _ _ 1 _ 29 _ h]; rfl, by rw [cell_of_row _ _ 2 _ 29 _ h]; rfl, by rw [cell_of_row _ _ 3 _ 29 _ h]; rfl, by rw [cell_of_row _ _ 4 _ 29 _ h]; rfl, by rw [cell_of_row _ _ 5 _ 29 _ h]; rfl, by simp⟩

theorem boxAt_below {w w' : World} {b : Nat} {x1 x2 x3 x4 x5 : Value} (h : boxAt w b x1 x2 x3 x4 x5) (hb : Below w.heap.size w w') : boxAt w' b x1 x2 x3 x4 x5 := by
  obtain ⟨h1, h2, h3, h4, h5, h6⟩ := h
  have hs := hb.size
  exact ⟨(hb.cell h6).trans h1, (hb.cell h6).trans h2, (hb.cell h6).trans h3, (hb.cell h6).trans h4, (hb.cell h6).trans h5, by omega⟩

theorem boxAt_grown {w w' : World} {b : Nat} {x1 x2 x3 x4 x5 : Value} {row : Option Nat} (h : boxAt w b x1 x2 x3 x4 x5) (hb : w.grownBy w' row) (hne : some b ≠ row) : boxAt w' b x1 x2 x3 x4 x5 := by
  obtain ⟨h1, h2, h3, h4, h5, h6⟩ := h
  have hs := hb.size
  exact ⟨hb.cell h1 hne, hb.cell h2 hne, hb.cell h3 hne, hb.cell h4 hne, hb.cell h5 hne, by omega⟩

theorem ownsRow_block {w : World} {B : Nat} {e : TypeId} {size : Nat} {v : Value} {n : Nat} {xs : List Value} (h : w.ownsRow B e size v n xs) {b : Nat} (hb : b < B) : some b ≠ v.ownBlock := by
  intro he
  have := (h.lt b he.symm).1
  omega

def first2 (c kl : Int) : List (Int × Int) := if kl = 0 then [(1, c)] else [(1, c), (14, IntKind.u16.wrap kl)]
def tm (x : Int × Int × Nat × Nat) : Int × Int := (x.1, x.2.1)

theorem wrap16 (n : Int) : 0 ≤ IntKind.u16.wrap n ∧ IntKind.u16.wrap n ≤ 65535 := by
  simp only [IntKind.wrap, IntKind.bits, IntKind.signed]
  constructor <;> (simp; omega)

theorem attrsAt_at {w : World} {B g cap n : Nat} {items : List (Int × Int × Nat × Nat)} (h : attrsAt w B (.slice (some ⟨g, 0, none⟩) n cap) items) (hn : items.length = n) :
    ∀ i (hi : i < (items.map tm).length), attrAt w g i (items.map tm)[i].1 (items.map tm)[i].2 := by
  intro i hi
  subst hn
  have hi' : i < items.length := by simpa using hi
  have hv := h.2 items[i] (List.getElem_mem hi')
  have hc : ∀ j, j < 3 → w.cell? ⟨g, i * 3 + j, none⟩ = (attrCells items[i].1 items[i].2.2.1 items[i].2.2.2)[j]? := by
    intro j hj
    rw [h.1.cellAt (i * 3 + j) (by omega)]
    have hdrop : (items.flatMap fun x => attrCells x.1 x.2.2.1 x.2.2.2) = (items.take i).flatMap (fun x => attrCells x.1 x.2.2.1 x.2.2.2) ++ (attrCells items[i].1 items[i].2.2.1 items[i].2.2.2 ++ (items.drop (i + 1)).flatMap fun x => attrCells x.1 x.2.2.1 x.2.2.2) := by
      conv => lhs; rw [← List.take_append_drop i items]
      rw [List.flatMap_append, List.drop_eq_getElem_cons hi', List.flatMap_cons]
    have hlen : ∀ L : List (Int × Int × Nat × Nat), (L.flatMap fun x => attrCells x.1 x.2.2.1 x.2.2.2).length = L.length * 3 := by
      intro L
      induction L with
      | nil => rfl
      | cons x L ih => rw [List.flatMap_cons, List.length_append, ih]; simp [attrCells]; omega
    have hl := hlen (items.take i)
    rw [List.length_take_of_le (by omega)] at hl
    rw [hdrop, List.getElem?_append_right (by omega), hl, Nat.add_sub_cancel_left, List.getElem?_append_left (by simpa [attrCells] using hj)]
  refine ⟨items[i].2.2.1, items[i].2.2.2, ?_, ?_, ?_, ?_, ?_⟩
  · have := hc 0 (by omega); simpa [attrCells, tm] using this
  · have := hc 1 (by omega); simpa [attrCells] using this
  · have := hc 2 (by omega); simpa [attrCells] using this
  · have := hv.cellAt 0 (by omega); simpa [tm] using this
  · have := hv.cellAt 1 (by omega); simpa [tm] using this

theorem appendAttrs_n (n : Nat) (L : List (Int × Int)) (g cap : Nat) (w : World) (hn : L.length = n) (hL : n ≤ 1000) (ht : ∀ p ∈ L, bits BinOp.or IntKind.u16 32768 p.1 = 32768 + p.1 ∧ 0 ≤ p.1 ∧ p.1 < 32768) (hat : ∀ i (h : i < L.length), attrAt w g i L[i].1 L[i].2) :
    Calls Yba.prog 7 #[.slice none 0 0, .slice (some ⟨g, 0, none⟩) n cap] w fun e w' => ∃ sv, e = .returned sv ∧
      w'.ownsRow w.heap.size 5 1 sv (4 * n) (encAll L) ∧ Below w.heap.size w w' := by
  subst hn
  exact appendAttrs_any L g cap w hL ht hat

theorem ok2 (c kl h gr a : Int) : ∀ p ∈ first2 c kl ++ [(2, h), (4, gr), (3, a)], bits BinOp.or IntKind.u16 32768 p.1 = 32768 + p.1 ∧ 0 ≤ p.1 ∧ p.1 < 32768 := by
  intro p hp
  have : p.1 = 1 ∨ p.1 = 14 ∨ p.1 = 2 ∨ p.1 = 4 ∨ p.1 = 3 := by
    unfold first2 at hp
    split at hp
    · simp only [List.cons_append, List.nil_append, List.mem_cons, List.not_mem_nil, or_false] at hp
      rcases hp with rfl | rfl | rfl | rfl <;> simp
    · simp only [List.cons_append, List.nil_append, List.mem_cons, List.not_mem_nil, or_false] at hp
      rcases hp with rfl | rfl | rfl | rfl | rfl <;> simp
  rcases this with h | h | h | h | h <;> rw [h] <;> decide

attribute [local go_sem ↓] Go.wp_at_zero Go.wp_at_succ

set_option maxHeartbeats 1000000 in
theorem marshal_any (c kl h a gr : Int) (al : Option Addr) (m cl : Nat) (news : List Value) (w : World) (c0 : 0 ≤ c) (c1 : c ≤ 65535) (h0 : 0 ≤ h) (h1 : h ≤ 65535) (a0 : 0 ≤ a) (a1 : a ≤ 65535) (g0 : 0 ≤ gr) (g1 : gr ≤ 65535)
    (hm : m ≤ 1024) (hal : al = none → m = 0 ∧ cl = 0) (hnl : news.length = m) (hn1 : ∀ u ∈ news, u.oneCell' = true) (hnews : ∀ ad, al = some ad → ∀ j u, news[j]? = some u → w.cell? (ad.add j) = some u) :
    Calls Yba.prog 4 #[.agg #[.int .u16 c, .int .i64 kl, .int .u16 h, .int .u16 a, .int .u16 gr, .slice al m cl]] w fun e w' => ∃ g cap, e = .returned (.slice (some ⟨g, 0, none⟩) (4 * ((first2 c kl).length + 3) + m) cap) ∧
      w'.ownsRow w.heap.size 5 1 (.slice (some ⟨g, 0, none⟩) (4 * ((first2 c kl).length + 3) + m) cap) (4 * ((first2 c kl).length + 3) + m) (encAll (first2 c kl ++ [(2, h), (4, gr), (3, a)]) ++ news) ∧ Below w.heap.size w w' := by
  obtain ⟨i0, hi, hz0, hz1, hz2⟩ := info_parts Yba.info5
  obtain ⟨i3, hi3, hy0, hy1, hy2⟩ := info_parts Yba.info34
  have HN : Hid (∀ ad, al = some ad → ∀ j u, news[j]? = some u → w.cell? (ad.add j) = some u) := hnews
  have HL : Hid (news.length = m) := hnl
  obtain ⟨k1, k2⟩ := wrap16 kl
  clear hnews hnl
  go_enter Yba.func4, Yba.ntmps4
  go_wp2_with fail
  refine (basic_any _ c _ c0 c1).mono ?_
  rintro e w1 ⟨gA, cA, rfl, hvA, hbA⟩
  have hbox := boxAt_below (boxAt_new w _ _ _ _ _ _) hbA
  have HB : Hid (Below w.heap.size w w1) := ((Below.refl _ _).alloc (Nat.le_refl _) _).trans (hbA.mono (by simp))
  have HvA : Hid (valAt w1 gA cA c) := ownsRow_mono hvA (Nat.zero_le _)
  have HBX : Hid (boxAt w1 w.heap.size _ _ _ _ _) := hbox
  obtain ⟨x1, x2, x3, x4, x5, x6⟩ := hbox
  clear hbA hvA
  go_upto_if 10 with fail
  go_cut [3] (fun v wc => ∃ items, items.map tm = first2 c kl ∧ attrsAt wc (w.heap.size + 1) v items ∧ boxAt wc w.heap.size (.int .i64 kl) (.int .u16 h) (.int .u16 a) (.int .u16 gr) (.slice al m cl) ∧ Below w.heap.size w wc)
  case first =>
    have hA0 : attrsAt (w1.alloc (.cells #[.int .u16 1, .bool true, .slice (some ⟨gA, 0, none⟩) 2 cA] 34)) (w.heap.size + 1) (.slice (some ⟨w1.heap.size, 0, none⟩) 1 1) [(1, c, gA, cA)] :=
      ⟨World.ownsRow_lit w1 #[.int .u16 1, .bool true, .slice (some ⟨gA, 0, none⟩) 2 cA] 1 (by omega) (by unfold maxLen; omega) rfl,
        fun x hx => by rw [List.mem_singleton.1 hx]; exact valAt_below HvA.out ((Below.refl _ _).alloc (Nat.le_refl _) _)⟩
    have HA0 : Hid (attrsAt _ _ _ _) := hA0
    clear hA0
    by_cases hk : kl = 0
    · subst hk
      go_wp2_with fail
      go_meet
      case rel =>
        exact ⟨_, rfl, HA0.out, boxAt_below HBX.out ((Below.refl _ _).alloc (Nat.le_refl _) _), HB.out.alloc (by omega) _⟩
    · have hkb : (kl != 0) = true := by simp [hk]
      go_wp2_with fail
      refine (basic_any _ _ _ k1 k2).mono ?_
      rintro e w2 ⟨gB, cB, rfl, hvB, hbB⟩
      have HA1 : Hid (attrsAt w2 _ _ _) := attrsAt_below HA0.out hbB
      have HX1 : Hid (boxAt w2 w.heap.size _ _ _ _ _) := boxAt_below (boxAt_below HBX.out ((Below.refl _ _).alloc (Nat.le_refl _) _)) hbB
      have HvB : Hid (valAt w2 gB cB _) := ownsRow_mono hvB (Nat.zero_le _)
      have HB1 : Hid (Below w.heap.size w w2) := (HB.out.alloc (by omega) _).trans (hbB.mono (by simp; omega))
      have hs2 := hbB.size
      simp only [World.size_alloc] at hs2
      clear hbB hvB HA0
      go_wp2_with (at_builtin; refine wpList_append_lies _ rfl _ _ 36 rfl (w.heap.size + 1) 34 i3 _ 3 32 Yba.underlying36 hi3 hy0 hy1 hy2 rfl (by omega) _ 1 _ rfl (HA1.out.1.alloc _) ⟨w2.heap.size, 0, none⟩ 1 1 (attrCells 14 gB cB) rfl rfl (World.news_of_block (heap_alloc_new w2 _)) (by simp [attrCells, Value.oneCell']) (by omega) (by unfold maxLen; omega) (by omega) (by simp; omega) _ rfl ?_; intro g3 cap3 w3 hown3 hgrow3 hat3 hlt3)
      go_meet
      case rel =>
        refine ⟨[(1, c, gA, cA), (14, IntKind.u16.wrap kl, gB, cB)], by simp [tm, first2, hk], ?_, ?_, ?_⟩
        · exact attrsAt_append (items := [(1, c, gA, cA)]) (more := [(14, IntKind.u16.wrap kl, gB, cB)]) (attrsAt_below HA1.out ((Below.refl _ _).alloc (Nat.le_refl _) _)) (fun x hx => by rw [List.mem_singleton.1 hx]; exact valAt_below HvB.out ((Below.refl _ _).alloc (Nat.le_refl _) _)) hgrow3 hown3
        · exact boxAt_grown (boxAt_below HX1.out ((Below.refl _ _).alloc (Nat.le_refl _) _)) hgrow3 (ownsRow_block HA1.out.1 (by omega))
        · exact (HB1.out.alloc (by omega) _).grown hgrow3 (by simp; omega) (fun k hk => by have := (HA1.out.1.lt k hk).1; omega)
  case rest =>
    obtain ⟨items, hit, hatt, hbox, hbel⟩ := hcut
    have HX : Hid (boxAt wc _ _ _ _ _ _) := hbox
    have HAT : Hid (attrsAt wc _ _ _) := hatt
    have HIT : Hid (items.map tm = first2 c kl) := hit
    have HBL : Hid (Below w.heap.size w wc) := hbel
    have hil : items.length ≤ 2 := by
      have := congrArg List.length hit
      rw [List.length_map] at this
      rw [this]; unfold first2; split <;> simp
    obtain ⟨x1, x2, x3, x4, x5, x6⟩ := hbox
    clear hatt hit hbel
    go_wp2_with fail
    go_region_held3 (fun w' => w'.cell? ⟨w.heap.size, 2, none⟩ = some (.int .u16 h) ∧ w'.cell? ⟨w.heap.size, 4, none⟩ = some (.int .u16 gr) ∧ w'.cell? ⟨w.heap.size, 3, none⟩ = some (.int .u16 a))
      (first
        | go_keep
        | (obtain ⟨_, y2, y3, y4, _, _⟩ := HY.out; exact ⟨y2, y4, y3⟩))
      (first
        | (refine step_append_lies _ (by rfl) _ _ _ (by rfl) (w.heap.size + 1) 34 i3 _ 3 32 Yba.underlying36 hi3 hy0 hy1 hy2 rfl (by omega) _ items.length _ (by rfl) (HA6.out.1.alloc _) ⟨w6.heap.size, 0, none⟩ 3 3 (attrCells 2 g4 c4 ++ attrCells 4 g5 c5 ++ attrCells 3 g6 c6) (by rfl) (by rfl) (World.news_of_block (heap_alloc_new w6 _)) (by simp [attrCells, Value.oneCell']) (by omega) (by unfold maxLen; omega) (by omega) (by simp; omega) _ rfl ?_; intro g7 c7 w7 hown7 hgrow7 hat7 hlt7; have HY' : Hid (boxAt w7 _ _ _ _ _ _) := boxAt_grown (boxAt_below HY.out ((Below.refl _ _).alloc (Nat.le_refl _) _)) hgrow7 (ownsRow_block HA6.out.1 (by omega)); clear HY; have HY := HY'; clear HY')
        | (go_at_call_of 6 (Value.int IntKind.u16 2); refine (basic_any _ _ _ h0 h1).mono ?_; rintro e w4 ⟨g4, c4, rfl, hv4, hb4⟩; have HB4 : Hid (Below wc.heap.size wc w4) := (((Below.refl _ _).drew).trans hb4); have HY : Hid (boxAt w4 _ _ _ _ _ _) := boxAt_below HX.out HB4.out; have HV4 : Hid (valAt w4 g4 c4 h) := ownsRow_mono hv4 (Nat.zero_le _); clear hv4 hb4)
        | (go_at_call_of 6 (Value.int IntKind.u16 4); refine (basic_any _ _ _ g0 g1).mono ?_; rintro e w5 ⟨g5, c5, rfl, hv5, hb5⟩; have HB5 : Hid (Below w4.heap.size w4 w5) := hb5; have HY' : Hid (boxAt w5 _ _ _ _ _ _) := boxAt_below HY.out hb5; have HV5 : Hid (valAt w5 g5 c5 gr) := ownsRow_mono hv5 (Nat.zero_le _); clear hv5 hb5 HY; have HY := HY'; clear HY')
        | (go_at_call_of 6 (Value.int IntKind.u16 3); refine (basic_any _ _ _ a0 a1).mono ?_; rintro e w6 ⟨g6, c6, rfl, hv6, hb6⟩; have HB6 : Hid (Below w5.heap.size w5 w6) := hb6; have HY' : Hid (boxAt w6 _ _ _ _ _ _) := boxAt_below HY.out hb6; have HV6 : Hid (valAt w6 g6 c6 a) := ownsRow_mono hv6 (Nat.zero_le _); have HA6 : Hid (attrsAt w6 _ _ _) := attrsAt_below (attrsAt_below (attrsAt_below HAT.out HB4.out) HB5.out) hb6; have hs6 : w.heap.size + 1 ≤ w6.heap.size := Nat.le_trans (Nat.succ_le_of_lt x6) (Nat.le_trans HB4.out.size (Nat.le_trans HB5.out.size hb6.size)); clear hv6 hb6 HY; have HY := HY'; clear HY'))
    have HA7 : Hid (attrsAt w7 (w.heap.size + 1) (.slice (some ⟨g7, 0, none⟩) (items.length + 3) c7) (items ++ [(2, h, g4, c4), (4, gr, g5, c5), (3, a, g6, c6)])) := by
      refine attrsAt_append (attrsAt_below HA6.out ((Below.refl _ _).alloc (Nat.le_refl _) _)) (fun x hx => ?_) hgrow7 (by simpa using hown7)
      simp only [List.mem_cons, List.not_mem_nil, or_false] at hx
      have b6 := (Below.refl w6.heap.size w6).alloc (Nat.le_refl _) (.cells #[Value.int IntKind.u16 2, Value.bool true, Value.slice (some { block := g4, off := 0 }) 2 c4, Value.int IntKind.u16 4, Value.bool true, Value.slice (some { block := g5, off := 0 }) 2 c5, Value.int IntKind.u16 3, Value.bool true, Value.slice (some { block := g6, off := 0 }) 2 c6] 34)
      rcases hx with rfl | rfl | rfl
      · exact valAt_below (valAt_below (valAt_below HV4.out HB5.out) HB6.out) b6
      · exact valAt_below (valAt_below HV5.out HB6.out) b6
      · exact valAt_below HV6.out b6
    have HB7 : Hid (Below w.heap.size w w7) := by
      have s4 := HB4.out.size
      have s5 := HB5.out.size
      have s6 := HB6.out.size
      refine Below.grown (Below.alloc (((HBL.out.trans (HB4.out.mono (by omega))).trans (HB5.out.mono (by omega))).trans (HB6.out.mono (by omega))) (by omega) _) hgrow7 (by simp; omega) (fun k hk => by have := (HA6.out.1.lt k hk).1; omega)
    have HI7 : Hid ((items ++ [(2, h, g4, c4), (4, gr, g5, c5), (3, a, g6, c6)]).map tm = first2 c kl ++ [(2, h), (4, gr), (3, a)]) := by
      rw [List.map_append, HIT.out]; rfl
    have HLEN : Hid ((first2 c kl ++ [(2, h), (4, gr), (3, a)]).length = items.length + 3) := by
      have := congrArg List.length HI7.out
      rw [List.length_map, List.length_append] at this
      exact this.symm
    have HATT : Hid (∀ i (hi : i < (first2 c kl ++ [(2, h), (4, gr), (3, a)]).length), attrAt w7 g7 i (first2 c kl ++ [(2, h), (4, gr), (3, a)])[i].1 (first2 c kl ++ [(2, h), (4, gr), (3, a)])[i].2) := by
      have := attrsAt_at HA7.out (by simp)
      rw [HI7.out] at this
      exact this
    have HY5 := HY.out
    obtain ⟨_, _, _, _, y5, y6⟩ := HY5
    clear hown7 hgrow7 hat7 hlt7 HA6 HV4 HV5 HV6 HB4 HB5 HB6 HAT HX HBX HBL HvA x1 x2 x3 x4 x5
    go_wp2_with fail
    go_region_held3 (fun w' => w'.cell? ⟨w.heap.size, 5, none⟩ = some (.slice al m cl))
      (first
        | go_keep
        | (obtain ⟨_, _, _, _, y5, _⟩ := HY.out; exact y5))
      (first
        | (refine step_append_src _ (by rfl) _ _ _ (by rfl) w7.heap.size 5 i0 _ 1 1 Yba.underlying23 hi hz0 hz1 hz2 rfl (by omega) _ (4 * (items.length + 3)) _ (by rfl) HO8.out _ m _ news (by rfl) hal (by rw [HL.out, Nat.mul_one]) HN8.out hn1 (by omega) (by unfold maxLen; omega) (by omega) hs8 ?_; intro g9 c9 w9 hown9 hgrow9; have HY' : Hid (boxAt w9 _ _ _ _ _ _) := boxAt_grown HY.out hgrow9 (ownsRow_block HO8.out y6); clear HY; have HY := HY'; clear HY')
        | (go_at_call 7; refine (appendAttrs_n (items.length + 3) (first2 c kl ++ [(2, h), (4, gr), (3, a)]) g7 c7 _ ?_ ?_ (ok2 c kl h gr a) ?_).mono ?_; exact HLEN.out; omega; exact HATT.out; rintro e w8 ⟨sv, rfl, hown8, hb8⟩; have HB8 : Hid (Below w7.heap.size w7 w8) := ((Below.refl _ _).drew).trans hb8; have HO8 : Hid (w8.ownsRow w7.heap.size 5 1 sv _ _) := hown8; have HY' : Hid (boxAt w8 _ _ _ _ _ _) := boxAt_below HY.out HB8.out; have HN8 : Hid (∀ ad, al = some ad → ∀ j u, news[j]? = some u → w8.cell? (ad.add j) = some u) := (fun ad had j u hu => (Below.cell (HB7.out.trans (HB8.out.mono (Nat.le_of_lt y6))) (World.block_lt_of_cell? w _ (HN.out ad had j u hu))).trans (HN.out ad had j u hu)); have hs8 := HB8.out.size; clear hown8 hb8 HY; have HY := HY'; clear HY'))
    go_wp2_with fail
    go_ret
    have e : items.length = (first2 c kl).length := by rw [← HIT.out, List.length_map]
    rw [← e]
    exact ⟨g9, c9, rfl, ownsRow_mono hown9 (Nat.le_of_lt y6), (HB7.out.trans (HB8.out.mono (Nat.le_of_lt y6))).grown hgrow9 (Nat.le_of_lt (Nat.lt_of_lt_of_le y6 hs8)) (fun k hk => by have := (HO8.out.lt k hk).1; omega)⟩
end Go.Proofs.YbulkaizkR
