/- The walk of zzs1743abuild. -/
import Derived.Test.YbulkajboFmtPrep
import Derived.Deep.AppendLies
namespace Go.Proofs.YbulkajboFmt
open Go.RowKit
set_option linter.unusedVariables false
attribute [local go_sem ↓] Go.wp_at_zero Go.wp_at_succ

section
variable {P : Program} (w : World)
theorem wp_append_at {o : Oper} {a : Act} {K : Act → World → Prop} {Q : Exit → Act → World → Prop} (s x : Operand) (t : TypeId)
    (ho : o.op = .call { callee := .builtin .append, args := #[s, x], argTypes := #[t, t] })
    (base : Nat) (e : TypeId) (i : TypeInfo) (z : Value) (size bytes : Nat) (ht : P.underlying t = some (.slice e)) (hi : P.info? e = some i) (hz : i.zero = some z)
    (hsize : i.size = size) (hby : i.bytes = bytes) (hzs : z.cells.size = size) (hsz : 0 < size)
    (v : Value) (n : Nat) (xs : List Value) (hs : a.eval s = v) (hown : w.ownsRow base e size v n xs)
    (ad : Addr) (m c : Nat) (news : List Value) (hx : a.eval x = .slice (some ad) m c) (hl : news.length = m * size) (hnews : ∀ j u, news[j]? = some u → w.cell? (ad.add j) = some u) (h1 : ∀ u ∈ news, u.oneCell' = true)
    (h63 : n + m ≤ maxLen) (hbytes : (n + m) * bytes ≤ 140737488355328) (hbase : base ≤ w.heap.size)
    (h : ∀ v' w', w'.ownsRow base e size v' (n + m) (xs ++ news) → w.grownBy w' v.ownBlock → K (a.put o.dst v') w') : o.wp P a w K Q := by
  obtain ⟨v', w', hr, h2, h3, h4, h5⟩ := run_append_own_at (P := P) w base t o.type e i z size bytes ht hi hz hsize hby hzs hsz v n xs hown ad m c news hl hnews h1 h63 hbytes hbase
  unfold Oper.wp execOp
  simp only [ho, resolve, invoke, builtin, Sem.run_bind, Sem.run_pure, Result.andThen_ok, List.map_toArray, List.map_cons, List.map_nil, hs, hx, hr]
  exact h v' w' h2 h3
theorem step_append_at {ops : Array Oper} {o : Oper} {a : Act} {K : Act → World → Prop} {Q : Exit → Act → World → Prop} {E : Prop} (hgd : o.guard = none) (s x : Operand) (t : TypeId)
    (ho : o.op = .call { callee := .builtin .append, args := #[s, x], argTypes := #[t, t] })
    (base : Nat) (e : TypeId) (i : TypeInfo) (z : Value) (size bytes : Nat) (ht : P.underlying t = some (.slice e)) (hi : P.info? e = some i) (hz : i.zero = some z)
    (hsize : i.size = size) (hby : i.bytes = bytes) (hzs : z.cells.size = size) (hsz : 0 < size)
    (v : Value) (n : Nat) (xs : List Value) (hs : a.eval s = v) (hown : w.ownsRow base e size v n xs)
    (ad : Addr) (m c : Nat) (news : List Value) (hx : a.eval x = .slice (some ad) m c) (hl : news.length = m * size) (hnews : ∀ j u, news[j]? = some u → w.cell? (ad.add j) = some u) (h1 : ∀ u ∈ news, u.oneCell' = true)
    (h63 : n + m ≤ maxLen) (hbytes : (n + m) * bytes ≤ 140737488355328) (hbase : base ≤ w.heap.size)
    (h : ∀ v' w', w'.ownsRow base e size v' (n + m) (xs ++ news) → w.grownBy w' v.ownBlock → K (a.put o.dst v') w') :
    if Region.wanted o (yielded ops a.tmps) = true then Oper.wp P o a w K Q else E := by
  have hw : Region.wanted o (yielded ops a.tmps) = true := by simp [Region.wanted, hgd]
  rw [if_pos hw]
  exact wp_append_at w s x t ho base e i z size bytes ht hi hz hsize hby hzs hsz v n xs hs hown ad m c news hx hl hnews h1 h63 hbytes hbase h
end

theorem Ybaf.info35 : (Ybaf.prog.info? 35).map (fun i => (i.zero, i.size, i.bytes)) = some (some (.agg #[.int .i64 0, .int .i64 0, .int .i64 0, .int .i64 0]), 4, 32) := by kernel_rfl

def encH (h : HP) : List Value := [.int .i64 (h.p : Int), .int .i64 (h.w : Int), .int .i64 (h.l : Int), .int .i64 (h.c : Int)]
def flatH (ps : List HP) : List Value := ps.flatMap encH
theorem flatH_snoc (ps : List HP) (h : HP) : flatH (ps ++ [h]) = flatH ps ++ encH h := by simp [flatH]
theorem flatH_length (ps : List HP) : (flatH ps).length = ps.length * 4 := by
  induction ps with
  | nil => rfl
  | cons q Q ih => simp only [flatH, List.flatMap_cons, List.length_append, List.length_cons] at ih ⊢; rw [ih]; simp [encH]; omega

theorem new_cellsB (w : World) (xs : List Value) (t : TypeId) (j : Nat) (x : Value) (h : xs[j]? = some x) : (w.alloc (.cells xs.toArray t)).cell? ((⟨w.heap.size, 0, none⟩ : Addr).add j) = some x := by
  rw [add_lit0, (rowIs_new w xs t).cell]; exact h

/-- A raw pair. -/
structure Raw where
  P : Nat
  W : Nat
  L : Nat
  C : Nat
def okRaw (r : Raw) : Prop := r.P < 256 ∧ r.W < 256 ∧ r.L < 256 ∧ r.C < 256
def conv (n : Nat) (r : Raw) : HP := ⟨r.P % n, r.W % 3, r.L % 3, r.C % (n + 1) + 1⟩
def fillP (n p : Nat) : List HP := (List.range p).map fun x => ⟨x, 0, 0, n⟩
theorem fillP_length (n p : Nat) : (fillP n p).length = p := by simp [fillP]
theorem fillP_succ (n p : Nat) : fillP n (p + 1) = fillP n p ++ [⟨p, 0, 0, n⟩] := by simp [fillP, List.range_succ]
def fillH (n : Nat) : List HP := fillP n n
def psOf (n : Nat) (fill : Bool) (R : List Raw) : List HP := (if fill then fillH n else []) ++ R.map (conv n)

/-- What is known of a slice of raw pairs that came in. -/
def rawIn (w : World) (al : Option Addr) (R : List Raw) : Prop := ∀ t (h : t < R.length), okRaw R[t] ∧ ∃ b off, al = some ⟨b, off, none⟩ ∧ b < w.heap.size ∧
  w.cell? ⟨b, off + t * 4, none⟩ = some (.int .u8 (R[t].P : Int)) ∧ w.cell? ⟨b, off + t * 4 + 1, none⟩ = some (.int .u8 (R[t].W : Int)) ∧ w.cell? ⟨b, off + t * 4 + 2, none⟩ = some (.int .u8 (R[t].L : Int)) ∧ w.cell? ⟨b, off + t * 4 + 3, none⟩ = some (.int .u8 (R[t].C : Int))

def pairsOwn (w wr : World) (v : Value) (ps : List HP) : Prop := wr.ownsRow w.heap.size 35 4 v ps.length (flatH ps) ∧ Kept (fun _ => False) w wr

set_option maxRecDepth 100000 in
set_option maxHeartbeats 8000000 in
theorem build_any (n : Nat) (fill : Bool) (al : Option Addr) (cap : Nat) (R : List Raw) (h1 : 1 ≤ n) (h9 : n ≤ 9) (hR : R.length ≤ 256) (w : World) (hin : rawIn w al R) :
    Calls Ybaf.prog 6 #[.int .i64 n, .bool fill, .slice al R.length cap] w fun e w' => ∃ v, e = .returned v ∧ pairsOwn w w' v (psOf n fill R) := by
  obtain ⟨i0, hi, hz0, hz1, hz2⟩ := info_parts Ybaf.info35
  have hu25 := Ybaf.underlying25
  have HIN := (show Hid (rawIn _ _ _) from hin)
  clear hin
  go_enter Ybaf.func6, Ybaf.ntmps6
  go_upto_if 11 with fail
  go_cut [7] (fun v wx => pairsOwn w wx v (if fill then fillH n else []))
  case first =>
    cases fill
    · go_wp2_with fail
      go_meet
      exact ⟨⟨rfl, .inl ⟨rfl, rfl⟩⟩, Kept.refl _ _⟩
    · go_wp2_with fail
      go_loopw [7, 8] (fun v q wr => ∃ p : Nat, p ≤ n ∧ q = .int .i64 p ∧ pairsOwn w wr v (fillP n p)) (fun _ q _ => n - (intOf q).toNat)
      case atStart => exact ⟨0, by omega, rfl, ⟨rfl, .inl ⟨rfl, rfl⟩⟩, Kept.refl _ _⟩
      case round =>
        obtain ⟨p, hp, rfl, hown, hk⟩ := hrel
        have HO := (show Hid (World.ownsRow _ _ _ _ _ _ _) from hown)
        have HK := (show Hid (Kept _ _ _) from hk)
        have hsz := hk.size
        have HLP := (show Hid (_ = _) from fillP_length n p)
        clear hown hk
        by_cases hpn : p < n
        · go_wp2_with (at_builtin; refine wpList_append_own_at _ rfl _ _ 25 rfl w.heap.size 35 i0 (.agg #[.int .i64 0, .int .i64 0, .int .i64 0, .int .i64 0]) 4 32 hu25 hi hz0 hz1 hz2 rfl (by decide) u7 (fillP n p).length (flatH (fillP n p)) rfl (HO.out.alloc _) ⟨wr.heap.size, 0, none⟩ 1 1 [.int .i64 (p : Int), .int .i64 0, .int .i64 0, .int .i64 (n : Int)] rfl rfl (fun j u hu => new_cellsB wr _ 35 j u hu) (fun u hu => by simp at hu; rcases hu with rfl | rfl | rfl <;> rfl) (by rw [HLP.out]; unfold maxLen; omega) (by rw [HLP.out]; omega) (by rw [World.size_alloc]; omega) ?_; intro v' w8 hown8 hgrow8 _ _; have HO8 := (show Hid (World.ownsRow _ _ _ _ _ _ _) from hown8); have HG8 := (show Hid (World.grownBy _ _ _) from hgrow8); clear hown8 hgrow8)
          go_roundw
          case rel =>
            refine ⟨p + 1, by omega, by go_num, ?_, (HK.out.alloc _).grown HG8.out (fun k e hk => by have := (HO.out.lt k e).1; omega)⟩
            rw [fillP_succ, List.length_append, flatH_snoc]
            exact HO8.out
          case measure => go_light; simp [intOf]; omega
        · obtain rfl : p = n := by omega
          go_wp2_with fail
          go_meet
          exact ⟨HO.out, HK.out⟩
  case rest =>
    have HC := (show Hid (pairsOwn _ _ _ _) from hcut)
    clear hcut
    go_wp2_with fail
    go_loopw [7, 25] (fun v q wr => ∃ k : Nat, k ≤ R.length ∧ q = .int .i64 k ∧ pairsOwn w wr v ((if fill then fillH n else []) ++ (R.take k).map (conv n))) (fun _ q _ => R.length - (intOf q).toNat)
    case atStart => exact ⟨0, by omega, rfl, by simpa using HC.out⟩
    case round =>
      clear HC
      obtain ⟨k, hk, rfl, hown, hkk⟩ := hrel
      have HO := (show Hid (World.ownsRow _ _ _ _ _ _ _) from hown)
      have HK := (show Hid (Kept _ _ _) from hkk)
      have hsz := hkk.size
      by_cases hlt : k < R.length
      · obtain ⟨⟨q1, q2, q3, q4⟩, b, off, rfl, hb, c0, c1, c2, c3⟩ := HIN.out k hlt
        have HTK := (show Hid (_ = _) from take_snoc R k hlt)
        have d0 := (hkk.cell (p := ⟨b, off + k * 4, none⟩) hb (by simp)).trans c0
        have d1 := (hkk.cell (p := ⟨b, off + k * 4 + 1, none⟩) hb (by simp)).trans c1
        have d2 := (hkk.cell (p := ⟨b, off + k * 4 + 2, none⟩) hb (by simp)).trans c2
        have d3 := (hkk.cell (p := ⟨b, off + k * 4 + 3, none⟩) hb (by simp)).trans c3
        clear c0 c1 c2 c3 hown hkk
        obtain ⟨rr, hrr⟩ : ∃ rr, R[k] = rr := ⟨_, rfl⟩
        rw [hrr] at q1 q2 q3 q4 d0 d1 d2 d3 HTK
        clear hrr
        obtain ⟨P, W, L, C⟩ := rr
        dsimp only at q1 q2 q3 q4 d0 d1 d2 d3
        have w1 : IntKind.i64.wrap (P : Int) = P := by rw [IntKind.wrap_i64]; omega
        have w2 : IntKind.i64.wrap (W : Int) = W := by rw [IntKind.wrap_i64]; omega
        have w3 : IntKind.i64.wrap (L : Int) = L := by rw [IntKind.wrap_i64]; omega
        have w4 : IntKind.i64.wrap (C : Int) = C := by rw [IntKind.wrap_i64]; omega
        have t1 : (P : Int).tmod (n : Int) = ((P % n : Nat) : Int) := by rw [Int.tmod_eq_emod_of_nonneg (by omega)]; rfl
        have t2 : (W : Int).tmod 3 = ((W % 3 : Nat) : Int) := by rw [Int.tmod_eq_emod_of_nonneg (by omega)]; rfl
        have t3 : (L : Int).tmod 3 = ((L % 3 : Nat) : Int) := by rw [Int.tmod_eq_emod_of_nonneg (by omega)]; rfl
        have t4 : (C : Int).tmod ((n : Int) + 1) = ((C % (n + 1) : Nat) : Int) := by rw [Int.tmod_eq_emod_of_nonneg (by omega)]; rfl
        have hnn : ¬ n = 0 := by omega
        have NE := (show Hid (some wr.heap.size ≠ _) from own_ne HO.out (Nat.le_refl _))
        have hle : ((if fill then fillH n else []) ++ (R.take k).map (conv n)).length ≤ 300 := by
          have h0 : (if fill = true then fillH n else []).length ≤ 9 := by
            cases fill
            · simp
            · simp [fillH, fillP_length]; omega
          rw [List.length_append, List.length_map, List.length_take]; omega
        have HLE := (show Hid (_ ≤ 300) from hle)
        clear hle
        have hn1 : ¬ ((n : Int) + 1 = 0) := by omega
        have hn2 : ((n : Int) + 1 == 0) = false := by simp; omega
        have hn3 : IntKind.i64.wrap ((n : Int) + 1) = (n : Int) + 1 := by rw [IntKind.wrap_i64]; omega
        have hn4 : (0 : Int) < (n : Int) + 1 := by omega
        have hn6 : IntKind.i64.wrap ((C : Int) % ((n : Int) + 1) + 1) = (C : Int) % ((n : Int) + 1) + 1 := by
          have g1 := Int.emod_nonneg (C : Int) (show (n : Int) + 1 ≠ 0 by omega)
          have g2 := Int.emod_lt_of_pos (C : Int) (show (0 : Int) < (n : Int) + 1 by omega)
          rw [IntKind.wrap_i64]; omega
        have NEWS := (show Hid ([Value.int .i64 ((P : Int) % (n : Int)), .int .i64 ((W : Int) % 3), .int .i64 ((L : Int) % 3), .int .i64 ((C : Int) % ((n : Int) + 1) + 1)] = encH (conv n ⟨P, W, L, C⟩)) from rfl)
        go_wp2_with fail
        go_region_held3 (fun w' => w'.cell? ⟨wr.heap.size, 0, none⟩ = some (.int .u8 (P : Int)) ∧ w'.cell? ⟨wr.heap.size, 1, none⟩ = some (.int .u8 (W : Int)) ∧ w'.cell? ⟨wr.heap.size, 2, none⟩ = some (.int .u8 (L : Int)) ∧ w'.cell? ⟨wr.heap.size, 3, none⟩ = some (.int .u8 (C : Int)))
          (first
            | go_keep
            | (go_split_ands
               refine ⟨?_, ?_, ?_, ?_⟩
               · (rw [hgrow8.cell_far _ (by simp; omega) NE.out]; assumption)
               · (rw [hgrow8.cell_far _ (by simp; omega) NE.out]; assumption)
               · (rw [hgrow8.cell_far _ (by simp; omega) NE.out]; assumption)
               · (rw [hgrow8.cell_far _ (by simp; omega) NE.out]; assumption)))
          ((refine step_append_at _ (by rfl) _ _ _ (by rfl) w.heap.size 35 i0 _ 4 32 hu25 hi hz0 hz1 hz2 rfl (by omega) u7 _ _ (by rfl) (((HO.out.alloc _).alloc _).drew) ⟨wr.heap.size + 1, 0, none⟩ 1 1 [.int .i64 ((P : Int) % (n : Int)), .int .i64 ((W : Int) % 3), .int .i64 ((L : Int) % 3), .int .i64 ((C : Int) % ((n : Int) + 1) + 1)] (by rfl) (by rfl) (World.news_of_block (heap_new2 wr _ _)) (by simp [Value.oneCell']) (by have := HLE.out; unfold maxLen; omega) (by have := HLE.out; omega) (by simp; omega) ?_; intro v8 w8 hown8 hgrow8))
        go_wp2_with fail
        go_roundw
        case rel =>
          refine ⟨k + 1, by omega, by go_num, ?_, (((HK.out.alloc _).alloc _).drew).grown hgrow8 (fun j e hj => by have := (HO.out.lt j e).1; omega)⟩
          rw [HTK.out, List.map_append, ← List.append_assoc]
          show w8.ownsRow _ _ _ _ (_ ++ [conv n ⟨P, W, L, C⟩]).length (flatH (_ ++ [conv n ⟨P, W, L, C⟩]))
          rw [flatH_snoc, List.length_append, ← NEWS.out]
          exact hown8
        case measure => go_light; simp [intOf]; omega
      · obtain rfl : k = R.length := by omega
        go_wp2_with fail
        go_ret
        have h := HO.out
        rw [List.take_length] at h
        exact ⟨_, rfl, h, HK.out⟩
end Go.Proofs.YbulkajboFmt
