/-
  DERIVED: THE SHELF's CONTRACTS AT THIS DUMP, IN PLAIN WORDS (tools/lay-plain.mjs out of 'YbulkajccShelf.lean', which tools/lay-shelf.mjs wrote): THE SAME DECLARATIONS UNDER THE SAME NAMES: 'import', 'namespace', 'open', 'def', 'theorem' AND NOTHING ELSE: no command of the shelf's: FOR A HAND-IN. Each laying: the table of numbers ('.._ren') and one theorem, a field a fact of the dump's own or the kernel's comparison; each contract: ONE APPLICATION.
-/
import Derived.Shelf.Bytes.SlSearch0
import Derived.Ground.SlbNamesProg
import Derived.Shelf.Bytes.SlJoin
import Derived.Shelf.Bytes.SlEqualAll
import Derived.Shelf.Bytes.Small
import Derived.Shelf.SlGeneric
import Derived.Ground.SlgfProg
import Derived.Shelf.SlicesE.DeleteFunc
import Derived.Test.YbulkajccProg
namespace Go.Proofs
open Go.Shelf
def Yba.lays115_ren : Go.Shelf.Ren := ⟨fun | 115 => 8 | n => n, fun | 37 => 23 | 4 => 4 | 9 => 9 | 5 => 5 | n => n, fun | n => n⟩
theorem Yba.lays115 : Go.Proofs.Lays.n115 Yba.prog Yba.lays115_ren := {
  mixed := by kernel_rfl
  f115 := Yba.func8.trans (congrArg some (by kernel_rfl))
  t4 := Yba.underlying4
  a4 := Yba.isAgg4
  z4 := Yba.sizeOf4
  v4 := Yba.zeroValue4
  t9 := Yba.underlying9
  a9 := Yba.isAgg9
  z9 := Yba.sizeOf9
  v9 := Yba.zeroValue9
  t37 := Yba.underlying23
  a37 := Yba.isAgg23
  z37 := Yba.sizeOf23
  v37 := Yba.zeroValue23 }
open Go.Proofs Go.RowKit Go.Lib in
/-- bytes.Equal, each argument with what 'string(..)' of it gives. (LAID: no walk: one application.) -/
theorem Yba.bytes_Equal_strs (v1 v2 : Value) (t1 t2 : ByteArray) (w : World) (h1 : (convert 23 9 v1).run Yba.prog w = .ok (.string t1) w) (h2 : (convert 23 9 v2).run Yba.prog w = .ok (.string t2) w) :
    Calls Yba.prog 8 #[v1, v2] w fun e w' => e = .returned (.bool (t1.toList == t2.toList)) ∧ w' = w := Any.bytes_Equal_strs Yba.lays115 v1 v2 t1 t2 w h1 h2
def Yba.laysSlJ14_ren : Go.Shelf.Ren := ⟨fun | 14 => 12 | 15 => 15 | n => n, fun | 26 => 22 | 22 => 23 | 3 => 3 | 4 => 4 | 0 => 0 | 9 => 9 | 20 => 20 | 5 => 5 | n => n, fun | n => n⟩
theorem Yba.laysSlJ14 : Go.Proofs.SlLaysJ.n14 Yba.prog Yba.laysSlJ14_ren := {
  mixed := by kernel_rfl
  f14 := Yba.func12.trans (congrArg some (by kernel_rfl))
  f15 := Yba.func15.trans (congrArg some (by kernel_rfl))
  t0 := Yba.underlying0
  a0 := Yba.isAgg0
  z0 := Yba.sizeOf0
  v0 := Yba.zeroValue0
  t3 := Yba.underlying3
  a3 := Yba.isAgg3
  z3 := Yba.sizeOf3
  v3 := Yba.zeroValue3
  t4 := Yba.underlying4
  a4 := Yba.isAgg4
  z4 := Yba.sizeOf4
  v4 := Yba.zeroValue4
  t9 := Yba.underlying9
  a9 := Yba.isAgg9
  z9 := Yba.sizeOf9
  v9 := Yba.zeroValue9
  t20 := Yba.underlying20
  a20 := Yba.isAgg20
  z20 := Yba.sizeOf20
  v20 := Yba.zeroValue20
  t22 := Yba.underlying23
  a22 := Yba.isAgg23
  z22 := Yba.sizeOf23
  v22 := Yba.zeroValue23
  t26 := Yba.underlying22
  a26 := Yba.isAgg22
  z26 := Yba.sizeOf22
  v26 := Yba.zeroValue22
  t5 := Yba.underlying5
  z5 := Yba.sizeOf5
  i5 := by kernel_rfl }
open Go.RowKit Go.Lib in
theorem Yba.bytes_Join_many (b o n c : Nat) (vs : List Value) (ls : List (List UInt8)) (sv : Value) (sep : List UInt8) (w : World) (hn : ls.length = n) (h2 : 2 ≤ n) (hP : Lib.PartsAt w ⟨b, o, none⟩ vs ls) (hcap : n ≤ c) (hS : Lib.HoldsBytes w sv sep) (hn47 : n ≤ 140737488355328) (hlen : Lib.lens ls + sep.length * (n - 1) ≤ 140737488355328) :
    Calls Yba.prog 12 #[.slice (some ⟨b, o, none⟩) n c, sv] w fun e w' => ∃ v', e = .returned v' ∧ Lib.FreshBytes w.heap.size w' v' (Lib.join ls sep) ∧ Below w.heap.size w w' := Any.bytes_Join_many Yba.laysSlJ14 b o n c vs ls sv sep w hn h2 hP hcap hS hn47 hlen
open Go.RowKit Go.Lib in
/-- bytes.Join of no part (nil too): '[]byte{}': a slice of no byte THAT IS NOT nil, at the head of a new, empty row. (LAID: no walk: one application.) -/
theorem Yba.bytes_Join_none (p : Option Addr) (c : Nat) (sv : Value) (w : World) :
    Calls Yba.prog 12 #[.slice p 0 c, sv] w fun e w' => e = .returned (.slice (some ⟨w.heap.size, 0, none⟩) 0 0) ∧ w' = w.alloc (.cells #[] 5) := Any.bytes_Join_none Yba.laysSlJ14 p c sv w
open Go.RowKit Go.Lib in
/-- bytes.Join of ONE part, of one byte or more: 'append([]byte(nil), s[0]...)': a new []byte of its bytes; sep is not looked at. (LAID: no walk: one application.) -/
theorem Yba.bytes_Join_one (b o c : Nat) (ad0 : Addr) (c0 : Nat) (l0 : List UInt8) (sv : Value) (w : World) (hcell : w.cell? ⟨b, o, none⟩ = some (.slice (some ad0) l0.length c0)) (hc : ∀ (i : Nat) x, l0[i]? = some x → w.cell? (ad0.add i) = some (.int .u8 (x.toNat : Int))) (h0 : 0 < l0.length) (hs : l0.length ≤ 140737488355328) :
    Calls Yba.prog 12 #[.slice (some ⟨b, o, none⟩) 1 c, sv] w fun e w' => ∃ v', e = .returned v' ∧ Lib.FreshBytes w.heap.size w' v' l0 ∧ Below w.heap.size w w' := Any.bytes_Join_one Yba.laysSlJ14 b o c ad0 c0 l0 sv w hcell hc h0 hs
open Go.RowKit Go.Lib in
/-- bytes.Join of ONE part of no byte (nil or not): 'append([]byte(nil), s[0]...)' IS nil; the world is as it was. (LAID: no walk: one application.) -/
theorem Yba.bytes_Join_one_empty (b o c : Nat) (p0 : Option Addr) (c0 : Nat) (sv : Value) (w : World) (hcell : w.cell? ⟨b, o, none⟩ = some (.slice p0 0 c0)) :
    Calls Yba.prog 12 #[.slice (some ⟨b, o, none⟩) 1 c, sv] w fun e w' => e = .returned (.slice none 0 0) ∧ w' = w := Any.bytes_Join_one_empty Yba.laysSlJ14 b o c p0 c0 sv w hcell
def Yba.laysnb115_ren : Go.Shelf.Ren := ⟨fun | 115 => 8 | n => n, fun | 37 => 23 | 4 => 4 | 9 => 9 | 5 => 5 | n => n, fun | n => n⟩
theorem Yba.laysnb115 : Go.Proofs.Lays.nb115 Yba.prog Yba.laysnb115_ren := {
  mixed := by kernel_rfl
  f115 := Yba.func8.trans (congrArg some (by kernel_rfl))
  t4 := Yba.underlying4
  a4 := Yba.isAgg4
  z4 := Yba.sizeOf4
  v4 := Yba.zeroValue4
  t9 := Yba.underlying9
  a9 := Yba.isAgg9
  z9 := Yba.sizeOf9
  v9 := Yba.zeroValue9
  t37 := Yba.underlying23
  a37 := Yba.isAgg23
  z37 := Yba.sizeOf23
  v37 := Yba.zeroValue23
  t5 := Yba.underlying5
  a5 := Yba.isAgg5
  z5 := Yba.sizeOf5
  v5 := Yba.zeroValue5 }
/-- bytes.Equal: WHOLE. (LAID: no walk: one application.) -/
theorem Yba.bytes_Equal_all (p1 p2 : Option Addr) (n c m d : Nat) (xs ys : List Int) (w : World) (hx : xs.length = n) (hy : ys.length = m) (h1 : Lib.BytesIn w p1 n xs) (h2 : Lib.BytesIn w p2 m ys) :
    Calls Yba.prog 8 #[.slice p1 n c, .slice p2 m d] w fun e w' => e = .returned (.bool (Lib.bytesOf xs == Lib.bytesOf ys)) ∧ w' = w := Any.bytes_Equal_all Yba.laysnb115 p1 p2 n c m d xs ys w hx hy h1 h2
/-- bytes.Equal: "Equal reports whether a and b are the same length and contain the same bytes. A nil argument is equivalent to an empty slice.": IT RETURNS 'the bytes of the one == the bytes of the other'; the world is as it was. THE TWO ARGUMENTS COME AS WHATEVER VALUES, each with the one fact that the walk wants of it: what 'string(..)' of it gives: for a slice whose cells you know: 'run_convert_bytes_arg' (Derived/Laws/BytesArg.lean) hands that fact; for a nil one: 'run_convert_bytes_nil' (with xs := []). (LAID: no walk: one application.) -/
theorem Yba.bytes_Equal (v1 v2 : Value) (xs ys : List Int) (w : World) (h1 : (convert 23 9 v1).run Yba.prog w = .ok (.string (strOfNums xs)) w) (h2 : (convert 23 9 v2).run Yba.prog w = .ok (.string (strOfNums ys)) w) :
    Calls Yba.prog 8 #[v1, v2] w fun e w' => e = .returned (.bool (Lib.bytesOf xs == Lib.bytesOf ys)) ∧ w' = w := Any.bytes_Equal Yba.lays115 v1 v2 xs ys w h1 h2
def Yba.laysDel_ren : Go.Shelf.Ren := ⟨fun | 10 => 9 | 6 => 13 | n => n, fun | 22 => 22 | 23 => 23 | 25 => 30 | 3 => 3 | 4 => 4 | 0 => 0 | n => n, fun | n => n⟩
theorem Yba.laysDel : Go.Proofs.SlLaysH.n10 Yba.prog Yba.laysDel_ren := {
  mixed := by kernel_rfl
  f6 := ⟨Yba.f13.name, by decide, Yba.func13.trans (congrArg some (by kernel_rfl))⟩
  f10 := ⟨Yba.f9.name, by decide, Yba.func9.trans (congrArg some (by kernel_rfl))⟩
  t0 := Yba.underlying0
  a0 := Yba.isAgg0
  z0 := Yba.sizeOf0
  v0 := Yba.zeroValue0
  t3 := Yba.underlying3
  a3 := Yba.isAgg3
  z3 := Yba.sizeOf3
  v3 := Yba.zeroValue3
  t4 := Yba.underlying4
  a4 := Yba.isAgg4
  z4 := Yba.sizeOf4
  v4 := Yba.zeroValue4
  t22 := Yba.underlying22
  a22 := Yba.isAgg22
  z22 := Yba.sizeOf22
  v22 := Yba.zeroValue22
  a23 := Yba.isAgg23
  z23 := Yba.sizeOf23
  t25 := Yba.underlying30
  a25 := Yba.isAgg30
  z25 := Yba.sizeOf30
  v25 := Yba.zeroValue30 }
end Go.Proofs
