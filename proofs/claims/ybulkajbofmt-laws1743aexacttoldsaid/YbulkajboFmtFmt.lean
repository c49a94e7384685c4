/- fmt's stopped fronts: the closed facts for the walk, and the walks that come to them. After the kit's worked text Derived/Test/CheckFmt.lean. -/
import Derived.Test.YbulkajboFmtSet
import Derived.Stop.CallBack
import Derived.Stop.IfaceNil
import GoSem.ClaimData
namespace Go.Proofs.YbulkajboFmt
open Go.RowKit Go.Extern.Stop Go.Stop Go.Extern
set_option linter.unusedVariables false

@[go_sem] theorem Ybaf.call25 (args : Array Value) (w : World) : (callFunc 25 args).run Ybaf.prog w = ((FmtStop.errorf #[9, 80] #[30] args).run Ybaf.prog w).andThen fun v w' => .ok (.value v) w' :=
  run_callFunc_extern Ybaf.func25 (by kernel_rfl) (by kernel_rfl) (by kernel_rfl) (by kernel_rfl) args w
@[go_sem] theorem Ybaf.call33 (args : Array Value) (w : World) : (callFunc 33 args).run Ybaf.prog w = ((FmtStop.sprint "fmt.Sprint" #[80] #[9] args).run Ybaf.prog w).andThen fun v w' => .ok (.value v) w' :=
  run_callFunc_extern Ybaf.func33 (by kernel_rfl) (by kernel_rfl) (by kernel_rfl) (by kernel_rfl) args w
@[go_sem] theorem Ybaf.guard (name : String) (w : World) : (FmtStop.guard name).run Ybaf.prog w = .ok () w := by kernel_rfl

def fm0 : ByteArray := { data := #[112, 114, 111, 99, 101, 115, 115, 32, 37, 100, 32, 104, 111, 108, 100, 115, 32, 110, 111, 32, 112, 97, 105, 114, 32, 111, 102, 32, 116, 104, 101, 32, 113, 117, 111, 114, 117, 109, 32, 100, 101, 116, 101, 99, 116, 111, 114, 32, 97, 116, 32, 119, 97, 118, 101, 32, 48] }
theorem Ybaf.fmt0r (w : World) : (FmtDoors.printed fm0 1).run Ybaf.prog w = .ok [(0, 100, false)] w := by kernel_rfl
theorem Ybaf.fmt0c : fm0.data.contains 37 = true := by kernel_rfl

def fm1 : ByteArray := { data := ([116, 104, 101, 32, 113, 117, 111, 114, 117, 109, 32, 112, 97, 105, 114, 32, 40, 37, 100, 44, 32, 37, 100, 41, 32, 99, 97, 110, 32, 98, 101, 32, 109, 101, 116, 32, 116, 119, 105, 99, 101, 32].append [119, 105, 116, 104, 32, 110, 111, 32, 112, 114, 111, 99, 101, 115, 115, 32, 105, 110, 32, 99, 111, 109, 109, 111, 110, 58, 32, 98, 121, 32, 37, 115, 32, 97, 110, 100, 32, 98, 121, 32, 37, 115]).toArray }
theorem Ybaf.fmt1r (w : World) : (FmtDoors.printed fm1 4).run Ybaf.prog w = .ok [(0, 100, false), (1, 100, false), (2, 115, false), (3, 115, false)] w := by kernel_rfl
theorem Ybaf.fmt1c : fm1.data.contains 37 = true := by kernel_rfl

def fm2 : ByteArray := { data := ([116, 104, 101, 32, 113, 117, 111, 114, 117, 109, 32, 112, 97, 105, 114, 115, 32, 40, 37, 100, 44, 32, 37, 100, 41, 32, 97, 110, 100, 32, 40, 37, 100, 44, 32, 37, 100, 41, 32, 99, 97, 110, 32, 98, 101, 32].append [109, 101, 116, 32, 119, 105, 116, 104, 32, 110, 111, 32, 112, 114, 111, 99, 101, 115, 115, 32, 105, 110, 32, 99, 111, 109, 109, 111, 110, 58, 32, 98, 121, 32, 37, 115, 32, 97, 110, 100, 32, 98, 121, 32, 37, 115]).toArray }
theorem Ybaf.fmt2r (w : World) : (FmtDoors.printed fm2 6).run Ybaf.prog w = .ok [(0, 100, false), (1, 100, false), (2, 100, false), (3, 100, false), (4, 115, false), (5, 115, false)] w := by kernel_rfl
theorem Ybaf.fmt2c : fm2.data.contains 37 = true := by kernel_rfl

def fm3 : ByteArray := { data := ([112, 114, 111, 99, 101, 115, 115, 32, 37, 100, 32, 110, 101, 118, 101, 114, 32, 99, 114, 97, 115, 104, 101, 115, 44, 32, 121, 101, 116, 32, 105, 116, 115, 32, 113, 117, 111, 114, 117, 109, 32, 100, 101, 116, 101, 99, 116, 111, 114, 32, 110, 101, 118, 101, 114, 32, 103, 105, 118, 101, 115].append [32, 105, 116, 32, 97, 32, 112, 97, 105, 114, 32, 40, 120, 44, 32, 121, 41, 32, 116, 104, 97, 116, 32, 121, 32, 112, 114, 111, 99, 101, 115, 115, 101, 115, 32, 116, 104, 97, 116, 32, 110, 101, 118, 101, 114, 32, 99, 114, 97, 115, 104, 32, 107, 110, 111, 119, 32, 120, 32, 111, 102]).toArray }
theorem Ybaf.fmt3r (w : World) : (FmtDoors.printed fm3 1).run Ybaf.prog w = .ok [(0, 100, false)] w := by kernel_rfl
theorem Ybaf.fmt3c : fm3.data.contains 37 = true := by kernel_rfl

def Ybaf.shape9 : List UInt8 := [12, 6, 0, 0, 0, 0, 0, 0, 0, 115, 116, 114, 105, 110, 103]
@[go_sem] theorem Ybaf.op9_115w (name : String) (x : ByteArray) (w : World) : (FmtStop.operand name true 115 false (.iface 9 (.string x))).run Ybaf.prog w = .ok (Ybaf.shape9, FmtStop.pack x.data.toList) w := by kernel_rfl
def Ybaf.shape3 : List UInt8 := [5, 3, 0, 0, 0, 0, 0, 0, 0, 105, 110, 116]
@[go_sem] theorem Ybaf.op3_118 (name : String) (x : Int) (w : World) : (FmtStop.operand name false 118 false (.iface 3 (.int .i64 x))).run Ybaf.prog w = .ok (Ybaf.shape3, Go.Extern.Stop.digits 8 (x % 2 ^ 64).toNat) w := by kernel_rfl
@[go_sem] theorem Ybaf.op3_100w (name : String) (x : Int) (w : World) : (FmtStop.operand name true 100 false (.iface 3 (.int .i64 x))).run Ybaf.prog w = .ok (Ybaf.shape3, Go.Extern.Stop.digits 8 (x % 2 ^ 64).toNat) w := by kernel_rfl
@[go_sem] theorem Ybaf.ptr100 (w : World) : (FmtStop.ptrTo "errors.errorString").run Ybaf.prog w = .ok 100 w := by kernel_rfl
@[go_sem] theorem Ybaf.elem100 (w : World) : (elemOf 100).run Ybaf.prog w = .ok 102 w := by kernel_rfl

theorem errf0 (b : Nat) (x : Int) (w : World) (c0 : w.cell? ⟨b, 0, none⟩ = some (.iface 3 (.int .i64 x))) : Calls Ybaf.prog 14 #[.string fm0, .slice (some ⟨b, 0, none⟩) 1 1] w fun e w' =>
    (∃ ad, e = .returned (.iface 100 (.pointer (some ad)))) ∧ Kept (fun _ => False) w w' := by
  have h1 := Ybaf.fmt0r
  have h2 := Ybaf.fmt0c
  go_enter Ybaf.func14, Ybaf.ntmps14
  go_wp2
  go_ret
  exact ⟨⟨_, rfl⟩, ((Kept.refl _ w).alloc _).drew⟩
theorem errf1 (b : Nat) (x y : Int) (s t : ByteArray) (w : World) (c0 : w.cell? ⟨b, 0, none⟩ = some (.iface 3 (.int .i64 x))) (c1 : w.cell? ⟨b, 1, none⟩ = some (.iface 3 (.int .i64 y))) (c2 : w.cell? ⟨b, 2, none⟩ = some (.iface 9 (.string s))) (c3 : w.cell? ⟨b, 3, none⟩ = some (.iface 9 (.string t))) : Calls Ybaf.prog 14 #[.string fm1, .slice (some ⟨b, 0, none⟩) 4 4] w fun e w' =>
    (∃ ad, e = .returned (.iface 100 (.pointer (some ad)))) ∧ Kept (fun _ => False) w w' := by
  have h1 := Ybaf.fmt1r
  have h2 := Ybaf.fmt1c
  go_enter Ybaf.func14, Ybaf.ntmps14
  go_wp2
  go_ret
  exact ⟨⟨_, rfl⟩, ((Kept.refl _ w).alloc _).drew⟩
theorem errf2 (b : Nat) (x y x2 y2 : Int) (s t : ByteArray) (w : World) (c0 : w.cell? ⟨b, 0, none⟩ = some (.iface 3 (.int .i64 x))) (c1 : w.cell? ⟨b, 1, none⟩ = some (.iface 3 (.int .i64 y))) (c2 : w.cell? ⟨b, 2, none⟩ = some (.iface 3 (.int .i64 x2))) (c3 : w.cell? ⟨b, 3, none⟩ = some (.iface 3 (.int .i64 y2))) (c4 : w.cell? ⟨b, 4, none⟩ = some (.iface 9 (.string s))) (c5 : w.cell? ⟨b, 5, none⟩ = some (.iface 9 (.string t))) : Calls Ybaf.prog 14 #[.string fm2, .slice (some ⟨b, 0, none⟩) 6 6] w fun e w' =>
    (∃ ad, e = .returned (.iface 100 (.pointer (some ad)))) ∧ Kept (fun _ => False) w w' := by
  have h1 := Ybaf.fmt2r
  have h2 := Ybaf.fmt2c
  go_enter Ybaf.func14, Ybaf.ntmps14
  go_wp2
  go_ret
  exact ⟨⟨_, rfl⟩, ((Kept.refl _ w).alloc _).drew⟩
theorem errf3 (b : Nat) (x : Int) (w : World) (c0 : w.cell? ⟨b, 0, none⟩ = some (.iface 3 (.int .i64 x))) : Calls Ybaf.prog 14 #[.string fm3, .slice (some ⟨b, 0, none⟩) 1 1] w fun e w' =>
    (∃ ad, e = .returned (.iface 100 (.pointer (some ad)))) ∧ Kept (fun _ => False) w w' := by
  have h1 := Ybaf.fmt3r
  have h2 := Ybaf.fmt3c
  go_enter Ybaf.func14, Ybaf.ntmps14
  go_wp2
  go_ret
  exact ⟨⟨_, rfl⟩, ((Kept.refl _ w).alloc _).drew⟩
end Go.Proofs.YbulkajboFmt
