/-
  ech: fmt's stopped front over this dump (after the text CheckFmt); errors.New (17), fmt.Errorf (19).
-/
import Derived.Test.Qxb6628497aFmtPC
import Derived.Stop.CallBack
import Derived.Stop.IfaceNil
import GoSem.ClaimData
namespace Go.Proofs.Qxb6628497aFmt
open Go.RowKit Go.Extern.Stop Go.Stop Go.Extern
set_option linter.unusedVariables false

@[go_sem] theorem Tryf.call27 (args : Array Value) (w : World) : (callFunc 27 args).run Tryf.prog w = ((FmtStop.errorf #[9, 74] #[26] args).run Tryf.prog w).andThen fun v w' => .ok (.value v) w' :=
  run_callFunc_extern Tryf.func27 (by kernel_rfl) (by kernel_rfl) (by kernel_rfl) (by kernel_rfl) args w
@[go_sem] theorem Tryf.guard (name : String) (w : World) : (FmtStop.guard name).run Tryf.prog w = .ok () w := by kernel_rfl

def fmtA : ByteArray := ⟨#[109, 97, 108, 102, 111, 114, 109, 101, 100, 32, 69, 67, 72, 67, 111, 110, 102, 105, 103, 76, 105, 115, 116, 58, 32, 99, 111, 110, 102, 105, 103, 32, 37, 100, 58, 32, 108, 101, 110, 103, 116, 104, 32, 114, 117, 110, 115, 32, 112, 97, 115, 116, 32, 116, 104, 101, 32, 101, 110, 100]⟩
def fmtB : ByteArray := ⟨#[109, 97, 108, 102, 111, 114, 109, 101, 100, 32, 69, 67, 72, 67, 111, 110, 102, 105, 103, 76, 105, 115, 116, 58, 32, 99, 111, 110, 102, 105, 103, 32, 37, 100, 58, 32, 98, 97, 100, 32, 37, 115]⟩
@[go_sem] theorem Tryf.fmt0 : FmtStop.printed? ⟨#[109, 97, 108, 102, 111, 114, 109, 101, 100, 32, 69, 67, 72, 67, 111, 110, 102, 105, 103, 76, 105, 115, 116, 58, 32, 99, 111, 110, 102, 105, 103, 32, 37, 100, 58, 32, 108, 101, 110, 103, 116, 104, 32, 114, 117, 110, 115, 32, 112, 97, 115, 116, 32, 116, 104, 101, 32, 101, 110, 100]⟩ 1 = some [(0, 100, false)] := by kernel_rfl
@[go_sem] theorem Tryf.fmt0r (w : World) : (FmtDoors.printed ⟨#[109, 97, 108, 102, 111, 114, 109, 101, 100, 32, 69, 67, 72, 67, 111, 110, 102, 105, 103, 76, 105, 115, 116, 58, 32, 99, 111, 110, 102, 105, 103, 32, 37, 100, 58, 32, 108, 101, 110, 103, 116, 104, 32, 114, 117, 110, 115, 32, 112, 97, 115, 116, 32, 116, 104, 101, 32, 101, 110, 100]⟩ 1).run Tryf.prog w = .ok [(0, 100, false)] w := by kernel_rfl
@[go_sem] theorem Tryf.fmt1 : FmtStop.printed? ⟨#[109, 97, 108, 102, 111, 114, 109, 101, 100, 32, 69, 67, 72, 67, 111, 110, 102, 105, 103, 76, 105, 115, 116, 58, 32, 99, 111, 110, 102, 105, 103, 32, 37, 100, 58, 32, 98, 97, 100, 32, 37, 115]⟩ 2 = some [(0, 100, false), (1, 115, false)] := by kernel_rfl
@[go_sem] theorem Tryf.fmt1r (w : World) : (FmtDoors.printed ⟨#[109, 97, 108, 102, 111, 114, 109, 101, 100, 32, 69, 67, 72, 67, 111, 110, 102, 105, 103, 76, 105, 115, 116, 58, 32, 99, 111, 110, 102, 105, 103, 32, 37, 100, 58, 32, 98, 97, 100, 32, 37, 115]⟩ 2).run Tryf.prog w = .ok [(0, 100, false), (1, 115, false)] w := by kernel_rfl

theorem Tryf.name9 : Tryf.prog.typeName? 3 9 = some "string" := by kernel_rfl
def Tryf.shape9 : List UInt8 := [12, 6, 0, 0, 0, 0, 0, 0, 0, 115, 116, 114, 105, 110, 103]
@[go_sem] theorem Tryf.op9_115 (name : String) (x : ByteArray) (w : World) : (FmtStop.operand name false 115 false (.iface 9 (.string x))).run Tryf.prog w = .ok (Tryf.shape9, FmtStop.pack x.data.toList) w := by kernel_rfl
@[go_sem] theorem Tryf.op9_115w (name : String) (x : ByteArray) (w : World) : (FmtStop.operand name true 115 false (.iface 9 (.string x))).run Tryf.prog w = .ok (Tryf.shape9, FmtStop.pack x.data.toList) w := by kernel_rfl
theorem Tryf.name3 : Tryf.prog.typeName? 3 3 = some "int" := by kernel_rfl
def Tryf.shape3 : List UInt8 := [5, 3, 0, 0, 0, 0, 0, 0, 0, 105, 110, 116]
@[go_sem] theorem Tryf.op3_100 (name : String) (x : Int) (w : World) : (FmtStop.operand name false 100 false (.iface 3 (.int .i64 x))).run Tryf.prog w = .ok (Tryf.shape3, Go.Extern.Stop.digits 8 (x % 2 ^ 64).toNat) w := by kernel_rfl
@[go_sem] theorem Tryf.op3_100w (name : String) (x : Int) (w : World) : (FmtStop.operand name true 100 false (.iface 3 (.int .i64 x))).run Tryf.prog w = .ok (Tryf.shape3, Go.Extern.Stop.digits 8 (x % 2 ^ 64).toNat) w := by kernel_rfl
@[go_sem] theorem Tryf.ptr68 (w : World) : (FmtStop.ptrTo "errors.errorString").run Tryf.prog w = .ok 68 w := by kernel_rfl
@[go_sem] theorem Tryf.elem68 (w : World) : (elemOf 68).run Tryf.prog w = .ok 70 w := by kernel_rfl
@[go_sem] theorem Tryf.isError68' (w : World) : (FmtDoors.textMethod 68 "Error").run Tryf.prog w = .ok true w := by kernel_rfl
theorem Tryf.name68 : Tryf.prog.typeName? 3 68 = some "*errors.errorString" := by kernel_rfl

theorem new_any (s : ByteArray) (w : World) : Calls Tryf.prog 17 #[.string s] w fun e w' => (∃ a, e = .returned (.iface 68 (.pointer (some a)))) ∧ Upd [] w w' := by
  go_enter Tryf.func17, Tryf.ntmps17
  go_wp2
  go_ret
  exact ⟨⟨_, rfl⟩, (Upd.refl _ _).alloc _⟩

theorem errA_any (F : Interp) (B : Nat) (n : Int) (w : World) (hF : F.answers w.tape) (h0 : w.cell? ⟨B, 0, none⟩ = some (.iface 3 (.int .i64 n))) :
    Calls Tryf.prog 19 #[.string ⟨#[109, 97, 108, 102, 111, 114, 109, 101, 100, 32, 69, 67, 72, 67, 111, 110, 102, 105, 103, 76, 105, 115, 116, 58, 32, 99, 111, 110, 102, 105, 103, 32, 37, 100, 58, 32, 108, 101, 110, 103, 116, 104, 32, 114, 117, 110, 115, 32, 112, 97, 115, 116, 32, 116, 104, 101, 32, 101, 110, 100]⟩, .slice (some ⟨B, 0, none⟩) 1 1] w fun e w' => (∃ a, e = .returned (.iface 68 (.pointer (some a)))) ∧ Upd [] w w' := by
  have hF' : ∀ i name reading k range, w.tape i (.extern (word name reading k) range) = F name reading k := hF
  go_enter Tryf.func19, Tryf.ntmps19
  go_wp2
  go_ret
  exact ⟨⟨_, rfl⟩, ((Upd.refl _ _).alloc _).drew⟩

theorem errB_any (F : Interp) (B : Nat) (n : Int) (s : ByteArray) (w : World) (hF : F.answers w.tape) (h0 : w.cell? ⟨B, 0, none⟩ = some (.iface 3 (.int .i64 n))) (h1 : w.cell? ⟨B, 1, none⟩ = some (.iface 9 (.string s))) :
    Calls Tryf.prog 19 #[.string ⟨#[109, 97, 108, 102, 111, 114, 109, 101, 100, 32, 69, 67, 72, 67, 111, 110, 102, 105, 103, 76, 105, 115, 116, 58, 32, 99, 111, 110, 102, 105, 103, 32, 37, 100, 58, 32, 98, 97, 100, 32, 37, 115]⟩, .slice (some ⟨B, 0, none⟩) 2 2] w fun e w' => (∃ a, e = .returned (.iface 68 (.pointer (some a)))) ∧ Upd [] w w' := by
  have hF' : ∀ i name reading k range, w.tape i (.extern (word name reading k) range) = F name reading k := hF
  go_enter Tryf.func19, Tryf.ntmps19
  go_wp2
  go_ret
  exact ⟨⟨_, rfl⟩, ((Upd.refl _ _).alloc _).drew⟩

end Go.Proofs.Qxb6628497aFmt
