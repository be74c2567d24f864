/-
  The closed facts of this dump that a walk over fmt.errorf's stop wants. After the worked example's texts (Check), turned to this program's numbers.
-/
import Derived.Test.Qxb6616505aFmtProg
import Derived.Stop.CallBack
import Derived.Stop.IfaceNil
import GoSem.ClaimData
namespace Go.Proofs
open Go.Extern.Stop Go.Stop Go.Extern

-- fmt.errorf: function 30: a plain stop
@[go_sem] theorem Tryf.call30 (args : Array Value) (w : World) : (callFunc 30 args).run Tryf.prog w = ((FmtStop.errorf #[9, 52] #[30] args).run Tryf.prog w).andThen fun v w' => .ok (.value v) w' :=
  run_callFunc_extern Tryf.func30 (by kernel_rfl) (by kernel_rfl) (by kernel_rfl) (by kernel_rfl) args w

@[go_sem] theorem Tryf.guard (name : String) (w : World) : (FmtStop.guard name).run Tryf.prog w = .ok () w := by kernel_rfl

-- format 0, 1 operand(s)
@[go_sem] theorem Tryf.fmt0 : FmtStop.printed? ⟨#[99, 117, 116, 32, 115, 104, 111, 114, 116, 32, 105, 110, 32, 105, 116, 115, 32, 37, 115]⟩ 1 = some [(0, 115, false)] := by kernel_rfl
@[go_sem] theorem Tryf.fmt0r (w : World) : (FmtDoors.printed ⟨#[99, 117, 116, 32, 115, 104, 111, 114, 116, 32, 105, 110, 32, 105, 116, 115, 32, 37, 115]⟩ 1).run Tryf.prog w = .ok [(0, 115, false)] w := by kernel_rfl
-- format 1, 2 operand(s)
@[go_sem] theorem Tryf.fmt1 : FmtStop.printed? ⟨#[111, 99, 116, 101, 116, 115, 32, 97, 102, 116, 101, 114, 32, 105, 116, 115, 32, 37, 115, 58, 32, 37, 100]⟩ 2 = some [(0, 115, false), (1, 100, false)] := by kernel_rfl
@[go_sem] theorem Tryf.fmt1r (w : World) : (FmtDoors.printed ⟨#[111, 99, 116, 101, 116, 115, 32, 97, 102, 116, 101, 114, 32, 105, 116, 115, 32, 37, 115, 58, 32, 37, 100]⟩ 2).run Tryf.prog w = .ok [(0, 115, false), (1, 100, false)] w := by kernel_rfl
-- format 2, 1 operand(s)
@[go_sem] theorem Tryf.fmt2 : FmtStop.printed? ⟨#[99, 117, 116, 32, 115, 104, 111, 114, 116, 32, 105, 110, 32, 105, 116, 115, 32, 37, 100, 45, 111, 99, 116, 101, 116, 32, 108, 101, 110, 103, 116, 104, 32, 102, 105, 101, 108, 100]⟩ 1 = some [(0, 100, false)] := by kernel_rfl
@[go_sem] theorem Tryf.fmt2r (w : World) : (FmtDoors.printed ⟨#[99, 117, 116, 32, 115, 104, 111, 114, 116, 32, 105, 110, 32, 105, 116, 115, 32, 37, 100, 45, 111, 99, 116, 101, 116, 32, 108, 101, 110, 103, 116, 104, 32, 102, 105, 101, 108, 100]⟩ 1).run Tryf.prog w = .ok [(0, 100, false)] w := by kernel_rfl
-- format 3, 2 operand(s)
@[go_sem] theorem Tryf.fmt3 : FmtStop.printed? ⟨#[108, 101, 110, 103, 116, 104, 32, 102, 105, 101, 108, 100, 32, 115, 97, 121, 115, 32, 37, 100, 32, 111, 99, 116, 101, 116, 115, 32, 98, 117, 116, 32, 116, 104, 101, 32, 100, 97, 116, 97, 32, 97, 102, 116, 101, 114, 32, 105, 116, 32, 104, 111, 108, 100, 115, 32, 37, 100]⟩ 2 = some [(0, 100, false), (1, 100, false)] := by kernel_rfl
@[go_sem] theorem Tryf.fmt3r (w : World) : (FmtDoors.printed ⟨#[108, 101, 110, 103, 116, 104, 32, 102, 105, 101, 108, 100, 32, 115, 97, 121, 115, 32, 37, 100, 32, 111, 99, 116, 101, 116, 115, 32, 98, 117, 116, 32, 116, 104, 101, 32, 100, 97, 116, 97, 32, 97, 102, 116, 101, 114, 32, 105, 116, 32, 104, 111, 108, 100, 115, 32, 37, 100]⟩ 2).run Tryf.prog w = .ok [(0, 100, false), (1, 100, false)] w := by kernel_rfl
-- format 4, 2 operand(s)
@[go_sem] theorem Tryf.fmt4 : FmtStop.printed? ⟨#[37, 115, 58, 32, 37, 118]⟩ 2 = some [(0, 115, false), (1, 118, false)] := by kernel_rfl
@[go_sem] theorem Tryf.fmt4r (w : World) : (FmtDoors.printed ⟨#[37, 115, 58, 32, 37, 118]⟩ 2).run Tryf.prog w = .ok [(0, 115, false), (1, 118, false)] w := by kernel_rfl

-- what each operand type reads as
def Tryf.shape9 : List UInt8 := [12, 6, 0, 0, 0, 0, 0, 0, 0, 115, 116, 114, 105, 110, 103]
@[go_sem] theorem Tryf.op9_115w (name : String) (x : ByteArray) (w : World) : (FmtStop.operand name true 115 false (.iface 9 (.string x))).run Tryf.prog w = .ok (Tryf.shape9, FmtStop.pack x.data.toList) w := by kernel_rfl
def Tryf.shape3 : List UInt8 := [5, 3, 0, 0, 0, 0, 0, 0, 0, 105, 110, 116]
@[go_sem] theorem Tryf.op3_100w (name : String) (x : Int) (w : World) : (FmtStop.operand name true 100 false (.iface 3 (.int .i64 x))).run Tryf.prog w = .ok (Tryf.shape3, Go.Extern.Stop.digits 8 (x % 2 ^ 64).toNat) w := by kernel_rfl
def Tryf.shape35 : List UInt8 := [9, 6, 0, 0, 0, 0, 0, 0, 0, 117, 105, 110, 116, 54, 52]
@[go_sem] theorem Tryf.op35_100w (name : String) (x : Int) (w : World) : (FmtStop.operand name true 100 false (.iface 35 (.int .u64 x))).run Tryf.prog w = .ok (Tryf.shape35, Go.Extern.Stop.digits 8 (x % 2 ^ 64).toNat) w := by kernel_rfl

-- the error type that fmt.errorf makes without a wrapping verb
@[go_sem] theorem Tryf.ptr55 (w : World) : (FmtStop.ptrTo "errors.errorString").run Tryf.prog w = .ok 55 w := by kernel_rfl
@[go_sem] theorem Tryf.elem55 (w : World) : (elemOf 55).run Tryf.prog w = .ok 57 w := by kernel_rfl
-- an error of that make as an operand: it reads as its type's name and its text, out of memory
theorem Tryf.opPlain55_118w (name : String) (a : Addr) (s : ByteArray) (w : World) (hc : w.cell? a = some (.string s)) :
    ∃ r, (FmtStop.operand name true 118 false (.iface 55 (.pointer (some a)))).run Tryf.prog w = .ok (r, s.data.toList) w := by
  have h1 : (typeStr 55).run Tryf.prog w = .ok Tryf.t55.str w := by kernel_rfl
  have d2 : Tryf.t55.desc = .pointer 57 := rfl
  have d3 : Tryf.t57.desc = .named "errors.errorString" 56 := rfl
  simp [FmtStop.operand, h1, d2, d3, run_load, hc]

end Go.Proofs
