/-
  fmt.Errorf (function 26) by its contract, a theorem a format: it hands back a new error, never nil; one new block, one draw. What its text is hangs on the tape and is not said.
-/
import Derived.Test.Qxb6616505aFmtFacts
import Derived.WalkSpells
import Derived.WalkLawsBesides
namespace Go.Proofs.Qxb6616505aFmt
open Go.RowKit Go.Extern.Stop Go.Stop Go.Extern

/-- What a call of fmt.Errorf leaves: the world with one new block, the error's text in it, and one draw. -/
def Made (w w' : World) : Prop := ∃ s : ByteArray, w' = (w.alloc (.cells #[.string s] 57)).drew

theorem errorf0 (F : Interp) (x0 : ByteArray) (blk : Nat) (w : World) (hF : F.answers w.tape) (hc0 : w.cell? ⟨blk, 0, none⟩ = some (.iface 9 (.string x0))) :
    Calls Tryf.prog 26 #[.string ⟨#[99, 117, 116, 32, 115, 104, 111, 114, 116, 32, 105, 110, 32, 105, 116, 115, 32, 37, 115]⟩, .slice (some ⟨blk, 0, none⟩) 1 1] w fun e w' =>
      e = .returned (.iface 55 (.pointer (some ⟨w.heap.size, 0, none⟩))) ∧ Made w w' := by
  have hF' := answers_open hF
  go_enter Tryf.func26, Tryf.ntmps26
  go_wp2
  go_ret
  exact ⟨rfl, _, rfl⟩

theorem errorf1 (F : Interp) (x0 : ByteArray) (x1 : Int) (blk : Nat) (w : World) (hF : F.answers w.tape) (hc0 : w.cell? ⟨blk, 0, none⟩ = some (.iface 9 (.string x0))) (hc1 : w.cell? ⟨blk, 1, none⟩ = some (.iface 3 (.int .i64 x1))) :
    Calls Tryf.prog 26 #[.string ⟨#[111, 99, 116, 101, 116, 115, 32, 97, 102, 116, 101, 114, 32, 105, 116, 115, 32, 37, 115, 58, 32, 37, 100]⟩, .slice (some ⟨blk, 0, none⟩) 2 2] w fun e w' =>
      e = .returned (.iface 55 (.pointer (some ⟨w.heap.size, 0, none⟩))) ∧ Made w w' := by
  have hF' := answers_open hF
  go_enter Tryf.func26, Tryf.ntmps26
  go_wp2
  go_ret
  exact ⟨rfl, _, rfl⟩

theorem errorf2 (F : Interp) (x0 : Int) (blk : Nat) (w : World) (hF : F.answers w.tape) (hc0 : w.cell? ⟨blk, 0, none⟩ = some (.iface 3 (.int .i64 x0))) :
    Calls Tryf.prog 26 #[.string ⟨#[99, 117, 116, 32, 115, 104, 111, 114, 116, 32, 105, 110, 32, 105, 116, 115, 32, 37, 100, 45, 111, 99, 116, 101, 116, 32, 108, 101, 110, 103, 116, 104, 32, 102, 105, 101, 108, 100]⟩, .slice (some ⟨blk, 0, none⟩) 1 1] w fun e w' =>
      e = .returned (.iface 55 (.pointer (some ⟨w.heap.size, 0, none⟩))) ∧ Made w w' := by
  have hF' := answers_open hF
  go_enter Tryf.func26, Tryf.ntmps26
  go_wp2
  go_ret
  exact ⟨rfl, _, rfl⟩

theorem errorf3 (F : Interp) (x0 : Int) (x1 : Int) (blk : Nat) (w : World) (hF : F.answers w.tape) (hc0 : w.cell? ⟨blk, 0, none⟩ = some (.iface 35 (.int .u64 x0))) (hc1 : w.cell? ⟨blk, 1, none⟩ = some (.iface 3 (.int .i64 x1))) :
    Calls Tryf.prog 26 #[.string ⟨#[108, 101, 110, 103, 116, 104, 32, 102, 105, 101, 108, 100, 32, 115, 97, 121, 115, 32, 37, 100, 32, 111, 99, 116, 101, 116, 115, 32, 98, 117, 116, 32, 116, 104, 101, 32, 100, 97, 116, 97, 32, 97, 102, 116, 101, 114, 32, 105, 116, 32, 104, 111, 108, 100, 115, 32, 37, 100]⟩, .slice (some ⟨blk, 0, none⟩) 2 2] w fun e w' =>
      e = .returned (.iface 55 (.pointer (some ⟨w.heap.size, 0, none⟩))) ∧ Made w w' := by
  have hF' := answers_open hF
  go_enter Tryf.func26, Tryf.ntmps26
  go_wp2
  go_ret
  exact ⟨rfl, _, rfl⟩

theorem errorf4 (F : Interp) (x0 : ByteArray) (a1 : Addr) (blk : Nat) (w : World) (hF : F.answers w.tape) (s1 : ByteArray) (hs : w.cell? a1 = some (.string s1)) (hc0 : w.cell? ⟨blk, 0, none⟩ = some (.iface 9 (.string x0))) (hc1 : w.cell? ⟨blk, 1, none⟩ = some (.iface 55 (.pointer (some a1)))) :
    Calls Tryf.prog 26 #[.string ⟨#[37, 115, 58, 32, 37, 118]⟩, .slice (some ⟨blk, 0, none⟩) 2 2] w fun e w' =>
      e = .returned (.iface 55 (.pointer (some ⟨w.heap.size, 0, none⟩))) ∧ Made w w' := by
  have hF' := answers_open hF
  obtain ⟨r, hop⟩ := Tryf.opPlain55_118w "fmt.errorf" a1 s1 w hs
  go_enter Tryf.func26, Tryf.ntmps26
  go_wp2
  go_ret
  exact ⟨rfl, _, rfl⟩

end Go.Proofs.Qxb6616505aFmt
