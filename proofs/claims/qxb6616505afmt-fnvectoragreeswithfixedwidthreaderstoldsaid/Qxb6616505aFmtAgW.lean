/-
  FnVectorAgreesWithFixedWidthReaders: the walk, whole.
-/
import Derived.Test.Qxb6616505aFmtAgA
import Derived.Test.Qxb6616505aFmtAgB
import Derived.Test.Qxb6616505aFmtAgC
namespace Go.Proofs.Qxb6616505aFmt
open Go.RowKit Go.Extern.Stop Go.Stop Go.Extern

theorem ag_walk (F : Interp) (a : Option Addr) (n cap : Nat) (bs : List Int) (k : Int) (field : ByteArray) (w : World) (hF : F.answers w.tape) (hin : Octs w a n cap bs) (hn : n ≤ maxLen) (hs : field.size ≤ maxLen) (ho : Oct bs) :
    Calls Tryf.prog 8 #[.slice a n cap, .string field, .int .i64 k] w fun e w' => e = .returned (.bool true) ∧ Below w.heap.size w w' := by
  cases hfit : fitsB n field.size with
  | false => exact ag_unfit a n cap k field w hn hs hfit
  | true =>
    rcases Nat.lt_or_ge 65536 n with h1 | h1
    · exact ag_longb a n cap k field w hn hs hfit h1
    rcases Nat.lt_or_ge 65536 field.size with h2 | h2
    · exact ag_longf a n cap k field w hn hs hfit h1 h2
    rcases Int.lt_or_le k 0 with h3 | h3
    · exact ag_neg a n cap k field w hn hs hfit h1 h2 h3
    rcases Int.lt_or_le 8 k with h8 | h8
    · exact ag_big a n cap k field w hn hs hfit h1 h2 h8
    obtain ⟨k, rfl⟩ := Int.eq_ofNat_of_zero_le h3
    obtain rfl : bs.length = n := hin.1
    rcases Nat.lt_or_ge bs.length k with h4 | h4
    · exact ag_cut F a cap bs k field w hF hin hfit h1 h2 (by omega) ho h4
    rcases Int.lt_or_le ((bs.length : Int) - k) (be (bs.take k)) with h5 | h5
    · exact ag_long F a cap bs k field w hF hin hfit h1 h2 (by omega) ho h4 h5
    · exact ag_ok F a cap bs k field w hF hin hfit h1 h2 (by omega) ho h4 h5

end Go.Proofs.Qxb6616505aFmt
