/-
  FnLenReadsTheRest: the walk.
-/
import Derived.Test.Qxb6616505aFmtOwn
import Derived.WalkSmall
namespace Go.Proofs.Qxb6616505aFmt
open Go.RowKit Go.Extern.Stop Go.Stop Go.Extern

set_option maxHeartbeats 400000 in
theorem len_cut (F : Interp) (a : Option Addr) (cap : Nat) (bs : List Int) (k : Int) (field : ByteArray) (w : World) (hF : F.answers w.tape) (hin : Octs w a bs.length cap bs) (hfit : fitsB bs.length field.size = true)
    (hl : bs.length ≤ 65536) (hf : field.size ≤ 65536) (hk : (bs.length : Int) < k) :
    Calls Tryf.prog 5 #[.slice a bs.length cap, .int .i64 k, .string field] w fun e w' => e = .returned (.bool true) ∧ Below w.heap.size w w' := by
  have hq := eql22
  have g1 : ¬ (bs.length : Int) > 65536 := by omega
  have g2 : ¬ (field.size : Int) > 65536 := by omega
  have g3 : ¬ k < 0 := by omega
  go_enter Tryf.func5, Tryf.ntmps5
  go_wp2_with fail
  refine (bytes18 a _ cap field k w (by unfold maxLen; omega) (by unfold maxLen; omega)).mono ?_
  rintro e wx ⟨rfl, hw⟩
  rw [hw, hfit]; clear hw wx
  go_wp2_with fail
  refine (clone_any a _ cap bs _ hin (by omega)).mono ?_
  rintro e w1 ⟨⟨a1, rfl, ho1⟩, hs1, hb1⟩
  go_wp2_with fail
  refine (clone_any a1 _ _ bs _ ho1.octs (by omega)).mono ?_
  rintro e w2 ⟨⟨a2, rfl, ho2⟩, hs2, hb2⟩
  go_wp2_with fail
  refine (newReader_own a1 w.heap.size bs _ (ho1.below hb2)).mono ?_
  rintro e w3 ⟨rfl, hrs, hb3, hlt3⟩
  have hF3 := answers_below (answers_below (answers_below hF hb1) hb2) hb3
  go_wp2_with fail
  refine (next_rs_cut F _ _ _ 0 field k w3 hF3 hrs (by omega)).mono ?_
  rintro e w4 ⟨rfl, ⟨a4, hrs4⟩, hu4⟩
  go_wp2_with fail
  refine (len_rs _ _ _ _ _ w4 hrs4).mono ?_
  rintro e wx ⟨rfl, hw⟩
  rw [hw]; clear hw wx
  go_wp2_with fail
  refine (next_rs_err _ _ _ _ a4 field _ w4 hrs4).mono ?_
  rintro e wx ⟨rfl, hw⟩
  rw [hw]; clear hw wx
  go_wp2_with fail
  refine (len_rs _ _ _ _ _ w4 hrs4).mono ?_
  rintro e wx ⟨rfl, hw⟩
  rw [hw]; clear hw wx
  go_wp2_with fail
  refine (done_rs_err _ _ _ _ a4 w4 hrs4).mono ?_
  rintro e wx ⟨rfl, hw⟩
  rw [hw]; clear hw wx
  go_wp2_with fail
  go_ret
  have z1 := hb1.size
  have z2 := hb2.size
  exact ⟨rfl, ((hb1.trans (hb2.mono z1)).trans (hb3.mono (by omega))).trans (hu4.below (by omega) (by omega))⟩

set_option maxHeartbeats 400000 in
theorem len_ok (a : Option Addr) (cap : Nat) (bs : List Int) (k : Nat) (field : ByteArray) (w : World) (hin : Octs w a bs.length cap bs) (hfit : fitsB bs.length field.size = true)
    (hl : bs.length ≤ 65536) (hf : field.size ≤ 65536) (hk : k ≤ bs.length) :
    Calls Tryf.prog 5 #[.slice a bs.length cap, .int .i64 k, .string field] w fun e w' => e = .returned (.bool true) ∧ Below w.heap.size w w' := by
  have hq := eql22
  have g1 : ¬ (bs.length : Int) > 65536 := by omega
  have g2 : ¬ (field.size : Int) > 65536 := by omega
  have g3 : ¬ (k : Int) < 0 := by omega
  have g4 : ¬ (k : Int) > (bs.length : Int) := by omega
  go_enter Tryf.func5, Tryf.ntmps5
  go_wp2_with fail
  refine (bytes18 a _ cap field k w (by unfold maxLen; omega) (by unfold maxLen; omega)).mono ?_
  rintro e wx ⟨rfl, hw⟩
  rw [hw, hfit]; clear hw wx
  go_wp2_with fail
  refine (clone_any a _ cap bs _ hin (by omega)).mono ?_
  rintro e w1 ⟨⟨a1, rfl, ho1⟩, hs1, hb1⟩
  go_wp2_with fail
  refine (clone_any a1 _ _ bs _ ho1.octs (by omega)).mono ?_
  rintro e w2 ⟨⟨a2, rfl, ho2⟩, hs2, hb2⟩
  go_wp2_with fail
  refine (newReader_own a1 w.heap.size bs _ (ho1.below hb2)).mono ?_
  rintro e w3 ⟨rfl, hrs, hb3, hlt3⟩
  go_wp2_with fail
  refine (next_rs_ok _ _ _ 0 k field w3 hrs (by omega)).mono ?_
  rintro e w4 ⟨⟨av, rfl, hav⟩, hrs4, hu4⟩
  rw [Nat.zero_add] at hrs4
  go_wp2_with fail
  refine (len_rs _ _ _ _ _ w4 hrs4).mono ?_
  rintro e wx ⟨rfl, hw⟩
  rw [hw]; clear hw wx
  go_wp2_with fail
  refine (next_rs_ok _ _ _ k (bs.length - k) field w4 hrs4 (by omega)).mono ?_
  rintro e w5 ⟨⟨av5, rfl, hav5⟩, hrs5, hu5⟩
  rw [show k + (bs.length - k) = bs.length by omega] at hrs5
  go_wp2_with fail
  refine (len_rs _ _ _ _ _ w5 hrs5).mono ?_
  rintro e wx ⟨rfl, hw⟩
  rw [hw, Nat.sub_self]; clear hw wx
  go_wp2_with fail
  refine (done_rs_nil _ _ _ w5 hrs5).mono ?_
  rintro e wx ⟨rfl, hw⟩
  rw [hw]; clear hw wx
  have z1 := hb1.size
  have z2 := hb2.size
  have ho5 : Own w5 w.heap.size a1 bs := (((ho1.below hb2).below hb3).upd hu4 (fun h => by have := (ho1.1 h).2; omega)).upd hu5 (fun h => by have := (ho1.1 h).2; omega)
  have hw5 : Own w5 w1.heap.size a2 bs := ((ho2.below hb3).upd hu4 (fun h => by have := (ho2.1 h).2; omega)).upd hu5 (fun h => by have := (ho2.1 h).2; omega)
  have hend : Below w.heap.size w w5 := (((hb1.trans (hb2.mono z1)).trans (hb3.mono (by omega))).trans (hu4.below (by omega) (by omega))).trans (hu5.below (by omega) (by have := hu4.size; omega))
  clear hrs hrs4 hrs5 hu4 hu5 ho1 ho2 hb1 hb2 hb3 hs1 hs2 hlt3 hin
  go_wp2_with fail
  go_loopw [13] (fun i wr => ∃ j : Nat, j ≤ k ∧ i = .int .i64 j ∧ Below w5.heap.size w5 wr) (fun i _ => k - (intOf i).toNat)
  case atStart => exact ⟨0, Nat.zero_le _, rfl, Below.refl _ _⟩
  case round =>
    obtain ⟨j, hj, rfl, hbel⟩ := hrel
    by_cases hlt : j < k
    · obtain ⟨ha2, hlt2⟩ := hw5.1 (by omega)
      subst ha2
      obtain rfl := hav (by omega)
      have c1 := (ho5.below hbel).2.2 j (by omega)
      have c2 := (hw5.below hbel).2.2 j (by omega)
      generalize bs.getD j 0 = y at c1 c2
      have j1 : (j : Int) < (k : Int) := by omega
      have j2 : (j : Int) < (bs.length : Int) := by omega
      clear ho5 hw5 hav hav5
      go_wp2_with fail
      go_quiet (fail)
      go_wp2
      go_roundw
      case rel => exact ⟨j + 1, by omega, by go_num, below_drewN hbel _⟩
      case measure => simp [intOf]; omega
    · go_wp2
      go_loopw [14] (fun i wq => ∃ j : Nat, j ≤ bs.length - k ∧ i = .int .i64 j ∧ Below w5.heap.size w5 wq) (fun i _ => (bs.length - k) - (intOf i).toNat)
      case atStart => exact ⟨0, Nat.zero_le _, rfl, hbel⟩
      case round =>
        obtain ⟨m, hm, rfl, hbel2⟩ := hrel
        by_cases hlt2 : m < bs.length - k
        · obtain ⟨ha2, hlt3⟩ := hw5.1 (by omega)
          subst ha2
          obtain rfl := hav5 (by omega)
          have c1 := (ho5.below hbel2).2.2 (k + m) (by omega)
          have c2 := (hw5.below hbel2).2.2 (k + m) (by omega)
          generalize bs.getD (k + m) 0 = y at c1 c2
          have j1 : (m : Int) < ((bs.length - k : Nat) : Int) := by omega
          have j2 : (k : Int) + (m : Int) < (bs.length : Int) := by omega
          clear ho5 hw5 hav hav5
          go_wp2_with fail
          go_quiet (fail)
          go_wp2
          go_roundw
          case rel => exact ⟨m + 1, by omega, by go_num, below_drewN hbel2 _⟩
          case measure => simp [intOf]; omega
        · go_wp2
          go_ret
          exact ⟨rfl, hend.trans (hbel2.mono hend.size)⟩

theorem len_unfit (a : Option Addr) (n cap : Nat) (k : Int) (field : ByteArray) (w : World) (hn : n ≤ maxLen) (hs : field.size ≤ maxLen) (hfit : fitsB n field.size = false) :
    Calls Tryf.prog 5 #[.slice a n cap, .int .i64 k, .string field] w fun e w' => e = .returned (.bool true) ∧ Below w.heap.size w w' := by
  go_enter Tryf.func5, Tryf.ntmps5
  go_wp2_with fail
  refine (bytes18 a n cap field k w hn hs).mono ?_
  rintro e wx ⟨rfl, hw⟩
  rw [hw, hfit]; clear hw wx
  go_wp2
  go_ret
  exact ⟨rfl, Below.refl _ _⟩

theorem len_longb (a : Option Addr) (n cap : Nat) (k : Int) (field : ByteArray) (w : World) (hn : n ≤ maxLen) (hs : field.size ≤ maxLen) (hfit : fitsB n field.size = true) (h1 : 65536 < n) :
    Calls Tryf.prog 5 #[.slice a n cap, .int .i64 k, .string field] w fun e w' => e = .returned (.bool true) ∧ Below w.heap.size w w' := by
  have g1 : (n : Int) > 65536 := by omega
  go_enter Tryf.func5, Tryf.ntmps5
  go_wp2_with fail
  refine (bytes18 a n cap field k w hn hs).mono ?_
  rintro e wx ⟨rfl, hw⟩
  rw [hw, hfit]; clear hw wx
  go_wp2
  go_ret
  exact ⟨rfl, Below.refl _ _⟩

theorem len_longf (a : Option Addr) (n cap : Nat) (k : Int) (field : ByteArray) (w : World) (hn : n ≤ maxLen) (hs : field.size ≤ maxLen) (hfit : fitsB n field.size = true) (h1 : n ≤ 65536) (h2 : 65536 < field.size) :
    Calls Tryf.prog 5 #[.slice a n cap, .int .i64 k, .string field] w fun e w' => e = .returned (.bool true) ∧ Below w.heap.size w w' := by
  have g1 : ¬ (n : Int) > 65536 := by omega
  have g2 : (field.size : Int) > 65536 := by omega
  go_enter Tryf.func5, Tryf.ntmps5
  go_wp2_with fail
  refine (bytes18 a n cap field k w hn hs).mono ?_
  rintro e wx ⟨rfl, hw⟩
  rw [hw, hfit]; clear hw wx
  go_wp2
  go_ret
  exact ⟨rfl, Below.refl _ _⟩

theorem len_neg (a : Option Addr) (n cap : Nat) (k : Int) (field : ByteArray) (w : World) (hn : n ≤ maxLen) (hs : field.size ≤ maxLen) (hfit : fitsB n field.size = true) (h1 : n ≤ 65536) (h2 : field.size ≤ 65536) (h3 : k < 0) :
    Calls Tryf.prog 5 #[.slice a n cap, .int .i64 k, .string field] w fun e w' => e = .returned (.bool true) ∧ Below w.heap.size w w' := by
  have g1 : ¬ (n : Int) > 65536 := by omega
  have g2 : ¬ (field.size : Int) > 65536 := by omega
  go_enter Tryf.func5, Tryf.ntmps5
  go_wp2_with fail
  refine (bytes18 a n cap field k w hn hs).mono ?_
  rintro e wx ⟨rfl, hw⟩
  rw [hw, hfit]; clear hw wx
  go_wp2
  go_ret
  exact ⟨rfl, Below.refl _ _⟩

theorem len_walk (F : Interp) (a : Option Addr) (n cap : Nat) (bs : List Int) (k : Int) (field : ByteArray) (w : World) (hF : F.answers w.tape) (hin : Octs w a n cap bs) (hn : n ≤ maxLen) (hs : field.size ≤ maxLen) :
    Calls Tryf.prog 5 #[.slice a n cap, .int .i64 k, .string field] w fun e w' => e = .returned (.bool true) ∧ Below w.heap.size w w' := by
  cases hfit : fitsB n field.size with
  | false => exact len_unfit a n cap k field w hn hs hfit
  | true =>
    rcases Nat.lt_or_ge 65536 n with h1 | h1
    · exact len_longb a n cap k field w hn hs hfit h1
    rcases Nat.lt_or_ge 65536 field.size with h2 | h2
    · exact len_longf a n cap k field w hn hs hfit h1 h2
    rcases Int.lt_or_le k 0 with h3 | h3
    · exact len_neg a n cap k field w hn hs hfit h1 h2 h3
    obtain ⟨k, rfl⟩ := Int.eq_ofNat_of_zero_le h3
    obtain rfl : bs.length = n := hin.1
    rcases Nat.lt_or_ge bs.length k with h4 | h4
    · exact len_cut F a cap bs k field w hF hin hfit h1 h2 (by omega)
    · exact len_ok a cap bs k field w hin hfit h1 h2 h4

end Go.Proofs.Qxb6616505aFmt
