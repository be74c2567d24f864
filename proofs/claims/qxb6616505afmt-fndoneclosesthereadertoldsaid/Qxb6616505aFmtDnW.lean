/-
  FnDoneClosesTheReader: the walk.
-/
import Derived.Test.Qxb6616505aFmtOwn
import Derived.WalkSmall
namespace Go.Proofs.Qxb6616505aFmt
open Go.RowKit Go.Extern.Stop Go.Stop Go.Extern

theorem dn_unfit (a : Option Addr) (n cap : Nat) (k : Int) (field : ByteArray) (w : World) (hn : n ≤ maxLen) (hs : field.size ≤ maxLen) (hfit : fitsB n field.size = false) :
    Calls Tryf.prog 6 #[.slice a n cap, .int .i64 k, .string field] w fun e w' => e = .returned (.bool true) ∧ Below w.heap.size w w' := by
  go_enter Tryf.func6, Tryf.ntmps6
  go_wp2_with fail
  refine (bytes20 a n cap field k w hn hs).mono ?_
  rintro e wx ⟨rfl, hw⟩
  rw [hw, hfit]; clear hw wx
  go_wp2
  go_ret
  exact ⟨rfl, Below.refl _ _⟩

theorem dn_longb (a : Option Addr) (n cap : Nat) (k : Int) (field : ByteArray) (w : World) (hn : n ≤ maxLen) (hs : field.size ≤ maxLen) (hfit : fitsB n field.size = true) (h1 : 65536 < n) :
    Calls Tryf.prog 6 #[.slice a n cap, .int .i64 k, .string field] w fun e w' => e = .returned (.bool true) ∧ Below w.heap.size w w' := by
  have g1 : (n : Int) > 65536 := by omega
  go_enter Tryf.func6, Tryf.ntmps6
  go_wp2_with fail
  refine (bytes20 a n cap field k w hn hs).mono ?_
  rintro e wx ⟨rfl, hw⟩
  rw [hw, hfit]; clear hw wx
  go_wp2
  go_ret
  exact ⟨rfl, Below.refl _ _⟩

theorem dn_longf (a : Option Addr) (n cap : Nat) (k : Int) (field : ByteArray) (w : World) (hn : n ≤ maxLen) (hs : field.size ≤ maxLen) (hfit : fitsB n field.size = true) (h1 : n ≤ 65536) (h2 : 65536 < field.size) :
    Calls Tryf.prog 6 #[.slice a n cap, .int .i64 k, .string field] w fun e w' => e = .returned (.bool true) ∧ Below w.heap.size w w' := by
  have g1 : ¬ (n : Int) > 65536 := by omega
  have g2 : (field.size : Int) > 65536 := by omega
  go_enter Tryf.func6, Tryf.ntmps6
  go_wp2_with fail
  refine (bytes20 a n cap field k w hn hs).mono ?_
  rintro e wx ⟨rfl, hw⟩
  rw [hw, hfit]; clear hw wx
  go_wp2
  go_ret
  exact ⟨rfl, Below.refl _ _⟩

theorem dn_neg (a : Option Addr) (n cap : Nat) (k : Int) (field : ByteArray) (w : World) (hn : n ≤ maxLen) (hs : field.size ≤ maxLen) (hfit : fitsB n field.size = true) (h1 : n ≤ 65536) (h2 : field.size ≤ 65536) (h3 : k < 0) :
    Calls Tryf.prog 6 #[.slice a n cap, .int .i64 k, .string field] w fun e w' => e = .returned (.bool true) ∧ Below w.heap.size w w' := by
  have g1 : ¬ (n : Int) > 65536 := by omega
  have g2 : ¬ (field.size : Int) > 65536 := by omega
  go_enter Tryf.func6, Tryf.ntmps6
  go_wp2_with fail
  refine (bytes20 a n cap field k w hn hs).mono ?_
  rintro e wx ⟨rfl, hw⟩
  rw [hw, hfit]; clear hw wx
  go_wp2
  go_ret
  exact ⟨rfl, Below.refl _ _⟩

set_option maxHeartbeats 400000 in
theorem dn_cut (F : Interp) (a : Option Addr) (cap : Nat) (bs : List Int) (k : Int) (field : ByteArray) (w : World) (hF : F.answers w.tape) (hin : Octs w a bs.length cap bs) (hfit : fitsB bs.length field.size = true)
    (hl : bs.length ≤ 65536) (hf : field.size ≤ 65536) (hk : (bs.length : Int) < k) :
    Calls Tryf.prog 6 #[.slice a bs.length cap, .int .i64 k, .string field] w fun e w' => e = .returned (.bool true) ∧ Below w.heap.size w w' := by
  have g1 : ¬ (bs.length : Int) > 65536 := by omega
  have g2 : ¬ (field.size : Int) > 65536 := by omega
  have g3 : ¬ k < 0 := by omega
  go_enter Tryf.func6, Tryf.ntmps6
  go_wp2_with fail
  refine (bytes20 a _ cap field k w (by unfold maxLen; omega) (by unfold maxLen; omega)).mono ?_
  rintro e wx ⟨rfl, hw⟩
  rw [hw, hfit]; clear hw wx
  go_wp2_with fail
  refine (clone_any a _ cap bs _ hin (by omega)).mono ?_
  rintro e w1 ⟨⟨a1, rfl, ho1⟩, hs1, hb1⟩
  go_wp2_with fail
  refine (clone_any a1 _ _ bs _ ho1.octs (by omega)).mono ?_
  rintro e w2 ⟨⟨a2, rfl, ho2⟩, hs2, hb2⟩
  go_wp2_with fail
  refine (newReader_own a1 w.heap.size bs _ (ho1.below hb2)).mono ?_
  rintro e w3 ⟨rfl, hrs, hb3, hlt3⟩
  have z1 := hb1.size
  have z2 := hb2.size
  have ho3 : Own w3 w.heap.size a1 bs := (ho1.below hb2).below hb3
  have hw3 : Own w3 w1.heap.size a2 bs := ho2.below hb3
  have hend : Below w.heap.size w w3 := (hb1.trans (hb2.mono z1)).trans (hb3.mono (by omega))
  have n1 : 0 < bs.length → w.heap.size ≠ w2.heap.size := fun h => by have := (ho1.1 h).2; omega
  have n2 : 0 < bs.length → w1.heap.size ≠ w2.heap.size := fun h => by have := (ho2.1 h).2; omega
  have n3 : w.heap.size ≤ w2.heap.size := by omega
  have n4 : w.heap.size ≤ w3.heap.size := by omega
  have hF3 := answers_below (answers_below (answers_below hF hb1) hb2) hb3
  clear ho3 hw3 n1 n2 ho1 ho2 hb1 hb2 hb3 hs1 hs2 hlt3 hin hF
  go_wp2_with fail
  refine (next_rs_cut F _ _ _ 0 field k w3 hF3 hrs (by omega)).mono ?_
  rintro e w4 ⟨rfl, ⟨a4, hrs4⟩, hu4⟩
  go_wp2_with fail
  refine (done_rs_err _ _ _ _ a4 w4 hrs4).mono ?_
  rintro e wx ⟨rfl, hw⟩
  rw [hw]; clear hw wx
  go_wp2_with fail
  refine (done_rs_err _ _ _ _ a4 w4 hrs4).mono ?_
  rintro e wx ⟨rfl, hw⟩
  rw [hw]; clear hw wx
  go_wp2_with fail
  refine (len_rs _ _ _ _ _ w4 hrs4).mono ?_
  rintro e wx ⟨rfl, hw⟩
  rw [hw, Nat.sub_zero]; clear hw wx
  go_wp2_with fail
  refine (uint8_rs_err _ _ _ _ a4 field w4 hrs4).mono ?_
  rintro e wx ⟨rfl, hw⟩
  rw [hw]; clear hw wx
  go_wp2_with fail
  refine (len_rs _ _ _ _ _ w4 hrs4).mono ?_
  rintro e wx ⟨rfl, hw⟩
  rw [hw, Nat.sub_zero]; clear hw wx
  go_wp2_with fail
  refine (done_rs_err _ _ _ _ a4 w4 hrs4).mono ?_
  rintro e wx ⟨rfl, hw⟩
  rw [hw]; clear hw wx
  go_wp2_with fail
  go_ret
  exact ⟨rfl, hend.trans (hu4.below n3 n4)⟩

set_option maxHeartbeats 400000 in
theorem dn_full (F : Interp) (a : Option Addr) (cap : Nat) (bs : List Int) (field : ByteArray) (w : World) (hF : F.answers w.tape) (hin : Octs w a bs.length cap bs) (hfit : fitsB bs.length field.size = true)
    (hl : bs.length ≤ 65536) (hf : field.size ≤ 65536)  :
    Calls Tryf.prog 6 #[.slice a bs.length cap, .int .i64 bs.length, .string field] w fun e w' => e = .returned (.bool true) ∧ Below w.heap.size w w' := by
  have g1 : ¬ (bs.length : Int) > 65536 := by omega
  have g2 : ¬ (field.size : Int) > 65536 := by omega
  have g3 : ¬ (bs.length : Int) < 0 := by omega
  go_enter Tryf.func6, Tryf.ntmps6
  go_wp2_with fail
  refine (bytes20 a _ cap field bs.length w (by unfold maxLen; omega) (by unfold maxLen; omega)).mono ?_
  rintro e wx ⟨rfl, hw⟩
  rw [hw, hfit]; clear hw wx
  go_wp2_with fail
  refine (clone_any a _ cap bs _ hin (by omega)).mono ?_
  rintro e w1 ⟨⟨a1, rfl, ho1⟩, hs1, hb1⟩
  go_wp2_with fail
  refine (clone_any a1 _ _ bs _ ho1.octs (by omega)).mono ?_
  rintro e w2 ⟨⟨a2, rfl, ho2⟩, hs2, hb2⟩
  go_wp2_with fail
  refine (newReader_own a1 w.heap.size bs _ (ho1.below hb2)).mono ?_
  rintro e w3 ⟨rfl, hrs, hb3, hlt3⟩
  have z1 := hb1.size
  have z2 := hb2.size
  have ho3 : Own w3 w.heap.size a1 bs := (ho1.below hb2).below hb3
  have hw3 : Own w3 w1.heap.size a2 bs := ho2.below hb3
  have hend : Below w.heap.size w w3 := (hb1.trans (hb2.mono z1)).trans (hb3.mono (by omega))
  have n1 : 0 < bs.length → w.heap.size ≠ w2.heap.size := fun h => by have := (ho1.1 h).2; omega
  have n2 : 0 < bs.length → w1.heap.size ≠ w2.heap.size := fun h => by have := (ho2.1 h).2; omega
  have n3 : w.heap.size ≤ w2.heap.size := by omega
  have n4 : w.heap.size ≤ w3.heap.size := by omega
  have hF3 := answers_below (answers_below (answers_below hF hb1) hb2) hb3
  clear ho3 hw3 n1 n2 ho1 ho2 hb1 hb2 hb3 hs1 hs2 hlt3 hin hF
  go_wp2_with fail
  refine (next_rs_ok _ _ _ 0 bs.length field w3 hrs (by omega)).mono ?_
  rintro e w4 ⟨⟨av, rfl, hav⟩, hrs4, hu4⟩
  rw [Nat.zero_add] at hrs4
  have hF4 := answers_upd hF3 hu4
  go_wp2_with fail
  refine (done_rs_nil _ _ _ w4 hrs4).mono ?_
  rintro e wx ⟨rfl, hw⟩
  rw [hw]; clear hw wx
  go_wp2_with fail
  refine (done_rs_nil _ _ _ w4 hrs4).mono ?_
  rintro e wx ⟨rfl, hw⟩
  rw [hw]; clear hw wx
  go_wp2_with fail
  refine (len_rs _ _ _ _ _ w4 hrs4).mono ?_
  rintro e wx ⟨rfl, hw⟩
  rw [hw, Nat.sub_self]; clear hw wx
  go_wp2_with fail
  refine (uint8_rs_cut F _ _ _ field w4 hF4 hrs4).mono ?_
  rintro e w5 ⟨rfl, ⟨a5, hrs5⟩, hu5⟩
  go_wp2_with fail
  refine (len_rs _ _ _ _ _ w5 hrs5).mono ?_
  rintro e wx ⟨rfl, hw⟩
  rw [hw, Nat.sub_self]; clear hw wx
  go_wp2_with fail
  refine (done_rs_err _ _ _ _ a5 w5 hrs5).mono ?_
  rintro e wx ⟨rfl, hw⟩
  rw [hw]; clear hw wx
  go_wp2_with fail
  go_ret
  exact ⟨rfl, hend.trans ((hu4.trans hu5).below n3 n4)⟩

set_option maxHeartbeats 400000 in
theorem dn_left (F : Interp) (a : Option Addr) (cap : Nat) (bs : List Int) (k : Nat) (field : ByteArray) (w : World) (hF : F.answers w.tape) (hin : Octs w a bs.length cap bs) (hfit : fitsB bs.length field.size = true)
    (hl : bs.length ≤ 65536) (hf : field.size ≤ 65536) (hk : k < bs.length) :
    Calls Tryf.prog 6 #[.slice a bs.length cap, .int .i64 k, .string field] w fun e w' => e = .returned (.bool true) ∧ Below w.heap.size w w' := by
  have g1 : ¬ (bs.length : Int) > 65536 := by omega
  have g2 : ¬ (field.size : Int) > 65536 := by omega
  have g3 : ¬ (k : Int) < 0 := by omega
  have g4 : ¬ (k : Int) > (bs.length : Int) := by omega
  have g5 : ((bs.length : Int) - (k : Int) != 0) = true := by simp; omega
  have g7 : decide (bs.length < k) = false := by simp; omega
  go_enter Tryf.func6, Tryf.ntmps6
  go_wp2_with fail
  refine (bytes20 a _ cap field k w (by unfold maxLen; omega) (by unfold maxLen; omega)).mono ?_
  rintro e wx ⟨rfl, hw⟩
  rw [hw, hfit]; clear hw wx
  go_wp2_with fail
  refine (clone_any a _ cap bs _ hin (by omega)).mono ?_
  rintro e w1 ⟨⟨a1, rfl, ho1⟩, hs1, hb1⟩
  go_wp2_with fail
  refine (clone_any a1 _ _ bs _ ho1.octs (by omega)).mono ?_
  rintro e w2 ⟨⟨a2, rfl, ho2⟩, hs2, hb2⟩
  go_wp2_with fail
  refine (newReader_own a1 w.heap.size bs _ (ho1.below hb2)).mono ?_
  rintro e w3 ⟨rfl, hrs, hb3, hlt3⟩
  have z1 := hb1.size
  have z2 := hb2.size
  have ho3 : Own w3 w.heap.size a1 bs := (ho1.below hb2).below hb3
  have hw3 : Own w3 w1.heap.size a2 bs := ho2.below hb3
  have hend : Below w.heap.size w w3 := (hb1.trans (hb2.mono z1)).trans (hb3.mono (by omega))
  have n1 : 0 < bs.length → w.heap.size ≠ w2.heap.size := fun h => by have := (ho1.1 h).2; omega
  have n2 : 0 < bs.length → w1.heap.size ≠ w2.heap.size := fun h => by have := (ho2.1 h).2; omega
  have n3 : w.heap.size ≤ w2.heap.size := by omega
  have n4 : w.heap.size ≤ w3.heap.size := by omega
  have hF3 := answers_below (answers_below (answers_below hF hb1) hb2) hb3
  clear ho3 hw3 n1 n2 ho1 ho2 hb1 hb2 hb3 hs1 hs2 hlt3 hin hF
  go_wp2_with fail
  refine (next_rs_ok _ _ _ 0 k field w3 hrs (by omega)).mono ?_
  rintro e w4 ⟨⟨av, rfl, hav⟩, hrs4, hu4⟩
  rw [Nat.zero_add] at hrs4
  have hF4 := answers_upd hF3 hu4
  go_wp2_with fail
  refine (done_rs_left F _ _ _ _ w4 hF4 hrs4 hk).mono ?_
  rintro e w5 ⟨a5, rfl, hrs5, hu5⟩
  go_wp2_with fail
  refine (done_rs_err _ _ _ _ a5 w5 hrs5).mono ?_
  rintro e wx ⟨rfl, hw⟩
  rw [hw]; clear hw wx
  go_wp2_with fail
  refine (len_rs _ _ _ _ _ w5 hrs5).mono ?_
  rintro e wx ⟨rfl, hw⟩
  rw [hw]; clear hw wx
  go_wp2_with fail
  refine (uint8_rs_err _ _ _ _ a5 field w5 hrs5).mono ?_
  rintro e wx ⟨rfl, hw⟩
  rw [hw]; clear hw wx
  go_wp2_with fail
  refine (len_rs _ _ _ _ _ w5 hrs5).mono ?_
  rintro e wx ⟨rfl, hw⟩
  rw [hw]; clear hw wx
  go_wp2_with fail
  refine (done_rs_err _ _ _ _ a5 w5 hrs5).mono ?_
  rintro e wx ⟨rfl, hw⟩
  rw [hw]; clear hw wx
  have g6 : (((bs.length - k : Nat) : Int) == (bs.length : Int) - (k : Int)) = true := by simp; omega
  go_wp2_with fail
  go_ret
  exact ⟨rfl, hend.trans ((hu4.trans hu5).below n3 n4)⟩

theorem dn_walk (F : Interp) (a : Option Addr) (n cap : Nat) (bs : List Int) (k : Int) (field : ByteArray) (w : World) (hF : F.answers w.tape) (hin : Octs w a n cap bs) (hn : n ≤ maxLen) (hs : field.size ≤ maxLen) :
    Calls Tryf.prog 6 #[.slice a n cap, .int .i64 k, .string field] w fun e w' => e = .returned (.bool true) ∧ Below w.heap.size w w' := by
  cases hfit : fitsB n field.size with
  | false => exact dn_unfit a n cap k field w hn hs hfit
  | true =>
    rcases Nat.lt_or_ge 65536 n with h1 | h1
    · exact dn_longb a n cap k field w hn hs hfit h1
    rcases Nat.lt_or_ge 65536 field.size with h2 | h2
    · exact dn_longf a n cap k field w hn hs hfit h1 h2
    rcases Int.lt_or_le k 0 with h3 | h3
    · exact dn_neg a n cap k field w hn hs hfit h1 h2 h3
    obtain ⟨k, rfl⟩ := Int.eq_ofNat_of_zero_le h3
    obtain rfl : bs.length = n := hin.1
    rcases Nat.lt_or_ge bs.length k with h4 | h4
    · exact dn_cut F a cap bs k field w hF hin hfit h1 h2 (by omega)
    rcases Nat.lt_or_ge k bs.length with h5 | h5
    · exact dn_left F a cap bs k field w hF hin hfit h1 h2 h5
    · obtain rfl : k = bs.length := by omega
      exact dn_full F a cap bs field w hF hin hfit h1 h2

end Go.Proofs.Qxb6616505aFmt
