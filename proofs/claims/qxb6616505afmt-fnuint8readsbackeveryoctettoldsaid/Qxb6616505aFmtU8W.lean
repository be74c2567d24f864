/-
  FnUint8ReadsBackEveryOctet: the walk.
-/
import Derived.Test.Qxb6616505aFmtOwn
import Derived.WalkSmall
namespace Go.Proofs.Qxb6616505aFmt
open Go.RowKit Go.Extern.Stop Go.Stop Go.Extern

theorem u8_unfit (a : Option Addr) (n cap : Nat) (field : ByteArray) (w : World) (hn : n ≤ maxLen) (hs : field.size ≤ maxLen) (hfit : fitsB n field.size = false) :
    Calls Tryf.prog 3 #[.slice a n cap, .string field] w fun e w' => e = .returned (.bool true) ∧ Below w.heap.size w w' := by
  go_enter Tryf.func3, Tryf.ntmps3
  go_wp2_with fail
  refine (bytes9 a n cap field w hn hs).mono ?_
  rintro e wx ⟨rfl, hw⟩
  rw [hw, hfit]; clear hw wx
  go_wp2
  go_ret
  exact ⟨rfl, Below.refl _ _⟩

theorem u8_longb (a : Option Addr) (n cap : Nat) (field : ByteArray) (w : World) (hn : n ≤ maxLen) (hs : field.size ≤ maxLen) (hfit : fitsB n field.size = true) (h1 : 65536 < n) :
    Calls Tryf.prog 3 #[.slice a n cap, .string field] w fun e w' => e = .returned (.bool true) ∧ Below w.heap.size w w' := by
  have g1 : (n : Int) > 65536 := by omega
  go_enter Tryf.func3, Tryf.ntmps3
  go_wp2_with fail
  refine (bytes9 a n cap field w hn hs).mono ?_
  rintro e wx ⟨rfl, hw⟩
  rw [hw, hfit]; clear hw wx
  go_wp2
  go_ret
  exact ⟨rfl, Below.refl _ _⟩

theorem u8_longf (a : Option Addr) (n cap : Nat) (field : ByteArray) (w : World) (hn : n ≤ maxLen) (hs : field.size ≤ maxLen) (hfit : fitsB n field.size = true) (h1 : n ≤ 65536) (h2 : 65536 < field.size) :
    Calls Tryf.prog 3 #[.slice a n cap, .string field] w fun e w' => e = .returned (.bool true) ∧ Below w.heap.size w w' := by
  have g1 : ¬ (n : Int) > 65536 := by omega
  have g2 : (field.size : Int) > 65536 := by omega
  go_enter Tryf.func3, Tryf.ntmps3
  go_wp2_with fail
  refine (bytes9 a n cap field w hn hs).mono ?_
  rintro e wx ⟨rfl, hw⟩
  rw [hw, hfit]; clear hw wx
  go_wp2
  go_ret
  exact ⟨rfl, Below.refl _ _⟩


set_option maxHeartbeats 400000 in
theorem u8_main (F : Interp) (a : Option Addr) (cap : Nat) (bs : List Int) (field : ByteArray) (w : World) (hF : F.answers w.tape) (hin : Octs w a bs.length cap bs) (hfit : fitsB bs.length field.size = true)
    (hl : bs.length ≤ 65536) (hf : field.size ≤ 65536) :
    Calls Tryf.prog 3 #[.slice a bs.length cap, .string field] w fun e w' => e = .returned (.bool true) ∧ Below w.heap.size w w' := by
  have g1 : ¬ (bs.length : Int) > 65536 := by omega
  have g2 : ¬ (field.size : Int) > 65536 := by omega
  go_enter Tryf.func3, Tryf.ntmps3
  go_wp2_with fail
  refine (bytes9 a _ cap field w (by unfold maxLen; omega) (by unfold maxLen; omega)).mono ?_
  rintro e wx ⟨rfl, hw⟩
  rw [hw, hfit]; clear hw wx
  go_wp2_with fail
  refine (clone_any a _ cap bs _ hin (by omega)).mono ?_
  rintro e w1 ⟨⟨a1, rfl, ho1⟩, hs1, hb1⟩
  go_wp2_with fail
  refine (clone_any a1 _ _ bs _ ho1.octs (by omega)).mono ?_
  rintro e w2 ⟨⟨a2, rfl, ho2⟩, hs2, hb2⟩
  go_wp2_with fail
  refine (newReader_own a1 w.heap.size bs _ (ho1.below hb2)).mono ?_
  rintro e w3 ⟨rfl, hrs, hb3, hlt3⟩
  have z1 := hb1.size
  have z2 := hb2.size
  have hF3 := answers_below (answers_below (answers_below hF hb1) hb2) hb3
  have ho3 : Own w3 w.heap.size a1 bs := (ho1.below hb2).below hb3
  have hw3 : Own w3 w1.heap.size a2 bs := ho2.below hb3
  have hend : Below w.heap.size w w3 := (hb1.trans (hb2.mono z1)).trans (hb3.mono (by omega))
  have n1 : 0 < bs.length → w.heap.size ≠ w2.heap.size := fun h => by have := (ho1.1 h).2; omega
  have n2 : 0 < bs.length → w1.heap.size ≠ w2.heap.size := fun h => by have := (ho2.1 h).2; omega
  have n3 : w.heap.size ≤ w2.heap.size := by omega
  have n4 : w.heap.size ≤ w3.heap.size := by omega
  clear ho1 ho2 hb1 hb2 hb3 hs1 hs2 hlt3 hin hF
  go_wp2_with fail
  go_loopw [7] (fun i wr => ∃ j : Nat, j ≤ bs.length ∧ i = .int .i64 j ∧ RS wr w2.heap.size w.heap.size bs.length j .nilIface ∧ Upd w2.heap.size w3 wr) (fun i _ => bs.length - (intOf i).toNat)
  case atStart => exact ⟨0, Nat.zero_le _, rfl, hrs, Upd.refl _ _⟩
  case round =>
    obtain ⟨j, hj, rfl, hrs', hu⟩ := hrel
    by_cases hlt : j < bs.length
    · obtain ⟨ha2, hlt2⟩ := hw3.1 (by omega)
      subst ha2
      have c1 := (ho3.upd hu n1).2.2 j (by omega)
      have c2 := (hw3.upd hu n2).2.2 j (by omega)
      generalize bs.getD j 0 = y at c1 c2
      have j1 : (j : Int) < (bs.length : Int) := by omega
      have hne := n1 (by omega)
      have hne2 := n2 (by omega)
      have hblt := World.block_lt_of_cell? _ _ c2
      clear ho3 hw3 n1 n2
      go_wp2_with fail
      refine (len_rs _ _ _ _ _ wr hrs').mono ?_
      rintro e wx ⟨rfl, hw⟩
      rw [hw]; clear hw wx
      go_wp2_with fail
      go_region_held3 (fun w' => w'.cell? ⟨w1.heap.size, j, none⟩ = some (.int .u8 y)) (first | (go_keep; done) | exact (hu4.cell (p := ⟨w1.heap.size, j, none⟩) hblt hne2).trans c2)
        ((go_at_call 13; refine (uint8_rs_ok _ _ _ j y field _ hrs'.drew hlt hne c1).mono ?_; rintro e w4 ⟨rfl, hrs4, hu4⟩))
      all_goals go_wp2
      go_roundw
      case rel => exact ⟨j + 1, by omega, by go_num, by assumption, hu.drew.trans (by assumption)⟩
      case measure => simp [intOf]; omega
    · obtain rfl : j = bs.length := by omega
      go_wp2_with fail
      refine (len_rs _ _ _ _ _ wr hrs').mono ?_
      rintro e wx ⟨rfl, hw⟩
      rw [hw, Nat.sub_self]; clear hw wx
      go_wp2_with fail
      refine (done_rs_nil _ _ _ wr hrs').mono ?_
      rintro e wx ⟨rfl, hw⟩
      rw [hw]; clear hw wx
      go_wp2_with fail
      refine (uint8_rs_cut F _ _ _ field wr (answers_upd hF3 hu) hrs').mono ?_
      rintro e w4 ⟨rfl, ⟨a4, hrs4⟩, hu4⟩
      go_wp2_with fail
      refine (len_rs _ _ _ _ _ w4 hrs4).mono ?_
      rintro e wx ⟨rfl, hw⟩
      rw [hw, Nat.sub_self]; clear hw wx
      go_wp2_with fail
      refine (done_rs_err _ _ _ _ a4 w4 hrs4).mono ?_
      rintro e wx ⟨rfl, hw⟩
      rw [hw]; clear hw wx
      go_wp2_with fail
      go_ret
      exact ⟨rfl, hend.trans ((hu.trans hu4).below n3 n4)⟩

theorem u8_walk (F : Interp) (a : Option Addr) (n cap : Nat) (bs : List Int) (field : ByteArray) (w : World) (hF : F.answers w.tape) (hin : Octs w a n cap bs) (hn : n ≤ maxLen) (hs : field.size ≤ maxLen) :
    Calls Tryf.prog 3 #[.slice a n cap, .string field] w fun e w' => e = .returned (.bool true) ∧ Below w.heap.size w w' := by
  cases hfit : fitsB n field.size with
  | false => exact u8_unfit a n cap field w hn hs hfit
  | true =>
    rcases Nat.lt_or_ge 65536 n with h1 | h1
    · exact u8_longb a n cap field w hn hs hfit h1
    rcases Nat.lt_or_ge 65536 field.size with h2 | h2
    · exact u8_longf a n cap field w hn hs hfit h1 h2
    obtain rfl : bs.length = n := hin.1
    exact u8_main F a cap bs field w hF hin hfit h1 h2

end Go.Proofs.Qxb6616505aFmt
