/-
  FnVectorIsTheWindowItsFieldEncodes: the walk.
-/
import Derived.Test.Qxb6616505aFmtExc
import Derived.WalkSmall
namespace Go.Proofs.Qxb6616505aFmt
open Go.RowKit Go.Extern.Stop Go.Stop Go.Extern

theorem win_unfit (a : Option Addr) (n cap : Nat) (k : Int) (field : ByteArray) (w : World) (hn : n ≤ maxLen) (hs : field.size ≤ maxLen) (hfit : fitsB n field.size = false) :
    Calls Tryf.prog 4 #[.slice a n cap, .string field, .int .i64 k] w fun e w' => e = .returned (.bool true) ∧ Below w.heap.size w w' := by
  go_enter Tryf.func4, Tryf.ntmps4
  go_wp2_with fail
  refine (bytes15 a n cap field k w hn hs).mono ?_
  rintro e wx ⟨rfl, hw⟩
  rw [hw, hfit]; clear hw wx
  go_wp2
  go_ret
  exact ⟨rfl, Below.refl _ _⟩

theorem win_longb (a : Option Addr) (n cap : Nat) (k : Int) (field : ByteArray) (w : World) (hn : n ≤ maxLen) (hs : field.size ≤ maxLen) (hfit : fitsB n field.size = true) (h1 : 65536 < n) :
    Calls Tryf.prog 4 #[.slice a n cap, .string field, .int .i64 k] w fun e w' => e = .returned (.bool true) ∧ Below w.heap.size w w' := by
  have g1 : (n : Int) > 65536 := by omega
  go_enter Tryf.func4, Tryf.ntmps4
  go_wp2_with fail
  refine (bytes15 a n cap field k w hn hs).mono ?_
  rintro e wx ⟨rfl, hw⟩
  rw [hw, hfit]; clear hw wx
  go_wp2
  go_ret
  exact ⟨rfl, Below.refl _ _⟩

theorem win_longf (a : Option Addr) (n cap : Nat) (k : Int) (field : ByteArray) (w : World) (hn : n ≤ maxLen) (hs : field.size ≤ maxLen) (hfit : fitsB n field.size = true) (h1 : n ≤ 65536) (h2 : 65536 < field.size) :
    Calls Tryf.prog 4 #[.slice a n cap, .string field, .int .i64 k] w fun e w' => e = .returned (.bool true) ∧ Below w.heap.size w w' := by
  have g1 : ¬ (n : Int) > 65536 := by omega
  have g2 : (field.size : Int) > 65536 := by omega
  go_enter Tryf.func4, Tryf.ntmps4
  go_wp2_with fail
  refine (bytes15 a n cap field k w hn hs).mono ?_
  rintro e wx ⟨rfl, hw⟩
  rw [hw, hfit]; clear hw wx
  go_wp2
  go_ret
  exact ⟨rfl, Below.refl _ _⟩

theorem win_neg (a : Option Addr) (n cap : Nat) (k : Int) (field : ByteArray) (w : World) (hn : n ≤ maxLen) (hs : field.size ≤ maxLen) (hfit : fitsB n field.size = true) (h1 : n ≤ 65536) (h2 : field.size ≤ 65536) (h3 : k < 0) :
    Calls Tryf.prog 4 #[.slice a n cap, .string field, .int .i64 k] w fun e w' => e = .returned (.bool true) ∧ Below w.heap.size w w' := by
  have g1 : ¬ (n : Int) > 65536 := by omega
  have g2 : ¬ (field.size : Int) > 65536 := by omega
  go_enter Tryf.func4, Tryf.ntmps4
  go_wp2_with fail
  refine (bytes15 a n cap field k w hn hs).mono ?_
  rintro e wx ⟨rfl, hw⟩
  rw [hw, hfit]; clear hw wx
  go_wp2
  go_ret
  exact ⟨rfl, Below.refl _ _⟩

theorem win_big (a : Option Addr) (n cap : Nat) (k : Int) (field : ByteArray) (w : World) (hn : n ≤ maxLen) (hs : field.size ≤ maxLen) (hfit : fitsB n field.size = true) (h1 : n ≤ 65536) (h2 : field.size ≤ 65536) (h3 : 8 < k) :
    Calls Tryf.prog 4 #[.slice a n cap, .string field, .int .i64 k] w fun e w' => e = .returned (.bool true) ∧ Below w.heap.size w w' := by
  have g1 : ¬ (n : Int) > 65536 := by omega
  have g2 : ¬ (field.size : Int) > 65536 := by omega
  have g3 : ¬ k < 0 := by omega
  go_enter Tryf.func4, Tryf.ntmps4
  go_wp2_with fail
  refine (bytes15 a n cap field k w hn hs).mono ?_
  rintro e wx ⟨rfl, hw⟩
  rw [hw, hfit]; clear hw wx
  go_wp2
  go_ret
  exact ⟨rfl, Below.refl _ _⟩

set_option maxHeartbeats 800000 in
theorem win_cut (F : Interp) (a : Option Addr) (cap : Nat) (bs : List Int) (n : Nat) (field : ByteArray) (w : World) (hF : F.answers w.tape) (hin : Octs w a bs.length cap bs) (hfit : fitsB bs.length field.size = true)
    (hl : bs.length ≤ 65536) (hf : field.size ≤ 65536) (h8 : n ≤ 8) (hn : bs.length < n) :
    Calls Tryf.prog 4 #[.slice a bs.length cap, .string field, .int .i64 n] w fun e w' => e = .returned (.bool true) ∧ Below w.heap.size w w' := by
  have hq := eql22
  have g1 : ¬ (bs.length : Int) > 65536 := by omega
  have g2 : ¬ (field.size : Int) > 65536 := by omega
  have g3 : ¬ (n : Int) < 0 := by omega
  have g4 : ¬ (n : Int) > 8 := by omega
  have g5 : (n : Int) > (bs.length : Int) := by omega
  go_enter Tryf.func4, Tryf.ntmps4
  go_wp2_with fail
  refine (bytes15 a _ cap field n w (by unfold maxLen; omega) (by unfold maxLen; omega)).mono ?_
  rintro e wx ⟨rfl, hw⟩
  rw [hw, hfit]; clear hw wx
  go_wp2_with fail
  refine (clone_any a _ cap bs _ hin (by omega)).mono ?_
  rintro e w1 ⟨⟨a1, rfl, ho1⟩, hs1, hb1⟩
  go_wp2_with fail
  refine (clone_any a1 _ _ bs _ ho1.octs (by omega)).mono ?_
  rintro e w2 ⟨⟨a2, rfl, ho2⟩, hs2, hb2⟩
  go_wp2_with fail
  refine (newReader_own a1 w.heap.size bs _ (ho1.below hb2)).mono ?_
  rintro e w3 ⟨rfl, hrs, hb3, hlt3⟩
  have z1 := hb1.size
  have z2 := hb2.size
  have ho3 : Own w3 w.heap.size a1 bs := (ho1.below hb2).below hb3
  have hw3 : Own w3 w1.heap.size a2 bs := ho2.below hb3
  have hend : Below w.heap.size w w3 := (hb1.trans (hb2.mono z1)).trans (hb3.mono (by omega))
  have n1 : 0 < bs.length → w.heap.size ≠ w2.heap.size := fun h => by have := (ho1.1 h).2; omega
  have n2 : 0 < bs.length → w1.heap.size ≠ w2.heap.size := fun h => by have := (ho2.1 h).2; omega
  have n3 : w.heap.size ≤ w2.heap.size := by omega
  have n4 : w.heap.size ≤ w3.heap.size := by omega
  have hF3 := answers_below (answers_below (answers_below hF hb1) hb2) hb3
  clear ho1 ho2 hb1 hb2 hb3 hs1 hs2 hlt3 hin hF
  go_wp2_with fail
  refine (vec_fail F _ _ _ _ field w3 hF3 hrs (fun av _ => rv_cut F av _ _ _ w3 hF3 (by omega))).mono ?_
  rintro e w4 ⟨rfl, ⟨a4, hrs4⟩, hu4⟩
  go_wp2_with fail
  refine (len_rs _ _ _ _ _ w4 hrs4).mono ?_
  rintro e wx ⟨rfl, hw⟩
  rw [hw, Nat.sub_zero]; clear hw wx
  go_wp2_with fail
  refine (done_rs_err _ _ _ _ a4 w4 hrs4).mono ?_
  rintro e wx ⟨rfl, hw⟩
  rw [hw]; clear hw wx
  go_wp2_with fail
  go_ret
  exact ⟨rfl, hend.trans (hu4.below n3 n4)⟩

set_option maxHeartbeats 800000 in
theorem win_long (F : Interp) (a : Option Addr) (cap : Nat) (bs : List Int) (n : Nat) (field : ByteArray) (w : World) (hF : F.answers w.tape) (hin : Octs w a bs.length cap bs) (hfit : fitsB bs.length field.size = true)
    (hl : bs.length ≤ 65536) (hf : field.size ≤ 65536) (h8 : n ≤ 8) (ho : Oct bs) (hn : n ≤ bs.length) (hm : (bs.length : Int) - n < be (bs.take n)) :
    Calls Tryf.prog 4 #[.slice a bs.length cap, .string field, .int .i64 n] w fun e w' => e = .returned (.bool true) ∧ Below w.heap.size w w' := by
  have hq := eql22
  have g1 : ¬ (bs.length : Int) > 65536 := by omega
  have g2 : ¬ (field.size : Int) > 65536 := by omega
  have g3 : ¬ (n : Int) < 0 := by omega
  have g4 : ¬ (n : Int) > 8 := by omega
  have g5 : ¬ (n : Int) > (bs.length : Int) := by omega
  have HM : Hid ((bs.length : Int) - n < be (bs.take n)) := hm
  clear hm
  go_enter Tryf.func4, Tryf.ntmps4
  go_wp2_with fail
  refine (bytes15 a _ cap field n w (by unfold maxLen; omega) (by unfold maxLen; omega)).mono ?_
  rintro e wx ⟨rfl, hw⟩
  rw [hw, hfit]; clear hw wx
  go_wp2_with fail
  refine (clone_any a _ cap bs _ hin (by omega)).mono ?_
  rintro e w1 ⟨⟨a1, rfl, ho1⟩, hs1, hb1⟩
  go_wp2_with fail
  refine (clone_any a1 _ _ bs _ ho1.octs (by omega)).mono ?_
  rintro e w2 ⟨⟨a2, rfl, ho2⟩, hs2, hb2⟩
  go_wp2_with fail
  refine (newReader_own a1 w.heap.size bs _ (ho1.below hb2)).mono ?_
  rintro e w3 ⟨rfl, hrs, hb3, hlt3⟩
  have z1 := hb1.size
  have z2 := hb2.size
  have ho3 : Own w3 w.heap.size a1 bs := (ho1.below hb2).below hb3
  have hw3 : Own w3 w1.heap.size a2 bs := ho2.below hb3
  have hend : Below w.heap.size w w3 := (hb1.trans (hb2.mono z1)).trans (hb3.mono (by omega))
  have n1 : 0 < bs.length → w.heap.size ≠ w2.heap.size := fun h => by have := (ho1.1 h).2; omega
  have n2 : 0 < bs.length → w1.heap.size ≠ w2.heap.size := fun h => by have := (ho2.1 h).2; omega
  have n3 : w.heap.size ≤ w2.heap.size := by omega
  have n4 : w.heap.size ≤ w3.heap.size := by omega
  have hF3 := answers_below (answers_below (answers_below hF hb1) hb2) hb3
  clear ho1 ho2 hb1 hb2 hb3 hs1 hs2 hlt3 hin hF
  go_wp2_with fail
  refine (vec_fail F _ _ _ _ field w3 hF3 hrs (fun av hav => rv_long F av _ n _ bs w3 hF3 rfl hav ho3.2.2 ho hl hn h8 HM.out)).mono ?_
  rintro e w4 ⟨rfl, ⟨a4, hrs4⟩, hu4⟩
  have hw4 := hw3.upd hu4 n2
  go_wp2_with fail
  refine (len_rs _ _ _ _ _ w4 hrs4).mono ?_
  rintro e wx ⟨rfl, hw⟩
  rw [hw, Nat.sub_zero]; clear hw wx
  go_wp2_with fail
  refine (done_rs_err _ _ _ _ a4 w4 hrs4).mono ?_
  rintro e wx ⟨rfl, hw⟩
  rw [hw]; clear hw wx
  go_wp2_with fail
  refine (exc_int a2 w1.heap.size n _ _ bs w4 (fun h => (hw4.1 (by omega)).1) hw4.2.2 ho hn h8 (by omega) (by omega) true (by simpa using HM.out)).mono ?_
  rintro e wx ⟨rfl, hw⟩
  rw [hw]; clear hw wx
  go_wp2_with fail
  go_ret
  exact ⟨rfl, hend.trans (hu4.below n3 n4)⟩

set_option maxHeartbeats 800000 in
theorem win_ok_a (F : Interp) (a : Option Addr) (cap : Nat) (bs : List Int) (n : Nat) (field : ByteArray) (w : World) (hF : F.answers w.tape) (hin : Octs w a bs.length cap bs) (hfit : fitsB bs.length field.size = true)
    (hl : bs.length ≤ 65536) (hf : field.size ≤ 65536) (h8 : n ≤ 8) (ho : Oct bs) (hn : n ≤ bs.length) (hm : be (bs.take n) ≤ (bs.length : Int) - n) (hfull : be (bs.take n) < (bs.length : Int) - n) (hn8 : n < 8) :
    Calls Tryf.prog 4 #[.slice a bs.length cap, .string field, .int .i64 n] w fun e w' => e = .returned (.bool true) ∧ Below w.heap.size w w' := by
  have hq := eql22
  have g1 : ¬ (bs.length : Int) > 65536 := by omega
  have g2 : ¬ (field.size : Int) > 65536 := by omega
  have g3 : ¬ (n : Int) < 0 := by omega
  have g4 : ¬ (n : Int) > 8 := by omega
  have g5 : ¬ (n : Int) > (bs.length : Int) := by omega
  have g6 : (n : Int) < 8 := by omega
  have HX : Hid (be (bs.take n) ≤ (bs.length : Int) - n) := hm
  have HF : Hid (be (bs.take n) < (bs.length : Int) - n) := hfull
  have HN : Hid (n < 8) := hn8
  clear hm hfull hn8
  go_enter Tryf.func4, Tryf.ntmps4
  go_wp2_with fail
  refine (bytes15 a _ cap field n w (by unfold maxLen; omega) (by unfold maxLen; omega)).mono ?_
  rintro e wx ⟨rfl, hw⟩
  rw [hw, hfit]; clear hw wx
  go_wp2_with fail
  refine (clone_any a _ cap bs _ hin (by omega)).mono ?_
  rintro e w1 ⟨⟨a1, rfl, ho1⟩, hs1, hb1⟩
  go_wp2_with fail
  refine (clone_any a1 _ _ bs _ ho1.octs (by omega)).mono ?_
  rintro e w2 ⟨⟨a2, rfl, ho2⟩, hs2, hb2⟩
  go_wp2_with fail
  refine (newReader_own a1 w.heap.size bs _ (ho1.below hb2)).mono ?_
  rintro e w3 ⟨rfl, hrs, hb3, hlt3⟩
  have z1 := hb1.size
  have z2 := hb2.size
  have ho3 : Own w3 w.heap.size a1 bs := (ho1.below hb2).below hb3
  have hw3 : Own w3 w1.heap.size a2 bs := ho2.below hb3
  have hend : Below w.heap.size w w3 := (hb1.trans (hb2.mono z1)).trans (hb3.mono (by omega))
  have n1 : 0 < bs.length → w.heap.size ≠ w2.heap.size := fun h => by have := (ho1.1 h).2; omega
  have n2 : 0 < bs.length → w1.heap.size ≠ w2.heap.size := fun h => by have := (ho2.1 h).2; omega
  have n3 : w.heap.size ≤ w2.heap.size := by omega
  have n4 : w.heap.size ≤ w3.heap.size := by omega
  have hF3 := answers_below (answers_below (answers_below hF hb1) hb2) hb3
  clear ho1 ho2 hb1 hb2 hb3 hs1 hs2 hlt3 hin hF
  go_wp2_with fail
  refine (vec_ok _ _ _ n bs field w3 hrs rfl ho3.2.2 ho hl hn h8 HX.out).mono ?_
  rintro e w4 ⟨v1, m, hme, rfl, hv1, hrs4, hu4⟩
  have HM : Hid ((m : Int) = be (bs.take n)) := hme
  clear hme
  have hmL : n + m ≤ bs.length := by have := HM.out; have := HX.out; omega
  have hmI : (m : Int) ≤ (bs.length : Int) - (n : Int) := by omega
  have HZ : Hid (((m : Int) / 2 ^ (8 * n) != 0) = false) := be_none bs ho n hn m HM.out
  go_wp2_with fail
  refine (len_rs _ _ _ _ _ w4 hrs4).mono ?_
  rintro e wx ⟨rfl, hw⟩
  rw [hw]; clear hw wx
  have hlt4 : n + m < bs.length := by have := HM.out; have := HF.out; omega
  go_wp2_with fail
  refine (done_rs_left F _ _ _ _ w4 (answers_upd hF3 hu4) hrs4 hlt4).mono ?_
  rintro e w5 ⟨a5, rfl, hrs5, hu5⟩
  have hoz := ho3.upd (hu4.trans hu5) n1
  have hwz := hw3.upd (hu4.trans hu5) n2
  have hfin : Below w.heap.size w w5 := hend.trans ((hu4.trans hu5).below n3 n4)
  have hz1 : 0 < n → a2 = some ⟨w1.heap.size, 0, none⟩ := fun h => (hwz.1 (by omega)).1
  go_wp2_with fail
  refine (exc_int a2 w1.heap.size n _ _ bs w5 hz1 hwz.2.2 ho hn h8 (by omega) (by omega) false (by simpa using HX.out)).mono ?_
  rintro e wx ⟨rfl, hw⟩
  rw [hw]; clear hw wx
  clear hrs hrs4 hu4 ho3 hw3 n1 n2 n3 n4 hrs5 hu5
  have hz2 := HZ.out
  have hleft : ((bs.length - (n + m) : Nat) : Int) = (bs.length : Int) - n - m := by omega
  have HLF : Hid (((bs.length - (n + m) : Nat) : Int) = (bs.length : Int) - n - m) := hleft
  clear hleft
  go_wp2_with fail
  go_loop [14] (fun v => ∃ i : Nat, i ≤ n ∧ v = .int .i64 i) (fun i => n - (intOf i).toNat)
  case atStart => exact ⟨0, Nat.zero_le _, rfl⟩
  case round =>
    obtain ⟨i, hi, rfl⟩ := hrel
    by_cases hlt : i < n
    · obtain rfl := hz1 (by omega)
      have c1 := hwz.2.2 i (by omega)
      have hy := ho i
      have hd := be_digit bs ho n i hlt hn m HM.out
      generalize bs.getD i 0 = y at c1 hy hd
      obtain ⟨hy1, hy2⟩ := hy
      have j1 : (i : Int) < (n : Int) := by omega
      have j2 : (i : Int) < (bs.length : Int) := by omega
      clear hoz hwz hz1 hv1
      go_wp2
      go_round
      case rel => exact ⟨i + 1, by omega, by go_num⟩
      case measure => simp [intOf]; omega
    · go_wp2
      go_loopw [15] (fun v wq => ∃ j : Nat, j ≤ m ∧ v = .int .i64 j ∧ Below w5.heap.size w5 wq) (fun i _ => m - (intOf i).toNat)
      case atStart => exact ⟨0, Nat.zero_le _, rfl, Below.refl _ _⟩
      case round =>
        obtain ⟨j, hj, rfl, hbel⟩ := hrel
        by_cases hlt2 : j < m
        · obtain ⟨ha2, _⟩ := hwz.1 (by omega)
          subst ha2
          obtain rfl := hv1 (by omega)
          have c1 := (hoz.below hbel).2.2 (n + j) (by omega)
          have c2 := (hwz.below hbel).2.2 (n + j) (by omega)
          generalize bs.getD (n + j) 0 = y at c1 c2
          have j1 : (j : Int) < (m : Int) := by omega
          have j2 : (n : Int) + (j : Int) < (bs.length : Int) := by omega
          clear hoz hwz hz1 hv1
          go_wp2_with fail
          go_quiet (fail)
          go_wp2
          go_roundw
          case rel => exact ⟨j + 1, by omega, by go_num, below_drewN hbel _⟩
          case measure => simp [intOf]; omega
        · have q1 : (((bs.length - (n + m) : Nat) : Int) == (bs.length : Int) - n - m) = true := by simp; omega
          have q2 : (((bs.length - (n + m) : Nat) : Int) != 0) = true := by simp; omega
          go_wp2
          go_ret
          exact ⟨rfl, hfin.trans (hbel.mono hfin.size)⟩

set_option maxHeartbeats 800000 in
theorem win_ok_b (F : Interp) (a : Option Addr) (cap : Nat) (bs : List Int) (n : Nat) (field : ByteArray) (w : World) (hF : F.answers w.tape) (hin : Octs w a bs.length cap bs) (hfit : fitsB bs.length field.size = true)
    (hl : bs.length ≤ 65536) (hf : field.size ≤ 65536) (h8 : n ≤ 8) (ho : Oct bs) (hn : n ≤ bs.length) (hm : be (bs.take n) ≤ (bs.length : Int) - n) (hfull : be (bs.take n) = (bs.length : Int) - n) (hn8 : n < 8) :
    Calls Tryf.prog 4 #[.slice a bs.length cap, .string field, .int .i64 n] w fun e w' => e = .returned (.bool true) ∧ Below w.heap.size w w' := by
  have hq := eql22
  have g1 : ¬ (bs.length : Int) > 65536 := by omega
  have g2 : ¬ (field.size : Int) > 65536 := by omega
  have g3 : ¬ (n : Int) < 0 := by omega
  have g4 : ¬ (n : Int) > 8 := by omega
  have g5 : ¬ (n : Int) > (bs.length : Int) := by omega
  have g6 : (n : Int) < 8 := by omega
  have HX : Hid (be (bs.take n) ≤ (bs.length : Int) - n) := hm
  have HF : Hid (be (bs.take n) = (bs.length : Int) - n) := hfull
  have HN : Hid (n < 8) := hn8
  clear hm hfull hn8
  go_enter Tryf.func4, Tryf.ntmps4
  go_wp2_with fail
  refine (bytes15 a _ cap field n w (by unfold maxLen; omega) (by unfold maxLen; omega)).mono ?_
  rintro e wx ⟨rfl, hw⟩
  rw [hw, hfit]; clear hw wx
  go_wp2_with fail
  refine (clone_any a _ cap bs _ hin (by omega)).mono ?_
  rintro e w1 ⟨⟨a1, rfl, ho1⟩, hs1, hb1⟩
  go_wp2_with fail
  refine (clone_any a1 _ _ bs _ ho1.octs (by omega)).mono ?_
  rintro e w2 ⟨⟨a2, rfl, ho2⟩, hs2, hb2⟩
  go_wp2_with fail
  refine (newReader_own a1 w.heap.size bs _ (ho1.below hb2)).mono ?_
  rintro e w3 ⟨rfl, hrs, hb3, hlt3⟩
  have z1 := hb1.size
  have z2 := hb2.size
  have ho3 : Own w3 w.heap.size a1 bs := (ho1.below hb2).below hb3
  have hw3 : Own w3 w1.heap.size a2 bs := ho2.below hb3
  have hend : Below w.heap.size w w3 := (hb1.trans (hb2.mono z1)).trans (hb3.mono (by omega))
  have n1 : 0 < bs.length → w.heap.size ≠ w2.heap.size := fun h => by have := (ho1.1 h).2; omega
  have n2 : 0 < bs.length → w1.heap.size ≠ w2.heap.size := fun h => by have := (ho2.1 h).2; omega
  have n3 : w.heap.size ≤ w2.heap.size := by omega
  have n4 : w.heap.size ≤ w3.heap.size := by omega
  have hF3 := answers_below (answers_below (answers_below hF hb1) hb2) hb3
  clear ho1 ho2 hb1 hb2 hb3 hs1 hs2 hlt3 hin hF
  go_wp2_with fail
  refine (vec_ok _ _ _ n bs field w3 hrs rfl ho3.2.2 ho hl hn h8 HX.out).mono ?_
  rintro e w4 ⟨v1, m, hme, rfl, hv1, hrs4, hu4⟩
  have HM : Hid ((m : Int) = be (bs.take n)) := hme
  clear hme
  have hmL : n + m ≤ bs.length := by have := HM.out; have := HX.out; omega
  have hmI : (m : Int) ≤ (bs.length : Int) - (n : Int) := by omega
  have HZ : Hid (((m : Int) / 2 ^ (8 * n) != 0) = false) := be_none bs ho n hn m HM.out
  go_wp2_with fail
  refine (len_rs _ _ _ _ _ w4 hrs4).mono ?_
  rintro e wx ⟨rfl, hw⟩
  rw [hw]; clear hw wx
  have e4 : n + m = bs.length := by have := HM.out; have := HF.out; omega
  have hrs4' : RS w4 w2.heap.size w.heap.size bs.length bs.length .nilIface := by have h := hrs4; rw [e4] at h; exact h
  have E4 : Hid (n + m = bs.length) := e4
  clear e4
  go_wp2_with fail
  refine (done_rs_nil _ _ _ w4 hrs4').mono ?_
  rintro e wx ⟨rfl, hw⟩
  rw [hw]; clear hw wx
  have hoz := ho3.upd hu4 n1
  have hwz := hw3.upd hu4 n2
  have hfin : Below w.heap.size w w4 := hend.trans (hu4.below n3 n4)
  have hz1 : 0 < n → a2 = some ⟨w1.heap.size, 0, none⟩ := fun h => (hwz.1 (by omega)).1
  go_wp2_with fail
  refine (exc_int a2 w1.heap.size n _ _ bs w4 hz1 hwz.2.2 ho hn h8 (by omega) (by omega) false (by simpa using HX.out)).mono ?_
  rintro e wx ⟨rfl, hw⟩
  rw [hw]; clear hw wx
  clear hrs hrs4 hu4 ho3 hw3 n1 n2 n3 n4 hrs4'
  have hz2 := HZ.out
  have hleft : ((bs.length - (n + m) : Nat) : Int) = (bs.length : Int) - n - m := by omega
  have HLF : Hid (((bs.length - (n + m) : Nat) : Int) = (bs.length : Int) - n - m) := hleft
  clear hleft
  go_wp2_with fail
  go_loop [14] (fun v => ∃ i : Nat, i ≤ n ∧ v = .int .i64 i) (fun i => n - (intOf i).toNat)
  case atStart => exact ⟨0, Nat.zero_le _, rfl⟩
  case round =>
    obtain ⟨i, hi, rfl⟩ := hrel
    by_cases hlt : i < n
    · obtain rfl := hz1 (by omega)
      have c1 := hwz.2.2 i (by omega)
      have hy := ho i
      have hd := be_digit bs ho n i hlt hn m HM.out
      generalize bs.getD i 0 = y at c1 hy hd
      obtain ⟨hy1, hy2⟩ := hy
      have j1 : (i : Int) < (n : Int) := by omega
      have j2 : (i : Int) < (bs.length : Int) := by omega
      clear hoz hwz hz1 hv1
      go_wp2
      go_round
      case rel => exact ⟨i + 1, by omega, by go_num⟩
      case measure => simp [intOf]; omega
    · go_wp2
      go_loopw [15] (fun v wq => ∃ j : Nat, j ≤ m ∧ v = .int .i64 j ∧ Below w4.heap.size w4 wq) (fun i _ => m - (intOf i).toNat)
      case atStart => exact ⟨0, Nat.zero_le _, rfl, Below.refl _ _⟩
      case round =>
        obtain ⟨j, hj, rfl, hbel⟩ := hrel
        by_cases hlt2 : j < m
        · obtain ⟨ha2, _⟩ := hwz.1 (by omega)
          subst ha2
          obtain rfl := hv1 (by omega)
          have c1 := (hoz.below hbel).2.2 (n + j) (by omega)
          have c2 := (hwz.below hbel).2.2 (n + j) (by omega)
          generalize bs.getD (n + j) 0 = y at c1 c2
          have j1 : (j : Int) < (m : Int) := by omega
          have j2 : (n : Int) + (j : Int) < (bs.length : Int) := by omega
          clear hoz hwz hz1 hv1
          go_wp2_with fail
          go_quiet (fail)
          go_wp2
          go_roundw
          case rel => exact ⟨j + 1, by omega, by go_num, below_drewN hbel _⟩
          case measure => simp [intOf]; omega
        · have q1 : (((bs.length - (n + m) : Nat) : Int) == (bs.length : Int) - n - m) = true := by simp; omega
          have q2 : (((bs.length - (n + m) : Nat) : Int) != 0) = false := by have := E4.out; simp; omega
          go_wp2
          go_ret
          exact ⟨rfl, hfin.trans (hbel.mono hfin.size)⟩

set_option maxHeartbeats 800000 in
theorem win_ok_c (F : Interp) (a : Option Addr) (cap : Nat) (bs : List Int) (n : Nat) (field : ByteArray) (w : World) (hF : F.answers w.tape) (hin : Octs w a bs.length cap bs) (hfit : fitsB bs.length field.size = true)
    (hl : bs.length ≤ 65536) (hf : field.size ≤ 65536) (h8 : n ≤ 8) (ho : Oct bs) (hn : n ≤ bs.length) (hm : be (bs.take n) ≤ (bs.length : Int) - n) (hfull : be (bs.take n) < (bs.length : Int) - n) (hn8 : n = 8) :
    Calls Tryf.prog 4 #[.slice a bs.length cap, .string field, .int .i64 n] w fun e w' => e = .returned (.bool true) ∧ Below w.heap.size w w' := by
  have hq := eql22
  have g1 : ¬ (bs.length : Int) > 65536 := by omega
  have g2 : ¬ (field.size : Int) > 65536 := by omega
  have g3 : ¬ (n : Int) < 0 := by omega
  have g4 : ¬ (n : Int) > 8 := by omega
  have g5 : ¬ (n : Int) > (bs.length : Int) := by omega
  have g6 : ¬ (n : Int) < 8 := by omega
  have HX : Hid (be (bs.take n) ≤ (bs.length : Int) - n) := hm
  have HF : Hid (be (bs.take n) < (bs.length : Int) - n) := hfull
  have HN : Hid (n = 8) := hn8
  clear hm hfull hn8
  go_enter Tryf.func4, Tryf.ntmps4
  go_wp2_with fail
  refine (bytes15 a _ cap field n w (by unfold maxLen; omega) (by unfold maxLen; omega)).mono ?_
  rintro e wx ⟨rfl, hw⟩
  rw [hw, hfit]; clear hw wx
  go_wp2_with fail
  refine (clone_any a _ cap bs _ hin (by omega)).mono ?_
  rintro e w1 ⟨⟨a1, rfl, ho1⟩, hs1, hb1⟩
  go_wp2_with fail
  refine (clone_any a1 _ _ bs _ ho1.octs (by omega)).mono ?_
  rintro e w2 ⟨⟨a2, rfl, ho2⟩, hs2, hb2⟩
  go_wp2_with fail
  refine (newReader_own a1 w.heap.size bs _ (ho1.below hb2)).mono ?_
  rintro e w3 ⟨rfl, hrs, hb3, hlt3⟩
  have z1 := hb1.size
  have z2 := hb2.size
  have ho3 : Own w3 w.heap.size a1 bs := (ho1.below hb2).below hb3
  have hw3 : Own w3 w1.heap.size a2 bs := ho2.below hb3
  have hend : Below w.heap.size w w3 := (hb1.trans (hb2.mono z1)).trans (hb3.mono (by omega))
  have n1 : 0 < bs.length → w.heap.size ≠ w2.heap.size := fun h => by have := (ho1.1 h).2; omega
  have n2 : 0 < bs.length → w1.heap.size ≠ w2.heap.size := fun h => by have := (ho2.1 h).2; omega
  have n3 : w.heap.size ≤ w2.heap.size := by omega
  have n4 : w.heap.size ≤ w3.heap.size := by omega
  have hF3 := answers_below (answers_below (answers_below hF hb1) hb2) hb3
  clear ho1 ho2 hb1 hb2 hb3 hs1 hs2 hlt3 hin hF
  go_wp2_with fail
  refine (vec_ok _ _ _ n bs field w3 hrs rfl ho3.2.2 ho hl hn h8 HX.out).mono ?_
  rintro e w4 ⟨v1, m, hme, rfl, hv1, hrs4, hu4⟩
  have HM : Hid ((m : Int) = be (bs.take n)) := hme
  clear hme
  have hmL : n + m ≤ bs.length := by have := HM.out; have := HX.out; omega
  have hmI : (m : Int) ≤ (bs.length : Int) - (n : Int) := by omega
  have HZ : Hid (((m : Int) / 2 ^ (8 * n) != 0) = false) := be_none bs ho n hn m HM.out
  go_wp2_with fail
  refine (len_rs _ _ _ _ _ w4 hrs4).mono ?_
  rintro e wx ⟨rfl, hw⟩
  rw [hw]; clear hw wx
  have hlt4 : n + m < bs.length := by have := HM.out; have := HF.out; omega
  go_wp2_with fail
  refine (done_rs_left F _ _ _ _ w4 (answers_upd hF3 hu4) hrs4 hlt4).mono ?_
  rintro e w5 ⟨a5, rfl, hrs5, hu5⟩
  have hoz := ho3.upd (hu4.trans hu5) n1
  have hwz := hw3.upd (hu4.trans hu5) n2
  have hfin : Below w.heap.size w w5 := hend.trans ((hu4.trans hu5).below n3 n4)
  have hz1 : 0 < n → a2 = some ⟨w1.heap.size, 0, none⟩ := fun h => (hwz.1 (by omega)).1
  go_wp2_with fail
  refine (exc_int a2 w1.heap.size n _ _ bs w5 hz1 hwz.2.2 ho hn h8 (by omega) (by omega) false (by simpa using HX.out)).mono ?_
  rintro e wx ⟨rfl, hw⟩
  rw [hw]; clear hw wx
  clear hrs hrs4 hu4 ho3 hw3 n1 n2 n3 n4 hrs5 hu5
  have hleft : ((bs.length - (n + m) : Nat) : Int) = (bs.length : Int) - n - m := by omega
  have HLF : Hid (((bs.length - (n + m) : Nat) : Int) = (bs.length : Int) - n - m) := hleft
  clear hleft
  go_wp2_with fail
  go_loop [14] (fun v => ∃ i : Nat, i ≤ n ∧ v = .int .i64 i) (fun i => n - (intOf i).toNat)
  case atStart => exact ⟨0, Nat.zero_le _, rfl⟩
  case round =>
    obtain ⟨i, hi, rfl⟩ := hrel
    by_cases hlt : i < n
    · obtain rfl := hz1 (by omega)
      have c1 := hwz.2.2 i (by omega)
      have hy := ho i
      have hd := be_digit bs ho n i hlt hn m HM.out
      generalize bs.getD i 0 = y at c1 hy hd
      obtain ⟨hy1, hy2⟩ := hy
      have j1 : (i : Int) < (n : Int) := by omega
      have j2 : (i : Int) < (bs.length : Int) := by omega
      clear hoz hwz hz1 hv1
      go_wp2
      go_round
      case rel => exact ⟨i + 1, by omega, by go_num⟩
      case measure => simp [intOf]; omega
    · go_wp2
      go_loopw [15] (fun v wq => ∃ j : Nat, j ≤ m ∧ v = .int .i64 j ∧ Below w5.heap.size w5 wq) (fun i _ => m - (intOf i).toNat)
      case atStart => exact ⟨0, Nat.zero_le _, rfl, Below.refl _ _⟩
      case round =>
        obtain ⟨j, hj, rfl, hbel⟩ := hrel
        by_cases hlt2 : j < m
        · obtain ⟨ha2, _⟩ := hwz.1 (by omega)
          subst ha2
          obtain rfl := hv1 (by omega)
          have c1 := (hoz.below hbel).2.2 (n + j) (by omega)
          have c2 := (hwz.below hbel).2.2 (n + j) (by omega)
          generalize bs.getD (n + j) 0 = y at c1 c2
          have j1 : (j : Int) < (m : Int) := by omega
          have j2 : (n : Int) + (j : Int) < (bs.length : Int) := by omega
          clear hoz hwz hz1 hv1
          go_wp2_with fail
          go_quiet (fail)
          go_wp2
          go_roundw
          case rel => exact ⟨j + 1, by omega, by go_num, below_drewN hbel _⟩
          case measure => simp [intOf]; omega
        · have q1 : (((bs.length - (n + m) : Nat) : Int) == (bs.length : Int) - n - m) = true := by simp; omega
          have q2 : (((bs.length - (n + m) : Nat) : Int) != 0) = true := by simp; omega
          go_wp2
          go_ret
          exact ⟨rfl, hfin.trans (hbel.mono hfin.size)⟩

set_option maxHeartbeats 800000 in
theorem win_ok_d (F : Interp) (a : Option Addr) (cap : Nat) (bs : List Int) (n : Nat) (field : ByteArray) (w : World) (hF : F.answers w.tape) (hin : Octs w a bs.length cap bs) (hfit : fitsB bs.length field.size = true)
    (hl : bs.length ≤ 65536) (hf : field.size ≤ 65536) (h8 : n ≤ 8) (ho : Oct bs) (hn : n ≤ bs.length) (hm : be (bs.take n) ≤ (bs.length : Int) - n) (hfull : be (bs.take n) = (bs.length : Int) - n) (hn8 : n = 8) :
    Calls Tryf.prog 4 #[.slice a bs.length cap, .string field, .int .i64 n] w fun e w' => e = .returned (.bool true) ∧ Below w.heap.size w w' := by
  have hq := eql22
  have g1 : ¬ (bs.length : Int) > 65536 := by omega
  have g2 : ¬ (field.size : Int) > 65536 := by omega
  have g3 : ¬ (n : Int) < 0 := by omega
  have g4 : ¬ (n : Int) > 8 := by omega
  have g5 : ¬ (n : Int) > (bs.length : Int) := by omega
  have g6 : ¬ (n : Int) < 8 := by omega
  have HX : Hid (be (bs.take n) ≤ (bs.length : Int) - n) := hm
  have HF : Hid (be (bs.take n) = (bs.length : Int) - n) := hfull
  have HN : Hid (n = 8) := hn8
  clear hm hfull hn8
  go_enter Tryf.func4, Tryf.ntmps4
  go_wp2_with fail
  refine (bytes15 a _ cap field n w (by unfold maxLen; omega) (by unfold maxLen; omega)).mono ?_
  rintro e wx ⟨rfl, hw⟩
  rw [hw, hfit]; clear hw wx
  go_wp2_with fail
  refine (clone_any a _ cap bs _ hin (by omega)).mono ?_
  rintro e w1 ⟨⟨a1, rfl, ho1⟩, hs1, hb1⟩
  go_wp2_with fail
  refine (clone_any a1 _ _ bs _ ho1.octs (by omega)).mono ?_
  rintro e w2 ⟨⟨a2, rfl, ho2⟩, hs2, hb2⟩
  go_wp2_with fail
  refine (newReader_own a1 w.heap.size bs _ (ho1.below hb2)).mono ?_
  rintro e w3 ⟨rfl, hrs, hb3, hlt3⟩
  have z1 := hb1.size
  have z2 := hb2.size
  have ho3 : Own w3 w.heap.size a1 bs := (ho1.below hb2).below hb3
  have hw3 : Own w3 w1.heap.size a2 bs := ho2.below hb3
  have hend : Below w.heap.size w w3 := (hb1.trans (hb2.mono z1)).trans (hb3.mono (by omega))
  have n1 : 0 < bs.length → w.heap.size ≠ w2.heap.size := fun h => by have := (ho1.1 h).2; omega
  have n2 : 0 < bs.length → w1.heap.size ≠ w2.heap.size := fun h => by have := (ho2.1 h).2; omega
  have n3 : w.heap.size ≤ w2.heap.size := by omega
  have n4 : w.heap.size ≤ w3.heap.size := by omega
  have hF3 := answers_below (answers_below (answers_below hF hb1) hb2) hb3
  clear ho1 ho2 hb1 hb2 hb3 hs1 hs2 hlt3 hin hF
  go_wp2_with fail
  refine (vec_ok _ _ _ n bs field w3 hrs rfl ho3.2.2 ho hl hn h8 HX.out).mono ?_
  rintro e w4 ⟨v1, m, hme, rfl, hv1, hrs4, hu4⟩
  have HM : Hid ((m : Int) = be (bs.take n)) := hme
  clear hme
  have hmL : n + m ≤ bs.length := by have := HM.out; have := HX.out; omega
  have hmI : (m : Int) ≤ (bs.length : Int) - (n : Int) := by omega
  have HZ : Hid (((m : Int) / 2 ^ (8 * n) != 0) = false) := be_none bs ho n hn m HM.out
  go_wp2_with fail
  refine (len_rs _ _ _ _ _ w4 hrs4).mono ?_
  rintro e wx ⟨rfl, hw⟩
  rw [hw]; clear hw wx
  have e4 : n + m = bs.length := by have := HM.out; have := HF.out; omega
  have hrs4' : RS w4 w2.heap.size w.heap.size bs.length bs.length .nilIface := by have h := hrs4; rw [e4] at h; exact h
  have E4 : Hid (n + m = bs.length) := e4
  clear e4
  go_wp2_with fail
  refine (done_rs_nil _ _ _ w4 hrs4').mono ?_
  rintro e wx ⟨rfl, hw⟩
  rw [hw]; clear hw wx
  have hoz := ho3.upd hu4 n1
  have hwz := hw3.upd hu4 n2
  have hfin : Below w.heap.size w w4 := hend.trans (hu4.below n3 n4)
  have hz1 : 0 < n → a2 = some ⟨w1.heap.size, 0, none⟩ := fun h => (hwz.1 (by omega)).1
  go_wp2_with fail
  refine (exc_int a2 w1.heap.size n _ _ bs w4 hz1 hwz.2.2 ho hn h8 (by omega) (by omega) false (by simpa using HX.out)).mono ?_
  rintro e wx ⟨rfl, hw⟩
  rw [hw]; clear hw wx
  clear hrs hrs4 hu4 ho3 hw3 n1 n2 n3 n4 hrs4'
  have hleft : ((bs.length - (n + m) : Nat) : Int) = (bs.length : Int) - n - m := by omega
  have HLF : Hid (((bs.length - (n + m) : Nat) : Int) = (bs.length : Int) - n - m) := hleft
  clear hleft
  go_wp2_with fail
  go_loop [14] (fun v => ∃ i : Nat, i ≤ n ∧ v = .int .i64 i) (fun i => n - (intOf i).toNat)
  case atStart => exact ⟨0, Nat.zero_le _, rfl⟩
  case round =>
    obtain ⟨i, hi, rfl⟩ := hrel
    by_cases hlt : i < n
    · obtain rfl := hz1 (by omega)
      have c1 := hwz.2.2 i (by omega)
      have hy := ho i
      have hd := be_digit bs ho n i hlt hn m HM.out
      generalize bs.getD i 0 = y at c1 hy hd
      obtain ⟨hy1, hy2⟩ := hy
      have j1 : (i : Int) < (n : Int) := by omega
      have j2 : (i : Int) < (bs.length : Int) := by omega
      clear hoz hwz hz1 hv1
      go_wp2
      go_round
      case rel => exact ⟨i + 1, by omega, by go_num⟩
      case measure => simp [intOf]; omega
    · go_wp2
      go_loopw [15] (fun v wq => ∃ j : Nat, j ≤ m ∧ v = .int .i64 j ∧ Below w4.heap.size w4 wq) (fun i _ => m - (intOf i).toNat)
      case atStart => exact ⟨0, Nat.zero_le _, rfl, Below.refl _ _⟩
      case round =>
        obtain ⟨j, hj, rfl, hbel⟩ := hrel
        by_cases hlt2 : j < m
        · obtain ⟨ha2, _⟩ := hwz.1 (by omega)
          subst ha2
          obtain rfl := hv1 (by omega)
          have c1 := (hoz.below hbel).2.2 (n + j) (by omega)
          have c2 := (hwz.below hbel).2.2 (n + j) (by omega)
          generalize bs.getD (n + j) 0 = y at c1 c2
          have j1 : (j : Int) < (m : Int) := by omega
          have j2 : (n : Int) + (j : Int) < (bs.length : Int) := by omega
          clear hoz hwz hz1 hv1
          go_wp2_with fail
          go_quiet (fail)
          go_wp2
          go_roundw
          case rel => exact ⟨j + 1, by omega, by go_num, below_drewN hbel _⟩
          case measure => simp [intOf]; omega
        · have q1 : (((bs.length - (n + m) : Nat) : Int) == (bs.length : Int) - n - m) = true := by simp; omega
          have q2 : (((bs.length - (n + m) : Nat) : Int) != 0) = false := by have := E4.out; simp; omega
          go_wp2
          go_ret
          exact ⟨rfl, hfin.trans (hbel.mono hfin.size)⟩

theorem win_walk (F : Interp) (a : Option Addr) (n cap : Nat) (bs : List Int) (k : Int) (field : ByteArray) (w : World) (hF : F.answers w.tape) (hin : Octs w a n cap bs) (hn : n ≤ maxLen) (hs : field.size ≤ maxLen) (ho : Oct bs) :
    Calls Tryf.prog 4 #[.slice a n cap, .string field, .int .i64 k] w fun e w' => e = .returned (.bool true) ∧ Below w.heap.size w w' := by
  cases hfit : fitsB n field.size with
  | false => exact win_unfit a n cap k field w hn hs hfit
  | true =>
    rcases Nat.lt_or_ge 65536 n with h1 | h1
    · exact win_longb a n cap k field w hn hs hfit h1
    rcases Nat.lt_or_ge 65536 field.size with h2 | h2
    · exact win_longf a n cap k field w hn hs hfit h1 h2
    rcases Int.lt_or_le k 0 with h3 | h3
    · exact win_neg a n cap k field w hn hs hfit h1 h2 h3
    rcases Int.lt_or_le 8 k with h8 | h8
    · exact win_big a n cap k field w hn hs hfit h1 h2 h8
    obtain ⟨k, rfl⟩ := Int.eq_ofNat_of_zero_le h3
    obtain rfl : bs.length = n := hin.1
    rcases Nat.lt_or_ge bs.length k with h4 | h4
    · exact win_cut F a cap bs k field w hF hin hfit h1 h2 (by omega) h4
    rcases Int.lt_or_le ((bs.length : Int) - k) (be (bs.take k)) with h5 | h5
    · exact win_long F a cap bs k field w hF hin hfit h1 h2 (by omega) ho h4 h5
    rcases Int.lt_or_le (be (bs.take k)) ((bs.length : Int) - k) with h6 | h6
    · rcases Nat.lt_or_ge k 8 with h7 | h7
      · exact win_ok_a F a cap bs k field w hF hin hfit h1 h2 (by omega) ho h4 h5 h6 h7
      · exact win_ok_c F a cap bs k field w hF hin hfit h1 h2 (by omega) ho h4 h5 h6 (by omega)
    · rcases Nat.lt_or_ge k 8 with h7 | h7
      · exact win_ok_b F a cap bs k field w hF hin hfit h1 h2 (by omega) ho h4 h5 (by omega) h7
      · exact win_ok_d F a cap bs k field w hF hin hfit h1 h2 (by omega) ho h4 h5 (by omega) (by omega)

end Go.Proofs.Qxb6616505aFmt
