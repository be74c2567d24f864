/-
  FnVectorAgreesWithFixedWidthReaders: the walk, its fronts, the field cut short.
-/
import Derived.Test.Qxb6616505aFmtAgr
import Derived.Test.Qxb6616505aFmtVec
namespace Go.Proofs.Qxb6616505aFmt
open Go.RowKit Go.Extern.Stop Go.Stop Go.Extern
set_option maxRecDepth 100000

theorem ag_unfit (a : Option Addr) (n cap : Nat) (k : Int) (field : ByteArray) (w : World) (hn : n ≤ maxLen) (hs : field.size ≤ maxLen) (hfit : fitsB n field.size = false) :
    Calls Tryf.prog 8 #[.slice a n cap, .string field, .int .i64 k] w fun e w' => e = .returned (.bool true) ∧ Below w.heap.size w w' := by
  go_enter Tryf.func8, Tryf.ntmps8
  go_wp2_with fail
  refine (bytes23 a n cap field k w hn hs).mono ?_
  rintro e wx ⟨rfl, hw⟩
  rw [hw, hfit]; clear hw wx
  go_wp2
  go_ret
  exact ⟨rfl, Below.refl _ _⟩

theorem ag_longb (a : Option Addr) (n cap : Nat) (k : Int) (field : ByteArray) (w : World) (hn : n ≤ maxLen) (hs : field.size ≤ maxLen) (hfit : fitsB n field.size = true) (h1 : 65536 < n) :
    Calls Tryf.prog 8 #[.slice a n cap, .string field, .int .i64 k] w fun e w' => e = .returned (.bool true) ∧ Below w.heap.size w w' := by
  have g1 : (n : Int) > 65536 := by omega
  go_enter Tryf.func8, Tryf.ntmps8
  go_wp2_with fail
  refine (bytes23 a n cap field k w hn hs).mono ?_
  rintro e wx ⟨rfl, hw⟩
  rw [hw, hfit]; clear hw wx
  go_wp2
  go_ret
  exact ⟨rfl, Below.refl _ _⟩

theorem ag_longf (a : Option Addr) (n cap : Nat) (k : Int) (field : ByteArray) (w : World) (hn : n ≤ maxLen) (hs : field.size ≤ maxLen) (hfit : fitsB n field.size = true) (h1 : n ≤ 65536) (h2 : 65536 < field.size) :
    Calls Tryf.prog 8 #[.slice a n cap, .string field, .int .i64 k] w fun e w' => e = .returned (.bool true) ∧ Below w.heap.size w w' := by
  have g1 : ¬ (n : Int) > 65536 := by omega
  have g2 : (field.size : Int) > 65536 := by omega
  go_enter Tryf.func8, Tryf.ntmps8
  go_wp2_with fail
  refine (bytes23 a n cap field k w hn hs).mono ?_
  rintro e wx ⟨rfl, hw⟩
  rw [hw, hfit]; clear hw wx
  go_wp2
  go_ret
  exact ⟨rfl, Below.refl _ _⟩

theorem ag_neg (a : Option Addr) (n cap : Nat) (k : Int) (field : ByteArray) (w : World) (hn : n ≤ maxLen) (hs : field.size ≤ maxLen) (hfit : fitsB n field.size = true) (h1 : n ≤ 65536) (h2 : field.size ≤ 65536) (h3 : k < 0) :
    Calls Tryf.prog 8 #[.slice a n cap, .string field, .int .i64 k] w fun e w' => e = .returned (.bool true) ∧ Below w.heap.size w w' := by
  have g1 : ¬ (n : Int) > 65536 := by omega
  have g2 : ¬ (field.size : Int) > 65536 := by omega
  go_enter Tryf.func8, Tryf.ntmps8
  go_wp2_with fail
  refine (bytes23 a n cap field k w hn hs).mono ?_
  rintro e wx ⟨rfl, hw⟩
  rw [hw, hfit]; clear hw wx
  go_wp2
  go_ret
  exact ⟨rfl, Below.refl _ _⟩

theorem ag_big (a : Option Addr) (n cap : Nat) (k : Int) (field : ByteArray) (w : World) (hn : n ≤ maxLen) (hs : field.size ≤ maxLen) (hfit : fitsB n field.size = true) (h1 : n ≤ 65536) (h2 : field.size ≤ 65536) (h3 : 8 < k) :
    Calls Tryf.prog 8 #[.slice a n cap, .string field, .int .i64 k] w fun e w' => e = .returned (.bool true) ∧ Below w.heap.size w w' := by
  have g1 : ¬ (n : Int) > 65536 := by omega
  have g2 : ¬ (field.size : Int) > 65536 := by omega
  have g3 : ¬ k < 0 := by omega
  go_enter Tryf.func8, Tryf.ntmps8
  go_wp2_with fail
  refine (bytes23 a n cap field k w hn hs).mono ?_
  rintro e wx ⟨rfl, hw⟩
  rw [hw, hfit]; clear hw wx
  go_wp2
  go_ret
  exact ⟨rfl, Below.refl _ _⟩

set_option maxHeartbeats 800000 in
theorem ag_cut (F : Interp) (a : Option Addr) (cap : Nat) (bs : List Int) (n : Nat) (field : ByteArray) (w : World) (hF : F.answers w.tape) (hin : Octs w a bs.length cap bs) (hfit : fitsB bs.length field.size = true)
    (hl : bs.length ≤ 65536) (hf : field.size ≤ 65536) (h8 : n ≤ 8) (ho : Oct bs) (hn : bs.length < n) :
    Calls Tryf.prog 8 #[.slice a bs.length cap, .string field, .int .i64 n] w fun e w' => e = .returned (.bool true) ∧ Below w.heap.size w w' := by
  have hq := eql22
  have g1 : ¬ (bs.length : Int) > 65536 := by omega
  have g2 : ¬ (field.size : Int) > 65536 := by omega
  have g3 : ¬ (n : Int) < 0 := by omega
  have g4 : ¬ (n : Int) > 8 := by omega
  have g5 : (n : Int) > (bs.length : Int) := by omega
  go_enter Tryf.func8, Tryf.ntmps8
  go_wp2_with fail
  refine (bytes23 a _ cap field n w (by unfold maxLen; omega) (by unfold maxLen; omega)).mono ?_
  rintro e wx ⟨rfl, hw⟩
  rw [hw, hfit]; clear hw wx
  go_wp2_with fail
  refine (clone_any a _ cap bs _ hin (by omega)).mono ?_
  rintro e w1 ⟨⟨a1, rfl, p1⟩, hs1, hb1⟩
  go_wp2_with fail
  refine (clone_any a1 _ _ bs _ p1.octs (by omega)).mono ?_
  rintro e w2 ⟨⟨a2, rfl, p2⟩, hs2, hb2⟩
  have p1' := p1.below hb2
  go_wp2_with fail
  refine (clone_any a1 _ _ bs _ p1'.octs (by omega)).mono ?_
  rintro e w3 ⟨⟨a3, rfl, p3⟩, hs3, hb3⟩
  go_wp2_with fail
  refine (newReader_own a1 w.heap.size bs _ (p1'.below hb3)).mono ?_
  rintro e w4 ⟨rfl, r4, hb4, hlt4⟩
  have z1 := hb1.size
  have z2 := hb2.size
  have z3 := hb3.size
  have o1 : Own w4 w.heap.size a1 bs := (p1'.below hb3).below hb4
  have o2 : Own w4 w1.heap.size a2 bs := (p2.below hb3).below hb4
  have o3 : Own w4 w2.heap.size a3 bs := p3.below hb4
  have hend : Below w.heap.size w w4 := ((hb1.trans (hb2.mono z1)).trans (hb3.mono (by omega))).trans (hb4.mono (by omega))
  have n1 : 0 < bs.length → w.heap.size < w3.heap.size := fun h => by have := (p1.1 h).2; omega
  have n2 : 0 < bs.length → w1.heap.size < w3.heap.size := fun h => by have := (p2.1 h).2; omega
  have n3 : 0 < bs.length → w2.heap.size < w3.heap.size := fun h => by have := (p3.1 h).2; omega
  have l1 : w.heap.size ≤ w3.heap.size := by omega
  have l2 : w.heap.size ≤ w4.heap.size := by omega
  have F4 : F.answers w4.tape := answers_below (answers_below (answers_below (answers_below hF hb1) hb2) hb3) hb4
  clear p1 p1' p2 p3 hb1 hb2 hb3 hb4 hs1 hs2 hs3 hin hF
  go_wp2_with fail
  refine (vec_fail F _ _ _ _ field w4 F4 r4 (fun av _ => rv_cut F av _ _ _ w4 F4 (by omega))).mono ?_
  rintro e w5 ⟨rfl, ⟨a5, r5⟩, u5⟩
  go_wp2_with fail
  refine (len_rs _ _ _ _ _ w5 r5).mono ?_
  rintro e wx ⟨rfl, hw⟩
  rw [hw, Nat.sub_zero]; clear hw wx
  go_wp2_with fail
  refine (done_rs_err _ _ _ _ a5 w5 r5).mono ?_
  rintro e wx ⟨rfl, hw⟩
  rw [hw]; clear hw wx
  have o25 := o2.upd u5 (fun h => by have := n2 h; omega)
  have o35 := o3.upd u5 (fun h => by have := n3 h; omega)
  have o15 := o1.upd u5 (fun h => by have := n1 h; omega)
  have s5 := Upd.size u5
  go_wp2_with fail
  refine (newReader_own a2 w1.heap.size bs w5 o25).mono ?_
  rintro e w6 ⟨rfl, r6, hb6, hlt6⟩
  have o16 := o15.below hb6
  have o26 := o25.below hb6
  have o36 := o35.below hb6
  have F6 := answers_below (answers_upd F4 u5) hb6
  have m1 : 0 < bs.length → w.heap.size ≠ w5.heap.size := fun h => by have := n1 h; omega
  have m2 : 0 < bs.length → w1.heap.size ≠ w5.heap.size := fun h => by have := n2 h; omega
  have m3 : 0 < bs.length → w2.heap.size ≠ w5.heap.size := fun h => by have := n3 h; omega
  have hend6 : Below w.heap.size w w6 := (hend.trans (u5.below l1 l2)).trans (hb6.mono (by omega))
  have l5 : w.heap.size ≤ w5.heap.size := by omega
  have l6 : w.heap.size ≤ w6.heap.size := by omega
  have ra6 : RA w6 w5.heap.size w1.heap.size bs := ⟨0, _, r6, Or.inl rfl⟩
  have b26 := o26.2.2
  clear o1 o2 o3 o15 o25 o35 o16 o26 o36 r4 r5 r6 u5 hb6 m1 m3 n1 n2 n3 hend
  go_wp2_with fail
  go_loopw [14, 15] (fun l r wr => ∃ (x : Int) (j : Nat), l = .int .u64 x ∧ r = .int .i64 j ∧ j ≤ 8 ∧ RA wr w5.heap.size w1.heap.size bs ∧ Upd w5.heap.size w6 wr) (fun _ r _ => (intOf r).toNat)
  case atStart => exact ⟨_, n, rfl, rfl, h8, ra6, Upd.refl _ _⟩
  case round =>
    obtain ⟨x, j, rfl, rfl, hj, hra, hu⟩ := hrel
    have Fr := answers_upd F6 hu
    have br := b26.upd hu m2
    rcases (show j = 0 ∨ j = 1 ∨ j = 2 ∨ j = 3 ∨ 4 ≤ j by omega) with rfl | rfl | rfl | rfl | hj4
    · go_wp2_with fail
      go_ret
      exact ⟨rfl, hend6.trans (Upd.below hu l5 l6)⟩
    · go_wp2_with fail
      refine (uint8_ra F _ _ bs field wr Fr hra br ho m2).mono ?_
      rintro e w8 ⟨y8, rfl, ⟨y81, y82⟩, hra8, hu8⟩
      go_wp2_with fail
      go_ret
      exact ⟨rfl, hend6.trans (Upd.below (hu.trans hu8) l5 l6)⟩
    · go_wp2_with fail
      refine (uint16_ra F _ _ bs field wr Fr hra br ho m2).mono ?_
      rintro e w7 ⟨y, rfl, ⟨y1, y2⟩, hra7, hu7⟩
      go_wp2_with fail
      go_ret
      exact ⟨rfl, hend6.trans (Upd.below (hu.trans hu7) l5 l6)⟩
    · go_wp2_with fail
      refine (uint16_ra F _ _ bs field wr Fr hra br ho m2).mono ?_
      rintro e w7 ⟨y, rfl, ⟨y1, y2⟩, hra7, hu7⟩
      go_wp2_with fail
      refine (uint8_ra F _ _ bs field w7 (answers_upd Fr hu7) hra7 (br.upd hu7 m2) ho m2).mono ?_
      rintro e w8 ⟨y8, rfl, ⟨y81, y82⟩, hra8, hu8⟩
      go_wp2_with fail
      go_ret
      exact ⟨rfl, hend6.trans (Upd.below ((hu.trans hu7).trans hu8) l5 l6)⟩
    · have hj4' : (j : Int) ≥ 4 := by omega
      go_wp2_with fail
      refine (uint32_ra F _ _ bs field wr Fr hra br ho m2).mono ?_
      rintro e w7 ⟨y, rfl, ⟨y1, y2⟩, hra7, hu7⟩
      go_wp2
      go_roundw
      case rel => exact ⟨_, j - 4, rfl, by go_num, by omega, hra7, hu.trans hu7⟩
      case measure => simp [intOf]; omega

end Go.Proofs.Qxb6616505aFmt
