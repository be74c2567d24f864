/-
  FnUint8PairIsUint16: the walk.
-/
import Derived.Test.Qxb6616505aFmtU16
namespace Go.Proofs.Qxb6616505aFmt
open Go.RowKit Go.Extern.Stop Go.Stop Go.Extern

theorem pr_unfit (a : Option Addr) (n cap : Nat) (field : ByteArray) (w : World) (hn : n ≤ maxLen) (hs : field.size ≤ maxLen) (hfit : fitsB n field.size = false) :
    Calls Tryf.prog 7 #[.slice a n cap, .string field] w fun e w' => e = .returned (.bool true) ∧ Below w.heap.size w w' := by
  go_enter Tryf.func7, Tryf.ntmps7
  go_wp2_with fail
  refine (bytes21 a n cap field w hn hs).mono ?_
  rintro e wx ⟨rfl, hw⟩
  rw [hw, hfit]; clear hw wx
  go_wp2
  go_ret
  exact ⟨rfl, Below.refl _ _⟩

theorem pr_longb (a : Option Addr) (n cap : Nat) (field : ByteArray) (w : World) (hn : n ≤ maxLen) (hs : field.size ≤ maxLen) (hfit : fitsB n field.size = true) (h1 : 65536 < n) :
    Calls Tryf.prog 7 #[.slice a n cap, .string field] w fun e w' => e = .returned (.bool true) ∧ Below w.heap.size w w' := by
  have g1 : (n : Int) > 65536 := by omega
  go_enter Tryf.func7, Tryf.ntmps7
  go_wp2_with fail
  refine (bytes21 a n cap field w hn hs).mono ?_
  rintro e wx ⟨rfl, hw⟩
  rw [hw, hfit]; clear hw wx
  go_wp2
  go_ret
  exact ⟨rfl, Below.refl _ _⟩

theorem pr_longf (a : Option Addr) (n cap : Nat) (field : ByteArray) (w : World) (hn : n ≤ maxLen) (hs : field.size ≤ maxLen) (hfit : fitsB n field.size = true) (h1 : n ≤ 65536) (h2 : 65536 < field.size) :
    Calls Tryf.prog 7 #[.slice a n cap, .string field] w fun e w' => e = .returned (.bool true) ∧ Below w.heap.size w w' := by
  have g1 : ¬ (n : Int) > 65536 := by omega
  have g2 : (field.size : Int) > 65536 := by omega
  go_enter Tryf.func7, Tryf.ntmps7
  go_wp2_with fail
  refine (bytes21 a n cap field w hn hs).mono ?_
  rintro e wx ⟨rfl, hw⟩
  rw [hw, hfit]; clear hw wx
  go_wp2
  go_ret
  exact ⟨rfl, Below.refl _ _⟩

set_option maxHeartbeats 800000 in
theorem pr_two (F : Interp) (a : Option Addr) (cap : Nat) (bs : List Int) (field : ByteArray) (w : World) (hF : F.answers w.tape) (hin : Octs w a bs.length cap bs) (hfit : fitsB bs.length field.size = true)
    (hl : bs.length ≤ 65536) (hf : field.size ≤ 65536) (ho : Oct bs) (h2 : bs.length = 2) :
    Calls Tryf.prog 7 #[.slice a bs.length cap, .string field] w fun e w' => e = .returned (.bool true) ∧ Below w.heap.size w w' := by
  have g1 : ¬ (bs.length : Int) > 65536 := by omega
  have g2 : ¬ (field.size : Int) > 65536 := by omega
  have HE : Hid (bs.length = 2) := h2
  have g3 : (bs.length : Int) ≥ 2 := by omega
  have k2 : 2 ≤ bs.length := by omega
  have g4 : ((bs.length : Int) != 2) = false := by simp; omega
  clear h2
  go_enter Tryf.func7, Tryf.ntmps7
  go_wp2_with fail
  refine (bytes21 a _ cap field w (by unfold maxLen; omega) (by unfold maxLen; omega)).mono ?_
  rintro e wx ⟨rfl, hw⟩
  rw [hw, hfit]; clear hw wx
  go_wp2_with fail
  refine (clone_any a _ cap bs _ hin (by omega)).mono ?_
  rintro e w1 ⟨⟨a1, rfl, p1⟩, hs1, hb1⟩
  go_wp2_with fail
  refine (clone_any a1 _ _ bs _ p1.octs (by omega)).mono ?_
  rintro e w2 ⟨⟨a2, rfl, p2⟩, hs2, hb2⟩
  have p1' := p1.below hb2
  go_wp2_with fail
  refine (clone_any a1 _ _ bs _ p1'.octs (by omega)).mono ?_
  rintro e w3 ⟨⟨a3, rfl, p3⟩, hs3, hb3⟩
  go_wp2_with fail
  refine (newReader_own a1 w.heap.size bs _ (p1'.below hb3)).mono ?_
  rintro e w4 ⟨rfl, r4, hb4, hlt4⟩
  have z1 := hb1.size
  have z2 := hb2.size
  have z3 := hb3.size
  have o1 : Own w4 w.heap.size a1 bs := (p1'.below hb3).below hb4
  have o2 : Own w4 w1.heap.size a2 bs := (p2.below hb3).below hb4
  have o3 : Own w4 w2.heap.size a3 bs := p3.below hb4
  have hend : Below w.heap.size w w4 := ((hb1.trans (hb2.mono z1)).trans (hb3.mono (by omega))).trans (hb4.mono (by omega))
  have n1 : 0 < bs.length → w.heap.size < w3.heap.size := fun h => by have := (p1.1 h).2; omega
  have n2 : 0 < bs.length → w1.heap.size < w3.heap.size := fun h => by have := (p2.1 h).2; omega
  have n3 : 0 < bs.length → w2.heap.size < w3.heap.size := fun h => by have := (p3.1 h).2; omega
  have l1 : w.heap.size ≤ w3.heap.size := by omega
  have l2 : w.heap.size ≤ w4.heap.size := by omega
  have F4 : F.answers w4.tape := answers_below (answers_below (answers_below (answers_below hF hb1) hb2) hb3) hb4
  clear p1 p1' p2 p3 hb1 hb2 hb3 hb4 hs1 hs2 hs3 hin hF
  have m1 := n1 (by omega)
  have m2 := n2 (by omega)
  have m3 := n3 (by omega)
  obtain ⟨e3, _⟩ := o3.1 (by omega)
  subst e3
  have c10 := o1.2.2 0 (by omega)
  have c11 := o1.2.2 1 (by omega)
  have c20 := o2.2.2 0 (by omega)
  have c21 := o2.2.2 1 (by omega)
  have c30 := o3.2.2 0 (by omega)
  have c31 := o3.2.2 1 (by omega)
  have b0 := ho 0
  have b1 := ho 1
  generalize bs.getD 0 0 = x0 at *
  generalize bs.getD 1 0 = x1 at *
  have q10 := World.block_lt_of_cell? _ _ c10
  have q20 := World.block_lt_of_cell? _ _ c20
  have q30 := World.block_lt_of_cell? _ _ c30
  go_wp2_with fail
  refine (uint8_rs_ok _ _ _ 0 x0 field w4 r4 (by omega) (by omega) c10).mono ?_
  rintro e w5 ⟨rfl, r5, u5⟩
  have d11 := (u5.cell (p := ⟨w.heap.size, 1, none⟩) q10 (by simp; omega)).trans c11
  go_wp2_with fail
  refine (uint8_rs_ok _ _ _ (0 + 1) x1 field w5 r5 (by omega) (by omega) d11).mono ?_
  rintro e w6 ⟨rfl, r6, u6⟩
  have u46 := u5.trans u6
  have o26 := o2.upd u46 (fun _ => by omega)
  have s6 := u46.size
  go_wp2_with fail
  refine (newReader_own a2 w1.heap.size bs w6 o26).mono ?_
  rintro e w7 ⟨rfl, r7, hb7, hlt7⟩
  have r67 := r6.of_below hb7
  have u47 : Upd w3.heap.size w4 w7 := u46.trans (Upd.of_below hb7)
  have e20 := (u47.cell (p := ⟨w1.heap.size, 0, none⟩) q20 (by simp; omega)).trans c20
  have e21 := (u47.cell (p := ⟨w1.heap.size, 0 + 1, none⟩) q20 (by simp; omega)).trans c21
  go_wp2_with fail
  refine (uint16_rs_ok _ _ _ 0 x0 x1 field w7 r7 (by omega) (by omega) e20 e21 b0 b1).mono ?_
  rintro e w8 ⟨rfl, r8, u8⟩
  have r18 := u8.rs r67 (by omega)
  have e30 := (u8.cell (p := ⟨w2.heap.size, 0, none⟩) (by have := hb7.size; simp; omega) (by simp; omega)).trans ((u47.cell (p := ⟨w2.heap.size, 0, none⟩) q30 (by simp; omega)).trans c30)
  have e31 := (u8.cell (p := ⟨w2.heap.size, 1, none⟩) (by have := hb7.size; simp; omega) (by simp; omega)).trans ((u47.cell (p := ⟨w2.heap.size, 1, none⟩) q30 (by simp; omega)).trans c31)
  have hor := or_u16_8' x0 x1 b0.1 b0.2 b1.1 b1.2
  have hfin8 : Below w.heap.size w w8 := (hend.trans (u47.below l1 l2)).trans (u8.below (by omega) (by have := hb7.size; omega))
  have F8 := answers_upd (answers_upd F4 u47) u8
  obtain ⟨b01, b02⟩ := b0
  obtain ⟨b11, b12⟩ := b1
  clear c10 c11 c20 c21 c30 c31 d11 e20 e21 o1 o2 o3 o26 r4 r5 r6 r67 r7 u5 u6 u46 u8
  go_wp2_with fail
  refine (len_rs _ _ _ _ _ w8 r18).mono ?_
  rintro e wx ⟨rfl, hw⟩
  rw [hw]; clear hw wx
  go_wp2_with fail
  refine (len_rs _ _ _ _ _ w8 r8).mono ?_
  rintro e wx ⟨rfl, hw⟩
  rw [hw]; clear hw wx
  have r18' : RS w8 w3.heap.size w.heap.size bs.length bs.length .nilIface := by have h := r18; rw [show 0 + 1 + 1 = bs.length by have := HE.out; omega] at h; exact h
  have r8' : RS w8 w6.heap.size w1.heap.size bs.length bs.length .nilIface := by have h := r8; rw [show 0 + 2 = bs.length by have := HE.out; omega] at h; exact h
  go_wp2_with fail
  refine (done_rs_nil _ _ _ w8 r18').mono ?_
  rintro e wx ⟨rfl, hw⟩
  rw [hw]; clear hw wx
  go_wp2_with fail
  refine (done_rs_nil _ _ _ w8 r8').mono ?_
  rintro e wx ⟨rfl, hw⟩
  rw [hw]; clear hw wx
  go_wp2_with fail
  go_ret
  exact ⟨rfl, hfin8⟩

set_option maxHeartbeats 800000 in
theorem pr_more (F : Interp) (a : Option Addr) (cap : Nat) (bs : List Int) (field : ByteArray) (w : World) (hF : F.answers w.tape) (hin : Octs w a bs.length cap bs) (hfit : fitsB bs.length field.size = true)
    (hl : bs.length ≤ 65536) (hf : field.size ≤ 65536) (ho : Oct bs) (h2 : 2 < bs.length) :
    Calls Tryf.prog 7 #[.slice a bs.length cap, .string field] w fun e w' => e = .returned (.bool true) ∧ Below w.heap.size w w' := by
  have g1 : ¬ (bs.length : Int) > 65536 := by omega
  have g2 : ¬ (field.size : Int) > 65536 := by omega
  have HE : Hid (2 < bs.length) := h2
  have g3 : (bs.length : Int) ≥ 2 := by omega
  have k2 : 2 ≤ bs.length := by omega
  have g4 : ((bs.length : Int) != 2) = true := by simp; omega
  clear h2
  go_enter Tryf.func7, Tryf.ntmps7
  go_wp2_with fail
  refine (bytes21 a _ cap field w (by unfold maxLen; omega) (by unfold maxLen; omega)).mono ?_
  rintro e wx ⟨rfl, hw⟩
  rw [hw, hfit]; clear hw wx
  go_wp2_with fail
  refine (clone_any a _ cap bs _ hin (by omega)).mono ?_
  rintro e w1 ⟨⟨a1, rfl, p1⟩, hs1, hb1⟩
  go_wp2_with fail
  refine (clone_any a1 _ _ bs _ p1.octs (by omega)).mono ?_
  rintro e w2 ⟨⟨a2, rfl, p2⟩, hs2, hb2⟩
  have p1' := p1.below hb2
  go_wp2_with fail
  refine (clone_any a1 _ _ bs _ p1'.octs (by omega)).mono ?_
  rintro e w3 ⟨⟨a3, rfl, p3⟩, hs3, hb3⟩
  go_wp2_with fail
  refine (newReader_own a1 w.heap.size bs _ (p1'.below hb3)).mono ?_
  rintro e w4 ⟨rfl, r4, hb4, hlt4⟩
  have z1 := hb1.size
  have z2 := hb2.size
  have z3 := hb3.size
  have o1 : Own w4 w.heap.size a1 bs := (p1'.below hb3).below hb4
  have o2 : Own w4 w1.heap.size a2 bs := (p2.below hb3).below hb4
  have o3 : Own w4 w2.heap.size a3 bs := p3.below hb4
  have hend : Below w.heap.size w w4 := ((hb1.trans (hb2.mono z1)).trans (hb3.mono (by omega))).trans (hb4.mono (by omega))
  have n1 : 0 < bs.length → w.heap.size < w3.heap.size := fun h => by have := (p1.1 h).2; omega
  have n2 : 0 < bs.length → w1.heap.size < w3.heap.size := fun h => by have := (p2.1 h).2; omega
  have n3 : 0 < bs.length → w2.heap.size < w3.heap.size := fun h => by have := (p3.1 h).2; omega
  have l1 : w.heap.size ≤ w3.heap.size := by omega
  have l2 : w.heap.size ≤ w4.heap.size := by omega
  have F4 : F.answers w4.tape := answers_below (answers_below (answers_below (answers_below hF hb1) hb2) hb3) hb4
  clear p1 p1' p2 p3 hb1 hb2 hb3 hb4 hs1 hs2 hs3 hin hF
  have m1 := n1 (by omega)
  have m2 := n2 (by omega)
  have m3 := n3 (by omega)
  obtain ⟨e3, _⟩ := o3.1 (by omega)
  subst e3
  have c10 := o1.2.2 0 (by omega)
  have c11 := o1.2.2 1 (by omega)
  have c20 := o2.2.2 0 (by omega)
  have c21 := o2.2.2 1 (by omega)
  have c30 := o3.2.2 0 (by omega)
  have c31 := o3.2.2 1 (by omega)
  have b0 := ho 0
  have b1 := ho 1
  generalize bs.getD 0 0 = x0 at *
  generalize bs.getD 1 0 = x1 at *
  have q10 := World.block_lt_of_cell? _ _ c10
  have q20 := World.block_lt_of_cell? _ _ c20
  have q30 := World.block_lt_of_cell? _ _ c30
  go_wp2_with fail
  refine (uint8_rs_ok _ _ _ 0 x0 field w4 r4 (by omega) (by omega) c10).mono ?_
  rintro e w5 ⟨rfl, r5, u5⟩
  have d11 := (u5.cell (p := ⟨w.heap.size, 1, none⟩) q10 (by simp; omega)).trans c11
  go_wp2_with fail
  refine (uint8_rs_ok _ _ _ (0 + 1) x1 field w5 r5 (by omega) (by omega) d11).mono ?_
  rintro e w6 ⟨rfl, r6, u6⟩
  have u46 := u5.trans u6
  have o26 := o2.upd u46 (fun _ => by omega)
  have s6 := u46.size
  go_wp2_with fail
  refine (newReader_own a2 w1.heap.size bs w6 o26).mono ?_
  rintro e w7 ⟨rfl, r7, hb7, hlt7⟩
  have r67 := r6.of_below hb7
  have u47 : Upd w3.heap.size w4 w7 := u46.trans (Upd.of_below hb7)
  have e20 := (u47.cell (p := ⟨w1.heap.size, 0, none⟩) q20 (by simp; omega)).trans c20
  have e21 := (u47.cell (p := ⟨w1.heap.size, 0 + 1, none⟩) q20 (by simp; omega)).trans c21
  go_wp2_with fail
  refine (uint16_rs_ok _ _ _ 0 x0 x1 field w7 r7 (by omega) (by omega) e20 e21 b0 b1).mono ?_
  rintro e w8 ⟨rfl, r8, u8⟩
  have r18 := u8.rs r67 (by omega)
  have e30 := (u8.cell (p := ⟨w2.heap.size, 0, none⟩) (by have := hb7.size; simp; omega) (by simp; omega)).trans ((u47.cell (p := ⟨w2.heap.size, 0, none⟩) q30 (by simp; omega)).trans c30)
  have e31 := (u8.cell (p := ⟨w2.heap.size, 1, none⟩) (by have := hb7.size; simp; omega) (by simp; omega)).trans ((u47.cell (p := ⟨w2.heap.size, 1, none⟩) q30 (by simp; omega)).trans c31)
  have hor := or_u16_8' x0 x1 b0.1 b0.2 b1.1 b1.2
  have hfin8 : Below w.heap.size w w8 := (hend.trans (u47.below l1 l2)).trans (u8.below (by omega) (by have := hb7.size; omega))
  have F8 := answers_upd (answers_upd F4 u47) u8
  obtain ⟨b01, b02⟩ := b0
  obtain ⟨b11, b12⟩ := b1
  clear c10 c11 c20 c21 c30 c31 d11 e20 e21 o1 o2 o3 o26 r4 r5 r6 r67 r7 u5 u6 u46 u8
  go_wp2_with fail
  refine (len_rs _ _ _ _ _ w8 r18).mono ?_
  rintro e wx ⟨rfl, hw⟩
  rw [hw]; clear hw wx
  go_wp2_with fail
  refine (len_rs _ _ _ _ _ w8 r8).mono ?_
  rintro e wx ⟨rfl, hw⟩
  rw [hw]; clear hw wx
  go_wp2_with fail
  refine (done_rs_left F _ _ _ _ w8 F8 r18 (by have := HE.out; omega)).mono ?_
  rintro e w9 ⟨a9, rfl, r9, u9⟩
  have r89 := u9.rs r8 (by omega)
  go_wp2_with fail
  refine (done_rs_left F _ _ _ _ w9 (answers_upd F8 u9) r89 (by have := HE.out; omega)).mono ?_
  rintro e w10 ⟨a10, rfl, r10, u10⟩
  go_wp2_with fail
  go_ret
  exact ⟨rfl, (hfin8.trans (u9.below l1 (by have := hfin8.size; omega))).trans (u10.below (by omega) (by have := hfin8.size; have := u9.size; omega))⟩

set_option maxHeartbeats 800000 in
theorem pr_one (F : Interp) (a : Option Addr) (cap : Nat) (bs : List Int) (field : ByteArray) (w : World) (hF : F.answers w.tape) (hin : Octs w a bs.length cap bs) (hfit : fitsB bs.length field.size = true)
    (hl : bs.length ≤ 65536) (hf : field.size ≤ 65536) (ho : Oct bs) (h1 : bs.length = 1) :
    Calls Tryf.prog 7 #[.slice a bs.length cap, .string field] w fun e w' => e = .returned (.bool true) ∧ Below w.heap.size w w' := by
  have g1 : ¬ (bs.length : Int) > 65536 := by omega
  have g2 : ¬ (field.size : Int) > 65536 := by omega
  have HE : Hid (bs.length = 1) := h1
  have g3 : ¬ (bs.length : Int) ≥ 2 := by omega
  have k1 : 1 ≤ bs.length := by omega
  have k2 : bs.length ≤ 1 := by omega
  have g4 : ((bs.length : Int) == 1) = true := by simp; omega
  clear h1
  go_enter Tryf.func7, Tryf.ntmps7
  go_wp2_with fail
  refine (bytes21 a _ cap field w (by unfold maxLen; omega) (by unfold maxLen; omega)).mono ?_
  rintro e wx ⟨rfl, hw⟩
  rw [hw, hfit]; clear hw wx
  go_wp2_with fail
  refine (clone_any a _ cap bs _ hin (by omega)).mono ?_
  rintro e w1 ⟨⟨a1, rfl, p1⟩, hs1, hb1⟩
  go_wp2_with fail
  refine (clone_any a1 _ _ bs _ p1.octs (by omega)).mono ?_
  rintro e w2 ⟨⟨a2, rfl, p2⟩, hs2, hb2⟩
  have p1' := p1.below hb2
  go_wp2_with fail
  refine (clone_any a1 _ _ bs _ p1'.octs (by omega)).mono ?_
  rintro e w3 ⟨⟨a3, rfl, p3⟩, hs3, hb3⟩
  go_wp2_with fail
  refine (newReader_own a1 w.heap.size bs _ (p1'.below hb3)).mono ?_
  rintro e w4 ⟨rfl, r4, hb4, hlt4⟩
  have z1 := hb1.size
  have z2 := hb2.size
  have z3 := hb3.size
  have o1 : Own w4 w.heap.size a1 bs := (p1'.below hb3).below hb4
  have o2 : Own w4 w1.heap.size a2 bs := (p2.below hb3).below hb4
  have o3 : Own w4 w2.heap.size a3 bs := p3.below hb4
  have hend : Below w.heap.size w w4 := ((hb1.trans (hb2.mono z1)).trans (hb3.mono (by omega))).trans (hb4.mono (by omega))
  have n1 : 0 < bs.length → w.heap.size < w3.heap.size := fun h => by have := (p1.1 h).2; omega
  have n2 : 0 < bs.length → w1.heap.size < w3.heap.size := fun h => by have := (p2.1 h).2; omega
  have n3 : 0 < bs.length → w2.heap.size < w3.heap.size := fun h => by have := (p3.1 h).2; omega
  have l1 : w.heap.size ≤ w3.heap.size := by omega
  have l2 : w.heap.size ≤ w4.heap.size := by omega
  have F4 : F.answers w4.tape := answers_below (answers_below (answers_below (answers_below hF hb1) hb2) hb3) hb4
  clear p1 p1' p2 p3 hb1 hb2 hb3 hb4 hs1 hs2 hs3 hin hF
  have m1 := n1 (by omega)
  have m2 := n2 (by omega)
  have m3 := n3 (by omega)
  obtain ⟨e3, _⟩ := o3.1 (by omega)
  subst e3
  have c10 := o1.2.2 0 (by omega)
  have c30 := o3.2.2 0 (by omega)
  have b0 := ho 0
  generalize bs.getD 0 0 = x0 at *
  have q30 := World.block_lt_of_cell? _ _ c30
  go_wp2_with fail
  refine (uint8_rs_ok _ _ _ 0 x0 field w4 r4 (by omega) (by omega) c10).mono ?_
  rintro e w5 ⟨rfl, r5, u5⟩
  have r5' : RS w5 w3.heap.size w.heap.size bs.length bs.length .nilIface := by have h := r5; rw [show 0 + 1 = bs.length by have := HE.out; omega] at h; exact h
  go_wp2_with fail
  refine (uint8_rs_cut F _ _ _ field w5 (answers_upd F4 u5) r5').mono ?_
  rintro e w6 ⟨rfl, ⟨a6, r6⟩, u6⟩
  have u46 := u5.trans u6
  have o26 := o2.upd u46 (fun _ => by omega)
  have s6 := u46.size
  go_wp2_with fail
  refine (newReader_own a2 w1.heap.size bs w6 o26).mono ?_
  rintro e w7 ⟨rfl, r7, hb7, hlt7⟩
  have r67 := r6.of_below hb7
  have u47 : Upd w3.heap.size w4 w7 := u46.trans (Upd.of_below hb7)
  go_wp2_with fail
  refine (uint16_rs_cut F _ _ _ 0 field w7 (answers_upd F4 u47) r7 (by omega)).mono ?_
  rintro e w8 ⟨rfl, ⟨a8, r8⟩, u8⟩
  have r18 := u8.rs r67 (by omega)
  have e30 := (u8.cell (p := ⟨w2.heap.size, 0, none⟩) (by have := hb7.size; simp; omega) (by simp; omega)).trans ((u47.cell (p := ⟨w2.heap.size, 0, none⟩) q30 (by simp; omega)).trans c30)
  have hfin8 : Below w.heap.size w w8 := (hend.trans (u47.below l1 l2)).trans (u8.below (by omega) (by have := hb7.size; omega))
  clear c10 c30 o1 o2 o3 o26 r4 r5 r5' r6 r67 r7 u5 u6 u46 u8
  go_wp2_with fail
  refine (len_rs _ _ _ _ _ w8 r18).mono ?_
  rintro e wx ⟨rfl, hw⟩
  rw [hw, Nat.sub_self]; clear hw wx
  have g5 : (((bs.length - 0 : Nat) : Int) != 1) = false := by simp; omega
  go_wp2_with fail
  refine (len_rs _ _ _ _ _ w8 r8).mono ?_
  rintro e wx ⟨rfl, hw⟩
  rw [hw]; clear hw wx
  go_wp2_with fail
  refine (done_rs_err _ _ _ _ a6 w8 r18).mono ?_
  rintro e wx ⟨rfl, hw⟩
  rw [hw]; clear hw wx
  go_wp2_with fail
  refine (done_rs_err _ _ _ _ a8 w8 r8).mono ?_
  rintro e wx ⟨rfl, hw⟩
  rw [hw]; clear hw wx
  go_wp2_with fail
  go_ret
  exact ⟨rfl, hfin8⟩

set_option maxHeartbeats 800000 in
theorem pr_zero (F : Interp) (a : Option Addr) (cap : Nat) (bs : List Int) (field : ByteArray) (w : World) (hF : F.answers w.tape) (hin : Octs w a bs.length cap bs) (hfit : fitsB bs.length field.size = true)
    (hl : bs.length ≤ 65536) (hf : field.size ≤ 65536) (h1 : bs.length = 0) :
    Calls Tryf.prog 7 #[.slice a bs.length cap, .string field] w fun e w' => e = .returned (.bool true) ∧ Below w.heap.size w w' := by
  have g1 : ¬ (bs.length : Int) > 65536 := by omega
  have g2 : ¬ (field.size : Int) > 65536 := by omega
  have HE : Hid (bs.length = 0) := h1
  have g3 : ¬ (bs.length : Int) ≥ 2 := by omega
  have k2 : bs.length ≤ 0 := by omega
  have g4 : ((bs.length : Int) == 1) = false := by simp; omega
  clear h1
  go_enter Tryf.func7, Tryf.ntmps7
  go_wp2_with fail
  refine (bytes21 a _ cap field w (by unfold maxLen; omega) (by unfold maxLen; omega)).mono ?_
  rintro e wx ⟨rfl, hw⟩
  rw [hw, hfit]; clear hw wx
  go_wp2_with fail
  refine (clone_any a _ cap bs _ hin (by omega)).mono ?_
  rintro e w1 ⟨⟨a1, rfl, p1⟩, hs1, hb1⟩
  go_wp2_with fail
  refine (clone_any a1 _ _ bs _ p1.octs (by omega)).mono ?_
  rintro e w2 ⟨⟨a2, rfl, p2⟩, hs2, hb2⟩
  have p1' := p1.below hb2
  go_wp2_with fail
  refine (clone_any a1 _ _ bs _ p1'.octs (by omega)).mono ?_
  rintro e w3 ⟨⟨a3, rfl, p3⟩, hs3, hb3⟩
  go_wp2_with fail
  refine (newReader_own a1 w.heap.size bs _ (p1'.below hb3)).mono ?_
  rintro e w4 ⟨rfl, r4, hb4, hlt4⟩
  have z1 := hb1.size
  have z2 := hb2.size
  have z3 := hb3.size
  have o1 : Own w4 w.heap.size a1 bs := (p1'.below hb3).below hb4
  have o2 : Own w4 w1.heap.size a2 bs := (p2.below hb3).below hb4
  have o3 : Own w4 w2.heap.size a3 bs := p3.below hb4
  have hend : Below w.heap.size w w4 := ((hb1.trans (hb2.mono z1)).trans (hb3.mono (by omega))).trans (hb4.mono (by omega))
  have n1 : 0 < bs.length → w.heap.size < w3.heap.size := fun h => by have := (p1.1 h).2; omega
  have n2 : 0 < bs.length → w1.heap.size < w3.heap.size := fun h => by have := (p2.1 h).2; omega
  have n3 : 0 < bs.length → w2.heap.size < w3.heap.size := fun h => by have := (p3.1 h).2; omega
  have l1 : w.heap.size ≤ w3.heap.size := by omega
  have l2 : w.heap.size ≤ w4.heap.size := by omega
  have F4 : F.answers w4.tape := answers_below (answers_below (answers_below (answers_below hF hb1) hb2) hb3) hb4
  clear p1 p1' p2 p3 hb1 hb2 hb3 hb4 hs1 hs2 hs3 hin hF
  have r4' : RS w4 w3.heap.size w.heap.size bs.length bs.length .nilIface := by have h := r4; rw [show 0 = bs.length by have := HE.out; omega] at h; exact h
  go_wp2_with fail
  refine (uint8_rs_cut F _ _ _ field w4 F4 r4').mono ?_
  rintro e w5 ⟨rfl, ⟨a5, r5⟩, u5⟩
  go_wp2_with fail
  refine (uint8_rs_err _ _ _ _ a5 field w5 r5).mono ?_
  rintro e wx ⟨rfl, hw⟩
  rw [hw]; clear hw wx
  have o25 := o2.upd u5 (fun h => by omega)
  have s5 := u5.size
  go_wp2_with fail
  refine (newReader_own a2 w1.heap.size bs w5 o25).mono ?_
  rintro e w7 ⟨rfl, r7, hb7, hlt7⟩
  have r57 := r5.of_below hb7
  have u47 : Upd w3.heap.size w4 w7 := u5.trans (Upd.of_below hb7)
  go_wp2_with fail
  refine (uint16_rs_cut F _ _ _ 0 field w7 (answers_upd F4 u47) r7 (by omega)).mono ?_
  rintro e w8 ⟨rfl, ⟨a8, r8⟩, u8⟩
  have r18 := u8.rs r57 (by omega)
  have hfin8 : Below w.heap.size w w8 := (hend.trans (u47.below l1 l2)).trans (u8.below (by omega) (by have := hb7.size; omega))
  clear o1 o2 o3 o25 r4 r4' r5 r57 r7 u5 u8
  go_wp2_with fail
  refine (len_rs _ _ _ _ _ w8 r18).mono ?_
  rintro e wx ⟨rfl, hw⟩
  rw [hw, Nat.sub_self]; clear hw wx
  have g5 : (((bs.length - 0 : Nat) : Int) != 0) = false := by have := HE.out; simp only [bne_eq_false_iff_eq]; omega
  go_wp2_with fail
  refine (len_rs _ _ _ _ _ w8 r8).mono ?_
  rintro e wx ⟨rfl, hw⟩
  rw [hw]; clear hw wx
  go_wp2_with fail
  refine (done_rs_err _ _ _ _ a5 w8 r18).mono ?_
  rintro e wx ⟨rfl, hw⟩
  rw [hw]; clear hw wx
  go_wp2_with fail
  refine (done_rs_err _ _ _ _ a8 w8 r8).mono ?_
  rintro e wx ⟨rfl, hw⟩
  rw [hw]; clear hw wx
  go_wp2_with fail
  go_ret
  exact ⟨rfl, hfin8⟩

theorem pr_walk (F : Interp) (a : Option Addr) (n cap : Nat) (bs : List Int) (field : ByteArray) (w : World) (hF : F.answers w.tape) (hin : Octs w a n cap bs) (hn : n ≤ maxLen) (hs : field.size ≤ maxLen) (ho : Oct bs) :
    Calls Tryf.prog 7 #[.slice a n cap, .string field] w fun e w' => e = .returned (.bool true) ∧ Below w.heap.size w w' := by
  cases hfit : fitsB n field.size with
  | false => exact pr_unfit a n cap field w hn hs hfit
  | true =>
    rcases Nat.lt_or_ge 65536 n with h1 | h1
    · exact pr_longb a n cap field w hn hs hfit h1
    rcases Nat.lt_or_ge 65536 field.size with h2 | h2
    · exact pr_longf a n cap field w hn hs hfit h1 h2
    obtain rfl : bs.length = n := hin.1
    rcases Nat.lt_or_ge 2 bs.length with h3 | h3
    · exact pr_more F a cap bs field w hF hin hfit h1 h2 ho h3
    rcases (show bs.length = 2 ∨ bs.length = 1 ∨ bs.length = 0 by omega) with h4 | h4 | h4
    · exact pr_two F a cap bs field w hF hin hfit h1 h2 ho h4
    · exact pr_one F a cap bs field w hF hin hfit h1 h2 ho h4
    · exact pr_zero F a cap bs field w hF hin hfit h1 h2 h4

end Go.Proofs.Qxb6616505aFmt
