/-
  FnVectorAgreesWithFixedWidthReaders: the walk, the length that fits.
-/
import Derived.Test.Qxb6616505aFmtAgr
import Derived.Test.Qxb6616505aFmtVec
namespace Go.Proofs.Qxb6616505aFmt
open Go.RowKit Go.Extern.Stop Go.Stop Go.Extern
set_option maxRecDepth 100000

set_option maxHeartbeats 6000000 in
theorem ag_ok (F : Interp) (a : Option Addr) (cap : Nat) (bs : List Int) (n : Nat) (field : ByteArray) (w : World) (hF : F.answers w.tape) (hin : Octs w a bs.length cap bs) (hfit : fitsB bs.length field.size = true)
    (hl : bs.length ≤ 65536) (hf : field.size ≤ 65536) (h8 : n ≤ 8) (ho : Oct bs) (hn : n ≤ bs.length) (hm : be (bs.take n) ≤ (bs.length : Int) - n) :
    Calls Tryf.prog 8 #[.slice a bs.length cap, .string field, .int .i64 n] w fun e w' => e = .returned (.bool true) ∧ Below w.heap.size w w' := by
  have hq := eql22
  have g1 : ¬ (bs.length : Int) > 65536 := by omega
  have g2 : ¬ (field.size : Int) > 65536 := by omega
  have g3 : ¬ (n : Int) < 0 := by omega
  have g4 : ¬ (n : Int) > 8 := by omega
  have g5 : ¬ (n : Int) > (bs.length : Int) := by omega
  have HX : Hid (be (bs.take n) ≤ (bs.length : Int) - n) := hm
  clear hm
  go_enter Tryf.func8, Tryf.ntmps8
  go_wp2_with fail
  refine (bytes23 a _ cap field n w (by unfold maxLen; omega) (by unfold maxLen; omega)).mono ?_
  rintro e wx ⟨rfl, hw⟩
  rw [hw, hfit]; clear hw wx
  go_wp2_with fail
  refine (clone_any a _ cap bs _ hin (by omega)).mono ?_
  rintro e w1 ⟨⟨a1, rfl, p1⟩, hs1, hb1⟩
  go_wp2_with fail
  refine (clone_any a1 _ _ bs _ p1.octs (by omega)).mono ?_
  rintro e w2 ⟨⟨a2, rfl, p2⟩, hs2, hb2⟩
  have p1' := p1.below hb2
  go_wp2_with fail
  refine (clone_any a1 _ _ bs _ p1'.octs (by omega)).mono ?_
  rintro e w3 ⟨⟨a3, rfl, p3⟩, hs3, hb3⟩
  go_wp2_with fail
  refine (newReader_own a1 w.heap.size bs _ (p1'.below hb3)).mono ?_
  rintro e w4 ⟨rfl, r4, hb4, hlt4⟩
  have z1 := hb1.size
  have z2 := hb2.size
  have z3 := hb3.size
  have o1 : Own w4 w.heap.size a1 bs := (p1'.below hb3).below hb4
  have o2 : Own w4 w1.heap.size a2 bs := (p2.below hb3).below hb4
  have o3 : Own w4 w2.heap.size a3 bs := p3.below hb4
  have hend : Below w.heap.size w w4 := ((hb1.trans (hb2.mono z1)).trans (hb3.mono (by omega))).trans (hb4.mono (by omega))
  have n1 : 0 < bs.length → w.heap.size < w3.heap.size := fun h => by have := (p1.1 h).2; omega
  have n2 : 0 < bs.length → w1.heap.size < w3.heap.size := fun h => by have := (p2.1 h).2; omega
  have n3 : 0 < bs.length → w2.heap.size < w3.heap.size := fun h => by have := (p3.1 h).2; omega
  have l1 : w.heap.size ≤ w3.heap.size := by omega
  have l2 : w.heap.size ≤ w4.heap.size := by omega
  have F4 : F.answers w4.tape := answers_below (answers_below (answers_below (answers_below hF hb1) hb2) hb3) hb4
  clear p1 p1' p2 p3 hb1 hb2 hb3 hb4 hs1 hs2 hs3 hin hF
  go_wp2_with fail
  refine (vec_ok _ _ _ n bs field w4 r4 rfl o1.2.2 ho hl hn h8 HX.out).mono ?_
  rintro e w5a ⟨v1, m, hme, rfl, hv1, r5a, u5a⟩
  have HM : Hid ((m : Int) = be (bs.take n)) := hme
  clear hme
  have hmL : n + m ≤ bs.length := by have := HM.out; have := HX.out; omega
  have hmI : (m : Int) ≤ (bs.length : Int) - (n : Int) := by omega
  go_wp2_with fail
  refine (len_rs _ _ _ _ _ w5a r5a).mono ?_
  rintro e wx ⟨rfl, hw⟩
  rw [hw]; clear hw wx
  go_wp2_with fail
  refine (done_b F _ _ _ _ w5a (answers_upd F4 u5a) r5a).mono ?_
  rintro e w5 ⟨dv1, rfl, hd1, hgd1, ⟨err1, r5⟩, u5b⟩
  have u5 := u5a.trans u5b
  obtain ⟨b, hb⟩ : ∃ b, b = decide (n + m < bs.length) := ⟨_, rfl⟩
  rw [← hb] at hd1
  have HB : Hid (b = decide (n + m < bs.length)) := hb
  clear hb u5a u5b r5a
  have o25 := o2.upd u5 (fun h => by have := n2 h; omega)
  have o35 := o3.upd u5 (fun h => by have := n3 h; omega)
  have o15 := o1.upd u5 (fun h => by have := n1 h; omega)
  have s5 := Upd.size u5
  go_wp2_with fail
  refine (newReader_own a2 w1.heap.size bs w5 o25).mono ?_
  rintro e w6 ⟨rfl, r6, hb6, hlt6⟩
  have o16 := o15.below hb6
  have o26 := o25.below hb6
  have o36 := o35.below hb6
  have F6 := answers_below (answers_upd F4 u5) hb6
  have m1 : 0 < bs.length → w.heap.size ≠ w5.heap.size := fun h => by have := n1 h; omega
  have m2 : 0 < bs.length → w1.heap.size ≠ w5.heap.size := fun h => by have := n2 h; omega
  have m3 : 0 < bs.length → w2.heap.size ≠ w5.heap.size := fun h => by have := n3 h; omega
  have hend6 : Below w.heap.size w w6 := (hend.trans (u5.below l1 l2)).trans (hb6.mono (by omega))
  have l5 : w.heap.size ≤ w5.heap.size := by omega
  have l6 : w.heap.size ≤ w6.heap.size := by omega
  clear o1 o2 o3 o15 o25 o35 r4 r5 u5 hb6 n1 n2 n3 hend
  have b26 := o26.2.2
  go_wp2_with fail
  go_loopw [14, 15] (fun l r wr => ∃ o j : Nat, Hid (o + j = n) ∧ l = .int .u64 (be (bs.take o)) ∧ r = .int .i64 j ∧ o ≤ n ∧ j ≤ n ∧ RS wr w5.heap.size w1.heap.size bs.length o .nilIface ∧ Upd w5.heap.size w6 wr) (fun _ r _ => (intOf r).toNat)
  case atStart => exact ⟨0, n, Nat.zero_add n, rfl, rfl, Nat.zero_le _, Nat.le_refl _, r6, Upd.refl _ _⟩
  case round =>
    obtain ⟨o, j, HJ, rfl, rfl, hon, hjn, hr, hu⟩ := hrel
    have br := b26.upd hu m2
    rcases (show j = 0 ∨ j = 1 ∨ j = 2 ∨ j = 3 ∨ 4 ≤ j by omega) with rfl | rfl | rfl | rfl | hj4
    · have hoe : n = o := HJ.out.symm
      subst hoe
      rw [← HM.out]
      have hrz := hr
      have huz := hu
      clear r6 b26
      go_wp2_with fail
      refine (next_rs_ok _ _ _ n m field wr hrz hmL).mono ?_
      rintro e w9 ⟨⟨av, rfl, hav⟩, r9, u9⟩
      have u69 := huz.trans u9
      have o19 := o16.upd u69 m1
      have o29 := o26.upd u69 m2
      have o39 := o36.upd u69 m3
      clear hrz u9 hu huz
      go_wp2_with fail
      refine (same_true v1 av m _ _ w.heap.size n w1.heap.size n w9 (by omega) hv1 hav (fun i hi => ⟨_, o19.2.2 (n + i) (by omega), o29.2.2 (n + i) (by omega)⟩)).mono ?_
      rintro e w10 ⟨rfl, hb10⟩
      have o110 := o19.below hb10
      have o310 := o39.below hb10
      have r10 := r9.of_below hb10
      have hfin10 : Below w.heap.size w w10 := (hend6.trans (u69.below l5 l6)).trans (hb10.mono (by have := u69.size; omega))
      have F10 := answers_below (answers_upd F6 u69) hb10
      clear o19 o29 o39 r9 u69 hav hb10
      go_wp2_with fail
      go_loopw [18] (fun v wq => ∃ i : Nat, i ≤ m ∧ v = .int .i64 i ∧ Below w10.heap.size w10 wq) (fun i _ => m - (intOf i).toNat)
      case atStart => exact ⟨0, Nat.zero_le _, rfl, Below.refl _ _⟩
      case round =>
        obtain ⟨i, hi, rfl, hbel⟩ := hrel
        by_cases hlt : i < m
        · obtain ⟨ha3, _⟩ := o310.1 (by omega)
          subst ha3
          obtain rfl := hv1 (by omega)
          have c1 := (o110.below hbel).2.2 (n + i) (by omega)
          have c2 := (o310.below hbel).2.2 (n + i) (by omega)
          generalize bs.getD (n + i) 0 = y at c1 c2
          have j1 : (i : Int) < (m : Int) := by omega
          have j2 : (n : Int) + (i : Int) < (bs.length : Int) := by omega
          clear o110 o310 hv1
          go_wp2_with fail
          go_quiet (fail)
          go_wp2
          go_roundw
          case rel => exact ⟨i + 1, by omega, by go_num, below_drewN hbel _⟩
          case measure => simp [intOf]; omega
        · have rq := r10.of_below hbel
          have q1 : (((bs.length - (n + m) : Nat) : Int) == (bs.length : Int) - n - m) = true := by simp; omega
          go_wp2_with fail
          refine (len_rs _ _ _ _ _ _ rq).mono ?_
          rintro e wx ⟨rfl, hw⟩
          rw [hw]; clear hw wx
          go_wp2_with fail
          refine (done_b F _ _ _ _ _ (answers_below F10 hbel) rq).mono ?_
          rintro e w11 ⟨dv2, rfl, hd2, hgd2, _, u11⟩
          rw [← HB.out] at hd2
          go_wp2_with fail
          go_ret
          exact ⟨by simp, (hfin10.trans (hbel.mono hfin10.size)).trans (u11.below l5 (by have := hfin10.size; have := hbel.size; omega))⟩
    · have hoe : o + 1 = n := HJ.out
      have c0 := br o (by omega)
      have b0 := ho o
      have hb := be_bound7 bs ho o (by omega) (by omega)
      have HS : Hid ((m : Int) = be (bs.take o) * 256 + bs.getD o 0) := by have h1 := HM.out; have h2 := be_take bs o (by omega); rw [hoe] at h2; exact h1.trans h2
      clear hoe
      generalize bs.getD o 0 = x0 at c0 b0 HS
      generalize be (bs.take o) = acc at hb HS ⊢
      obtain ⟨hb1, hb2⟩ := hb
      obtain ⟨b01, b02⟩ := b0
      have hor : bits .or .u64 (acc * 256) x0 = (m : Int) := by rw [or8_u64 acc x0 hb1 hb2 b01 b02]; exact HS.out.symm
      have HO : Hid (bits .or .u64 (acc * 256) x0 = (m : Int)) := hor
      go_wp2_with fail
      refine (uint8_rs_ok _ _ _ o x0 field wr hr (by have := HJ.out; omega) (m2 (by have := HJ.out; omega)) c0).mono ?_
      rintro e wz ⟨rfl, hrz0, hu1⟩
      have hrz : RS wz w5.heap.size w1.heap.size bs.length n .nilIface := by have h := hrz0; rw [show o + 1 = n from HJ.out] at h; exact h
      have huz := hu.trans hu1
      clear hrz0 c0 br
      clear r6 b26
      go_wp2_with fail
      refine (next_rs_ok _ _ _ n m field wz hrz hmL).mono ?_
      rintro e w9 ⟨⟨av, rfl, hav⟩, r9, u9⟩
      have u69 := huz.trans u9
      have o19 := o16.upd u69 m1
      have o29 := o26.upd u69 m2
      have o39 := o36.upd u69 m3
      clear hrz u9 hu huz
      go_wp2_with fail
      refine (same_true v1 av m _ _ w.heap.size n w1.heap.size n w9 (by omega) hv1 hav (fun i hi => ⟨_, o19.2.2 (n + i) (by omega), o29.2.2 (n + i) (by omega)⟩)).mono ?_
      rintro e w10 ⟨rfl, hb10⟩
      have o110 := o19.below hb10
      have o310 := o39.below hb10
      have r10 := r9.of_below hb10
      have hfin10 : Below w.heap.size w w10 := (hend6.trans (u69.below l5 l6)).trans (hb10.mono (by have := u69.size; omega))
      have F10 := answers_below (answers_upd F6 u69) hb10
      clear o19 o29 o39 r9 u69 hav hb10
      go_wp2_with fail
      go_loopw [18] (fun v wq => ∃ i : Nat, i ≤ m ∧ v = .int .i64 i ∧ Below w10.heap.size w10 wq) (fun i _ => m - (intOf i).toNat)
      case atStart => exact ⟨0, Nat.zero_le _, rfl, Below.refl _ _⟩
      case round =>
        obtain ⟨i, hi, rfl, hbel⟩ := hrel
        by_cases hlt : i < m
        · obtain ⟨ha3, _⟩ := o310.1 (by omega)
          subst ha3
          obtain rfl := hv1 (by omega)
          have c1 := (o110.below hbel).2.2 (n + i) (by omega)
          have c2 := (o310.below hbel).2.2 (n + i) (by omega)
          generalize bs.getD (n + i) 0 = y at c1 c2
          have j1 : (i : Int) < (m : Int) := by omega
          have j2 : (n : Int) + (i : Int) < (bs.length : Int) := by omega
          clear o110 o310 hv1
          go_wp2_with fail
          go_quiet (fail)
          go_wp2
          go_roundw
          case rel => exact ⟨i + 1, by omega, by go_num, below_drewN hbel _⟩
          case measure => simp [intOf]; omega
        · have rq := r10.of_below hbel
          have q1 : (((bs.length - (n + m) : Nat) : Int) == (bs.length : Int) - n - m) = true := by simp; omega
          go_wp2_with fail
          refine (len_rs _ _ _ _ _ _ rq).mono ?_
          rintro e wx ⟨rfl, hw⟩
          rw [hw]; clear hw wx
          go_wp2_with fail
          refine (done_b F _ _ _ _ _ (answers_below F10 hbel) rq).mono ?_
          rintro e w11 ⟨dv2, rfl, hd2, hgd2, _, u11⟩
          rw [← HB.out] at hd2
          go_wp2_with fail
          go_ret
          exact ⟨by simp, (hfin10.trans (hbel.mono hfin10.size)).trans (u11.below l5 (by have := hfin10.size; have := hbel.size; omega))⟩
    · have hoe : o + 2 = n := HJ.out
      have c0 := br o (by omega)
      have c1 := br (o + 1) (by omega)
      have b0 := ho o
      have b1 := ho (o + 1)
      have hb := be_bound6 bs ho o (by omega) (by omega)
      have HS : Hid ((m : Int) = be (bs.take o) * 65536 + (bs.getD o 0 * 256 + bs.getD (o + 1) 0)) := by have h1 := HM.out; have h2 := be_take2 bs o (by omega); rw [hoe] at h2; exact h1.trans h2
      clear hoe
      generalize bs.getD o 0 = x0 at c0 b0 HS
      generalize bs.getD (o + 1) 0 = x1 at c1 b1 HS
      generalize be (bs.take o) = acc at hb HS ⊢
      obtain ⟨hb1, hb2⟩ := hb
      have hor : bits .or .u64 (acc * 65536) (x0 * 256 + x1) = (m : Int) := by rw [or16_u64 acc _ hb1 hb2 (by omega) (by omega)]; exact HS.out.symm
      go_wp2_with fail
      refine (uint16_rs_ok _ _ _ o x0 x1 field wr hr (by have := HJ.out; omega) (m2 (by have := HJ.out; omega)) c0 c1 b0 b1).mono ?_
      rintro e wz ⟨rfl, hrz0, hu1⟩
      have hrz : RS wz w5.heap.size w1.heap.size bs.length n .nilIface := by have h := hrz0; rw [show o + 2 = n from HJ.out] at h; exact h
      have huz := hu.trans hu1
      obtain ⟨b01, b02⟩ := b0
      obtain ⟨b11, b12⟩ := b1
      clear hrz0 c0 c1 br
      clear r6 b26
      go_wp2_with fail
      refine (next_rs_ok _ _ _ n m field wz hrz hmL).mono ?_
      rintro e w9 ⟨⟨av, rfl, hav⟩, r9, u9⟩
      have u69 := huz.trans u9
      have o19 := o16.upd u69 m1
      have o29 := o26.upd u69 m2
      have o39 := o36.upd u69 m3
      clear hrz u9 hu huz
      go_wp2_with fail
      refine (same_true v1 av m _ _ w.heap.size n w1.heap.size n w9 (by omega) hv1 hav (fun i hi => ⟨_, o19.2.2 (n + i) (by omega), o29.2.2 (n + i) (by omega)⟩)).mono ?_
      rintro e w10 ⟨rfl, hb10⟩
      have o110 := o19.below hb10
      have o310 := o39.below hb10
      have r10 := r9.of_below hb10
      have hfin10 : Below w.heap.size w w10 := (hend6.trans (u69.below l5 l6)).trans (hb10.mono (by have := u69.size; omega))
      have F10 := answers_below (answers_upd F6 u69) hb10
      clear o19 o29 o39 r9 u69 hav hb10
      go_wp2_with fail
      go_loopw [18] (fun v wq => ∃ i : Nat, i ≤ m ∧ v = .int .i64 i ∧ Below w10.heap.size w10 wq) (fun i _ => m - (intOf i).toNat)
      case atStart => exact ⟨0, Nat.zero_le _, rfl, Below.refl _ _⟩
      case round =>
        obtain ⟨i, hi, rfl, hbel⟩ := hrel
        by_cases hlt : i < m
        · obtain ⟨ha3, _⟩ := o310.1 (by omega)
          subst ha3
          obtain rfl := hv1 (by omega)
          have c1 := (o110.below hbel).2.2 (n + i) (by omega)
          have c2 := (o310.below hbel).2.2 (n + i) (by omega)
          generalize bs.getD (n + i) 0 = y at c1 c2
          have j1 : (i : Int) < (m : Int) := by omega
          have j2 : (n : Int) + (i : Int) < (bs.length : Int) := by omega
          clear o110 o310 hv1
          go_wp2_with fail
          go_quiet (fail)
          go_wp2
          go_roundw
          case rel => exact ⟨i + 1, by omega, by go_num, below_drewN hbel _⟩
          case measure => simp [intOf]; omega
        · have rq := r10.of_below hbel
          have q1 : (((bs.length - (n + m) : Nat) : Int) == (bs.length : Int) - n - m) = true := by simp; omega
          go_wp2_with fail
          refine (len_rs _ _ _ _ _ _ rq).mono ?_
          rintro e wx ⟨rfl, hw⟩
          rw [hw]; clear hw wx
          go_wp2_with fail
          refine (done_b F _ _ _ _ _ (answers_below F10 hbel) rq).mono ?_
          rintro e w11 ⟨dv2, rfl, hd2, hgd2, _, u11⟩
          rw [← HB.out] at hd2
          go_wp2_with fail
          go_ret
          exact ⟨by simp, (hfin10.trans (hbel.mono hfin10.size)).trans (u11.below l5 (by have := hfin10.size; have := hbel.size; omega))⟩
    · have hoe : o + 3 = n := HJ.out
      have c0 := br o (by omega)
      have c1 := br (o + 1) (by omega)
      have c2 := br (o + 2) (by omega)
      have b0 := ho o
      have b1 := ho (o + 1)
      have b2 := ho (o + 2)
      have hb := be_bound6 bs ho o (by omega) (by omega)
      have hbb := be_bound7 bs ho (o + 2) (by omega) (by omega)
      have HT : Hid (be (bs.take (o + 2)) = be (bs.take o) * 65536 + (bs.getD o 0 * 256 + bs.getD (o + 1) 0)) := be_take2 bs o (by omega)
      have HS : Hid ((m : Int) = be (bs.take (o + 2)) * 256 + bs.getD (o + 2) 0) := by have h1 := HM.out; have h2 := be_take bs (o + 2) (by omega); rw [show o + 2 + 1 = n by omega] at h2; exact h1.trans h2
      clear hoe
      generalize bs.getD o 0 = x0 at c0 b0 HS HT
      generalize bs.getD (o + 1) 0 = x1 at c1 b1 HS HT
      generalize bs.getD (o + 2) 0 = x2 at c2 b2 HS HT
      generalize be (bs.take (o + 2)) = acc2 at hbb HS HT
      generalize be (bs.take o) = acc at hb HT ⊢
      obtain ⟨hb1, hb2⟩ := hb
      obtain ⟨hbb1, hbb2⟩ := hbb
      have hor : bits .or .u64 (acc * 65536) (x0 * 256 + x1) = acc2 := by rw [or16_u64 acc _ hb1 hb2 (by omega) (by omega)]; exact HT.out.symm
      have hor2 : bits .or .u64 (acc2 * 256) x2 = (m : Int) := by rw [or8_u64 acc2 x2 hbb1 hbb2 b2.1 b2.2]; exact HS.out.symm
      go_wp2_with fail
      refine (uint16_rs_ok _ _ _ o x0 x1 field wr hr (by have := HJ.out; omega) (m2 (by have := HJ.out; omega)) c0 c1 b0 b1).mono ?_
      rintro e wy ⟨rfl, hry, hu1⟩
      have d2 := (br.upd hu1 m2)
      have c2' : wy.cell? ⟨w1.heap.size, o + 2, none⟩ = some (.int .u8 x2) := (hu1.cell (p := ⟨w1.heap.size, o + 2, none⟩) (World.block_lt_of_cell? _ _ c2) (m2 (by have := HJ.out; omega))).trans c2
      obtain ⟨b01, b02⟩ := b0
      obtain ⟨b11, b12⟩ := b1
      obtain ⟨b21, b22⟩ := b2
      go_wp2_with fail
      refine (uint8_rs_ok _ _ _ (o + 2) x2 field wy hry (by have := HJ.out; omega) (m2 (by have := HJ.out; omega)) c2').mono ?_
      rintro e wz ⟨rfl, hrz0, hu2⟩
      have hrz : RS wz w5.heap.size w1.heap.size bs.length n .nilIface := by have h := hrz0; rw [show o + 2 + 1 = n from by have := HJ.out; omega] at h; exact h
      have huz := (hu.trans hu1).trans hu2
      clear hrz0 hry c0 c1 c2 c2' d2 br
      clear r6 b26
      go_wp2_with fail
      refine (next_rs_ok _ _ _ n m field wz hrz hmL).mono ?_
      rintro e w9 ⟨⟨av, rfl, hav⟩, r9, u9⟩
      have u69 := huz.trans u9
      have o19 := o16.upd u69 m1
      have o29 := o26.upd u69 m2
      have o39 := o36.upd u69 m3
      clear hrz u9 hu huz
      go_wp2_with fail
      refine (same_true v1 av m _ _ w.heap.size n w1.heap.size n w9 (by omega) hv1 hav (fun i hi => ⟨_, o19.2.2 (n + i) (by omega), o29.2.2 (n + i) (by omega)⟩)).mono ?_
      rintro e w10 ⟨rfl, hb10⟩
      have o110 := o19.below hb10
      have o310 := o39.below hb10
      have r10 := r9.of_below hb10
      have hfin10 : Below w.heap.size w w10 := (hend6.trans (u69.below l5 l6)).trans (hb10.mono (by have := u69.size; omega))
      have F10 := answers_below (answers_upd F6 u69) hb10
      clear o19 o29 o39 r9 u69 hav hb10
      go_wp2_with fail
      go_loopw [18] (fun v wq => ∃ i : Nat, i ≤ m ∧ v = .int .i64 i ∧ Below w10.heap.size w10 wq) (fun i _ => m - (intOf i).toNat)
      case atStart => exact ⟨0, Nat.zero_le _, rfl, Below.refl _ _⟩
      case round =>
        obtain ⟨i, hi, rfl, hbel⟩ := hrel
        by_cases hlt : i < m
        · obtain ⟨ha3, _⟩ := o310.1 (by omega)
          subst ha3
          obtain rfl := hv1 (by omega)
          have c1 := (o110.below hbel).2.2 (n + i) (by omega)
          have c2 := (o310.below hbel).2.2 (n + i) (by omega)
          generalize bs.getD (n + i) 0 = y at c1 c2
          have j1 : (i : Int) < (m : Int) := by omega
          have j2 : (n : Int) + (i : Int) < (bs.length : Int) := by omega
          clear o110 o310 hv1
          go_wp2_with fail
          go_quiet (fail)
          go_wp2
          go_roundw
          case rel => exact ⟨i + 1, by omega, by go_num, below_drewN hbel _⟩
          case measure => simp [intOf]; omega
        · have rq := r10.of_below hbel
          have q1 : (((bs.length - (n + m) : Nat) : Int) == (bs.length : Int) - n - m) = true := by simp; omega
          go_wp2_with fail
          refine (len_rs _ _ _ _ _ _ rq).mono ?_
          rintro e wx ⟨rfl, hw⟩
          rw [hw]; clear hw wx
          go_wp2_with fail
          refine (done_b F _ _ _ _ _ (answers_below F10 hbel) rq).mono ?_
          rintro e w11 ⟨dv2, rfl, hd2, hgd2, _, u11⟩
          rw [← HB.out] at hd2
          go_wp2_with fail
          go_ret
          exact ⟨by simp, (hfin10.trans (hbel.mono hfin10.size)).trans (u11.below l5 (by have := hfin10.size; have := hbel.size; omega))⟩
    · have hoe : o + 4 ≤ n := by have := HJ.out; omega
      have hj4' : (j : Int) ≥ 4 := by omega
      have c0 := br o (by omega)
      have c1 := br (o + 1) (by omega)
      have c2 := br (o + 2) (by omega)
      have c3 := br (o + 3) (by omega)
      have b0 := ho o
      have b1 := ho (o + 1)
      have b2 := ho (o + 2)
      have b3 := ho (o + 3)
      have hb := be_bound4 bs ho o (by omega) (by omega)
      have HS : Hid (be (bs.take (o + 4)) = be (bs.take o) * 4294967296 + (((bs.getD o 0 * 256 + bs.getD (o + 1) 0) * 256 + bs.getD (o + 2) 0) * 256 + bs.getD (o + 3) 0)) := be_take4 bs o (by omega)
      generalize bs.getD o 0 = x0 at c0 b0 HS
      generalize bs.getD (o + 1) 0 = x1 at c1 b1 HS
      generalize bs.getD (o + 2) 0 = x2 at c2 b2 HS
      generalize bs.getD (o + 3) 0 = x3 at c3 b3 HS
      generalize be (bs.take o) = acc at hb HS ⊢
      obtain ⟨hb1, hb2⟩ := hb
      have HO : Hid (bits .or .u64 (acc * 4294967296) (((x0 * 256 + x1) * 256 + x2) * 256 + x3) = acc * 4294967296 + (((x0 * 256 + x1) * 256 + x2) * 256 + x3)) := or32_u64 acc _ hb1 hb2 (by omega) (by omega)
      go_wp2_with fail
      refine (uint32_rs_ok _ _ _ o x0 x1 x2 x3 field wr hr (by omega) (m2 (by omega)) c0 c1 c2 c3 b0 b1 b2 b3).mono ?_
      rintro e w7 ⟨rfl, hr7, hu7⟩
      obtain ⟨b01, b02⟩ := b0
      obtain ⟨b11, b12⟩ := b1
      obtain ⟨b21, b22⟩ := b2
      obtain ⟨b31, b32⟩ := b3
      clear c0 c1 c2 c3 br
      go_wp2
      go_roundw
      case rel => exact ⟨o + 4, j - 4, (show o + 4 + (j - 4) = n by have := HJ.out; omega), by rw [HS.out, ← HO.out], by go_num, by omega, by omega, hr7, hu.trans hu7⟩
      case measure => simp [intOf]; omega

end Go.Proofs.Qxb6616505aFmt
