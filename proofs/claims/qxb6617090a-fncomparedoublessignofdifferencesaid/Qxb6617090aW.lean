/-
  compareDoubles, zzSignOfDifference, the law: the walks.
-/
import Derived.Test.Qxb6617090aProg
import Derived.Test.Qxb6617090aNum
import Derived.WalkSpells
import Derived.WalkLawsBesides
import Derived.WalkSmall
import Derived.Laws.Cover2
import Derived.Laws.FloatArith
namespace Go.Proofs.Qxb6617090a
open Go.RowKit

/-- The order as compareDoubles tells it. -/
def cmpI : Option Ordering → Int
  | some .lt => -1
  | some .gt => 1
  | some .eq => 0
  | none => 2

theorem cmp_any (a b : Nat) (w : World) : Calls Try.prog 6 #[.float .f64 a, .float .f64 b] w fun e w' => e = .returned (.int .i64 (cmpI (FloatKind.f64.format.order a b))) ∧ w' = w := by
  rcases ho : FloatKind.f64.format.order a b with _ | (_ | _ | _)
  all_goals
    go_enter Try.func6, Try.ntmps6
    go_wp2
    go_ret
    exact ⟨rfl, rfl⟩

theorem zz_cmp (a b : Nat) (w : World) : Calls Try.prog 5 #[.float .f64 a, .float .f64 b] w fun e w' => e = .returned (.int .i64 (cmpI (FloatKind.f64.format.order a b))) ∧ w' = w := by
  go_enter Try.func5, Try.ntmps5
  go_wp2_with (go_at_call 6; refine (cmp_any a b _).mono ?_; rintro e w' ⟨rfl, rfl⟩)
  go_ret
  exact ⟨rfl, rfl⟩

/-- Which NaN an invalid difference gives is open; that it is one is not. -/
theorem nan_cut (a b t : Nat) : FloatKind.f64.format.order ((Question.nanBits .f64 a b).cut t) ((Question.nanBits .f64 a b).cut t) = none := by
  have hfr : (t / 2) % (2 ^ 52 - 1) < 2 ^ 52 - 1 := Nat.mod_lt _ (by decide)
  have hsw : Ieee.double.signWeight = 9223372036854775808 := rfl
  have hinf : Ieee.double.infRung = 9218868437227405312 := rfl
  have hbin : Ieee.double.binade = 4503599627370496 := rfl
  have he : (Question.nanBits .f64 a b).cut t = Ieee.double.word (t % 2 == 1) (Ieee.double.infRung + (1 + (t / 2) % (2 ^ 52 - 1))) := by
    show (t % 2) * 2 ^ 63 + 0x7ff0000000000000 + 1 + (t / 2) % (2 ^ 52 - 1) = _
    generalize (t / 2) % (2 ^ 52 - 1) = q
    unfold Ieee.Format.word
    rw [hsw, hinf]
    rcases Nat.mod_two_eq_zero_or_one t with h | h
    · rw [h]; simp; omega
    · rw [h]; simp; omega
  have hlt : Ieee.double.infRung + (1 + (t / 2) % (2 ^ 52 - 1)) < Ieee.double.signWeight := by rw [hinf, hsw]; omega
  rw [he]
  show (Ieee.double.read _).order (Ieee.double.read _) = none
  have hr : Ieee.double.read (Ieee.double.word (t % 2 == 1) (Ieee.double.infRung + (1 + (t / 2) % (2 ^ 52 - 1)))) = .nan (t % 2 == 1) (Ieee.double.infRung + (1 + (t / 2) % (2 ^ 52 - 1)) - Ieee.double.infRung) := by
    simp only [Ieee.Format.read, word_sign _ _ _ hlt, word_rung _ _ _ hlt]
    rw [if_neg (by rw [hinf, hbin]; omega), if_neg (by omega), if_neg (by omega)]
  rw [hr]
  rfl

theorem inf_pos : 1 ≤ Ieee.double.infRung := by decide

theorem sub_none (a b : Nat) (w : World) (h : FloatKind.f64.format.sub a b = none) : ∃ r, (binOp .sub 22 (.float .f64 a) (.float .f64 b)).run Try.prog w = .ok (.float .f64 r) w.drew ∧ FloatKind.f64.format.order r r = none := by
  refine ⟨_, ?_, nan_cut a b (w.tape w.drawn (Question.nanBits .f64 a b))⟩
  simp [binOp, Op.floatArith, h, Question.forced]

theorem sub_some (a b r : Nat) (w : World) (h : FloatKind.f64.format.sub a b = some r) : (binOp .sub 22 (.float .f64 a) (.float .f64 b)).run Try.prog w = .ok (.float .f64 r) w :=
  run_float_arith w .sub 22 .f64 a b r h

theorem sign_any (a b : Nat) (w : World) : Calls Try.prog 4 #[.float .f64 a, .float .f64 b] w fun e w' => e = .returned (.int .i64 (cmpI (FloatKind.f64.format.order a b))) ∧ Below w.heap.size w w' := by
  have na := order_self (Ieee.double.read a)
  have nb := order_self (Ieee.double.read b)
  rcases na with ⟨ha, hna⟩ | ⟨hna, ha⟩
  · rcases nb with ⟨hb, hnb⟩ | ⟨hnb, hb⟩
    · have ha' : FloatKind.f64.format.order a a = some .eq := ha
      have hb' : FloatKind.f64.format.order b b = some .eq := hb
      rcases sub_order Ieee.double inf_pos a b hna hnb with ⟨hs, ho⟩ | ⟨r, hs, hr, ho⟩
      · have ho' : FloatKind.f64.format.order a b = some .eq := ho
        obtain ⟨r, hrun, hrr⟩ := sub_none a b w hs
        rw [ho']
        clear ha hb hna hnb hs ho ho'
        go_enter Try.func4, Try.ntmps4
        go_wp2
        go_ret
        exact ⟨rfl, (Below.refl _ _).drew⟩
      · have hrr : FloatKind.f64.format.order r r = some .eq := hr
        have hrun := fun wx => sub_some a b r wx hs
        have ho' : FloatKind.f64.format.order a b = FloatKind.f64.format.order r 0 := ho.symm
        rw [ho']
        clear ha hb hna hnb hs ho ho' hr
        rcases hz : FloatKind.f64.format.order r 0 with _ | (_ | _ | _)
        · exfalso
          have h1 : (Ieee.double.read r).order (Ieee.double.read 0) = none := hz
          rcases order_self (Ieee.double.read r) with ⟨_, h2⟩ | ⟨_, h2⟩
          · have h0 : Ieee.double.read 0 = .number false 0 Ieee.double.leastPlace := read_zero _
            rw [h0] at h1
            generalize Ieee.double.read r = d at h1 h2
            cases d <;> simp [Ieee.Datum.order, Ieee.Datum.isNaN] at h1 h2
          · have h3 := (h2 (Ieee.double.read r)).1
            have h4 : (Ieee.double.read r).order (Ieee.double.read r) = some .eq := hrr
            rw [h3] at h4; cases h4
        all_goals
          go_enter Try.func4, Try.ntmps4
          go_wp2
          go_ret
          exact ⟨rfl, Below.refl _ _⟩
    · have ha' : FloatKind.f64.format.order a a = some .eq := ha
      have hb' : FloatKind.f64.format.order b b = none := (hb (Ieee.double.read b)).1
      have ho : FloatKind.f64.format.order a b = none := (hb (Ieee.double.read a)).2
      rw [ho]
      clear ha hna hnb hb ho
      go_enter Try.func4, Try.ntmps4
      go_wp2
      go_ret
      exact ⟨rfl, Below.refl _ _⟩
  · have ha' : FloatKind.f64.format.order a a = none := (ha (Ieee.double.read a)).1
    have ho : FloatKind.f64.format.order a b = none := (ha (Ieee.double.read b)).1
    rw [ho]
    clear hna nb ha ho
    go_enter Try.func4, Try.ntmps4
    go_wp2
    go_ret
    exact ⟨rfl, Below.refl _ _⟩

theorem law_walk (a b : Nat) (w : World) : Calls Try.prog 3 #[.float .f64 a, .float .f64 b] w fun e w' => e = .returned (.bool true) ∧ Below w.heap.size w w' := by
  have hf : FloatKind.f64.format.order b a = flip (FloatKind.f64.format.order a b) := order_flip (Ieee.double.read a) (Ieee.double.read b)
  have HF : Hid (FloatKind.f64.format.order b a = flip (FloatKind.f64.format.order a b)) := hf
  clear hf
  go_enter Try.func3, Try.ntmps3
  go_wp2_with fail
  refine (sign_any a b w).mono ?_
  rintro e w1 ⟨rfl, hbel⟩
  go_wp2_with fail
  refine (zz_cmp a b w1).mono ?_
  rintro e wx ⟨rfl, hw⟩
  rw [hw]; clear hw wx
  go_wp2_with fail
  refine (zz_cmp b a w1).mono ?_
  rintro e wx ⟨rfl, hw⟩
  rw [hw, HF.out]; clear hw wx
  generalize FloatKind.f64.format.order a b = o
  rcases o with _ | (_ | _ | _)
  all_goals
    simp only [cmpI, flip]
    go_wp2
    go_ret
    exact ⟨rfl, hbel⟩

end Go.Proofs.Qxb6617090a
