/-
  The order of two words of a format, and the sign of their rounded difference. No Go text, no dump.
-/
import Derived.Laws.FloatBits
namespace Go.Proofs.Qxb6617090a
open Ieee

/-- The order told from the other side. -/
def flip : Option Ordering → Option Ordering
  | some .lt => some .gt
  | some .gt => some .lt
  | o => o

theorem compare_flip (x y : Int) : some (compare y x) = flip (some (compare x y)) := by
  rcases Int.lt_trichotomy x y with h | h | h
  · rw [Int.compare_eq_lt.2 h, Int.compare_eq_gt.2 h]; rfl
  · subst h; rw [Int.compare_eq_eq.2 rfl]; rfl
  · rw [Int.compare_eq_gt.2 h, Int.compare_eq_lt.2 h]; rfl

theorem order_flip (d e : Datum) : e.order d = flip (d.order e) := by
  cases d with
  | nan s t => cases e <;> rfl
  | infinity s =>
    cases e with
    | nan s t => rfl
    | infinity t => cases s <;> cases t <;> rfl
    | number t n j => cases s <;> rfl
  | number s m i =>
    cases e with
    | nan s t => rfl
    | infinity t => cases t <;> rfl
    | number t n j =>
      simp only [Datum.order]
      rw [Int.min_comm j i]
      exact compare_flip _ _

/-- A datum is a NaN, unordered with all; or equal to itself. -/
theorem order_self (d : Datum) : (d.order d = some .eq ∧ d.isNaN = false) ∨ (d.isNaN = true ∧ ∀ e, d.order e = none ∧ e.order d = none) := by
  cases d with
  | nan s t => exact Or.inr ⟨rfl, fun e => by cases e <;> exact ⟨rfl, rfl⟩⟩
  | infinity s => exact Or.inl ⟨by cases s <;> rfl, rfl⟩
  | number s m i => exact Or.inl ⟨by simp only [Datum.order]; rw [Int.compare_eq_eq.2 rfl], rfl⟩

theorem word_sign (f : Format) (neg : Bool) (rung : Nat) (h : rung < f.signWeight) : (f.word neg rung / f.signWeight % 2 == 1) = neg := by
  have hp : 0 < f.signWeight := by omega
  cases neg with
  | false =>
    have : f.word false rung = rung := rfl
    rw [this, Nat.div_eq_of_lt h]; rfl
  | true =>
    have : f.word true rung = f.signWeight + rung := rfl
    rw [this, Nat.add_div_left _ hp, Nat.div_eq_of_lt h]; rfl
theorem word_rung (f : Format) (neg : Bool) (rung : Nat) (h : rung < f.signWeight) : f.word neg rung % f.signWeight = rung := by
  cases neg with
  | false =>
    have : f.word false rung = rung := rfl
    rw [this, Nat.mod_eq_of_lt h]
  | true =>
    have : f.word true rung = f.signWeight + rung := rfl
    rw [this, Nat.add_mod_left, Nat.mod_eq_of_lt h]

theorem signed_pos (neg : Bool) (mag up : Nat) (h : 1 ≤ mag) : if neg then signed neg mag up < 0 else 0 < signed neg mag up := by
  have h1 : 1 ≤ mag <<< up := by rw [Nat.shiftLeft_eq]; exact Nat.mul_pos h (Nat.two_pow_pos up)
  cases neg with
  | false => show (0 : Int) < ((mag <<< up : Nat) : Int); omega
  | true => show -((mag <<< up : Nat) : Int) < 0; omega
theorem signed_zero (neg : Bool) (up : Nat) : signed neg 0 up = 0 := by
  have h1 : 0 <<< up = 0 := by rw [Nat.shiftLeft_eq, Nat.zero_mul]
  cases neg with
  | false => show ((0 <<< up : Nat) : Int) = 0; rw [h1]; rfl
  | true => show -((0 <<< up : Nat) : Int) = 0; rw [h1]; rfl

theorem read_zero (f : Format) : f.read 0 = .number false 0 f.leastPlace := by
  have hb : 0 < f.binade := Nat.two_pow_pos _
  simp [Format.read, hb]

theorem order_number_zero (neg : Bool) (mag : Nat) (place lp : Int) (h : 1 ≤ mag) : (Datum.number neg mag place).order (.number false 0 lp) = some (if neg then .lt else .gt) := by
  simp only [Datum.order, signed_zero]
  have hs := signed_pos neg mag (place - min place lp).toNat h
  cases neg with
  | false => rw [Int.compare_eq_gt.2 (by simpa using hs)]; rfl
  | true => rw [Int.compare_eq_lt.2 (by simpa using hs)]; rfl

/-- What a word that is no NaN stands for, against zero. -/
theorem read_word (f : Format) (neg : Bool) (rung : Nat) (h : rung ≤ f.infRung) :
    (f.read (f.word neg rung)).isNaN = false ∧ (f.read (f.word neg rung)).order (f.read 0) = some (if rung = 0 then .eq else if neg then .lt else .gt) := by
  have hlt : rung < f.signWeight := Nat.lt_of_le_of_lt h f.infRung_lt
  have hb : 0 < f.binade := Nat.two_pow_pos _
  rw [read_zero]
  have hr : f.read (f.word neg rung) = if rung < f.binade then .number neg rung f.leastPlace
      else if rung < f.infRung then .number neg (f.binade + rung % f.binade) (f.leastPlace + (rung / f.binade - 1 : Nat))
      else if rung = f.infRung then .infinity neg else .nan neg (rung - f.infRung) := by
    simp only [Format.read, word_sign f neg rung hlt, word_rung f neg rung hlt]
  rw [hr]
  by_cases h1 : rung < f.binade
  · rw [if_pos h1]
    refine ⟨rfl, ?_⟩
    by_cases h0 : rung = 0
    · subst h0
      simp only [Datum.order, signed_zero]
      rw [Int.compare_eq_eq.2 rfl]; rfl
    · rw [if_neg h0]
      exact order_number_zero neg rung _ _ (by omega)
  · have h0 : ¬ rung = 0 := by omega
    rw [if_neg h1, if_neg h0]
    by_cases h2 : rung < f.infRung
    · rw [if_pos h2]
      exact ⟨rfl, order_number_zero neg _ _ _ (by omega)⟩
    · rw [if_neg h2, if_pos (by omega)]
      exact ⟨rfl, by cases neg <;> rfl⟩

theorem cut_zero (neg : Bool) (n : Nat) : Toward.even.cut neg n 0 = n := by
  simp [Toward.cut, Nat.mod_one]

/-- A number that is not nought, of a place that the format has, is not rounded to nought. -/
theorem nearest_word (f : Format) (h1 : 1 ≤ f.infRung) (neg : Bool) (mag : Nat) (place : Int) (hm : 1 ≤ mag) (hp : f.leastPlace ≤ place) :
    ∃ rung, 1 ≤ rung ∧ rung ≤ f.infRung ∧ f.nearest neg mag place = f.word neg rung := by
  have hb : 0 < f.binade := Nat.two_pow_pos _
  unfold Format.nearest
  rw [if_neg (by omega)]
  simp only
  generalize hl : max (place + mag.log2 - f.fractionBits) f.leastPlace = last
  refine ⟨_, ?_, Nat.min_le_right _ _, rfl⟩
  have hl2 : f.leastPlace ≤ last := by omega
  rw [Nat.le_min]
  refine ⟨?_, h1⟩
  by_cases hq : last = f.leastPlace
  · have e0 : (last - place).toNat = 0 := by omega
    rw [e0, cut_zero, Nat.shiftLeft_eq]
    have : 1 ≤ mag * 2 ^ (place - last).toNat := Nat.mul_pos hm (Nat.two_pow_pos _)
    omega
  · have : 1 ≤ (last - f.leastPlace).toNat := by omega
    have := Nat.mul_pos this hb
    omega

theorem read_place (f : Format) (x : Nat) (s : Bool) (m : Nat) (i : Int) (h : f.read x = .number s m i) : f.leastPlace ≤ i := by
  unfold Format.read at h
  simp only at h
  split at h
  · cases h; omega
  · split at h
    · cases h; omega
    · split at h <;> cases h

theorem word_order (f : Format) (neg : Bool) (rung : Nat) (o : Ordering) (h : rung ≤ f.infRung) (e : (if rung = 0 then Ordering.eq else if neg then .lt else .gt) = o) :
    f.order (f.word neg rung) (f.word neg rung) = some .eq ∧ f.order (f.word neg rung) 0 = some o := by
  obtain ⟨a1, a2⟩ := read_word f neg rung h
  refine ⟨?_, by rw [← e]; exact a2⟩
  rcases order_self (f.read (f.word neg rung)) with ⟨h, _⟩ | ⟨h, _⟩
  · exact h
  · rw [a1] at h; cases h

theorem signed_not (t : Bool) (n up : Nat) : signed (!t) n up = - signed t n up := by
  cases t with
  | false => rfl
  | true => show ((n <<< up : Nat) : Int) = - -((n <<< up : Nat) : Int); omega

/-- THE LAW: of two words that are no NaN the rounded difference, where there is one, is no NaN and stands to zero as the first stands to the second; where there is none the two are equal. -/
theorem sub_order (f : Format) (h1 : 1 ≤ f.infRung) (x y : Nat) (hx : (f.read x).isNaN = false) (hy : (f.read y).isNaN = false) :
    (f.sub x y = none ∧ f.order x y = some .eq) ∨ ∃ r, f.sub x y = some r ∧ f.order r r = some .eq ∧ f.order r 0 = f.order x y := by
  have hinf : ¬ f.infRung = 0 := by omega
  unfold Format.sub
  rw [show f.order x y = (f.read x).order (f.read y) from rfl]
  have px := read_place f x
  have py := read_place f y
  generalize f.read x = d at hx px
  generalize f.read y = e at hy py
  cases d with
  | nan s u => cases hx
  | infinity s =>
    cases e with
    | nan s u => cases hy
    | infinity t =>
      by_cases hst : s = !t
      · right
        refine ⟨f.word s f.infRung, ?_, ?_⟩
        · simp only [Datum.opposite, Datum.sum]; rw [if_pos hst]; rfl
        · have := word_order f s f.infRung (if s then .lt else .gt) (Nat.le_refl _) (by rw [if_neg hinf])
          refine ⟨this.1, this.2.trans ?_⟩
          subst hst; cases t <;> rfl
      · left
        refine ⟨?_, ?_⟩
        · simp only [Datum.opposite, Datum.sum]; rw [if_neg hst]; rfl
        · have : s = t := by cases s <;> cases t <;> simp_all
          subst this; cases s <;> rfl
    | number t n j =>
      right
      refine ⟨f.word s f.infRung, rfl, ?_⟩
      exact word_order f s f.infRung (if s then .lt else .gt) (Nat.le_refl _) (by rw [if_neg hinf])
  | number s m i =>
    cases e with
    | nan s u => cases hy
    | infinity t =>
      right
      refine ⟨f.word (!t) f.infRung, rfl, ?_⟩
      exact word_order f (!t) f.infRung (if t then .gt else .lt) (Nat.le_refl _) (by rw [if_neg hinf]; cases t <;> rfl)
    | number t n j =>
      right
      have pi := px s m i rfl
      have pj := py t n j rfl
      simp only [Datum.opposite, Datum.sum, Datum.order, signed_not]
      generalize hX : signed s m (i - min i j).toNat = X
      generalize hY : signed t n (j - min i j).toNat = Y
      have hbase : f.leastPlace ≤ min i j := by omega
      generalize min i j = base at hbase
      by_cases h0 : X + -Y = 0
      · rw [if_pos h0, h0]
        refine ⟨f.word (s && !t) 0, ?_, ?_⟩
        · simp [Format.write, Format.nearest]
        · have hXY : X = Y := by omega
          subst hXY
          rw [Int.compare_eq_eq.2 rfl]
          exact word_order f _ 0 .eq (Nat.zero_le _) rfl
      · rw [if_neg h0]
        obtain ⟨rung, r1, r2, r3⟩ := nearest_word f h1 (decide (X + -Y < 0)) (X + -Y).natAbs base (by omega) hbase
        refine ⟨f.word (decide (X + -Y < 0)) rung, ?_, ?_⟩
        · simp only [Option.map_some, Format.write]; rw [r3]
        · have hr0 : ¬ rung = 0 := by omega
          by_cases hn : X + -Y < 0
          · rw [Int.compare_eq_lt.2 (by omega : X < Y)]
            exact word_order f _ rung .lt r2 (by rw [if_neg hr0, if_pos (by simpa using hn)])
          · rw [Int.compare_eq_gt.2 (by omega : Y < X)]
            exact word_order f _ rung .gt r2 (by rw [if_neg hr0, if_neg (by simpa using hn)])

end Go.Proofs.Qxb6617090a
