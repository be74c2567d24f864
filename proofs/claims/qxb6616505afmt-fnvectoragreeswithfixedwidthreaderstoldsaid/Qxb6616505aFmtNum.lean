/-
  Octets as a number in network order. No Go text, no dump.
-/
import Derived.WalkKit
namespace Go.Proofs.Qxb6616505aFmt
open Go.RowKit

/-- The number that the octets write, the first the highest. -/
def be (l : List Int) : Int := l.foldl (fun a x => a * 256 + x) 0

/-- Each element is an octet. -/
def Oct (bs : List Int) : Prop := ∀ i, 0 ≤ bs.getD i 0 ∧ bs.getD i 0 ≤ 255

theorem be_snoc (l : List Int) (x : Int) : be (l ++ [x]) = be l * 256 + x := by simp [be]

theorem take_snoc (bs : List Int) (j : Nat) (h : j < bs.length) : bs.take (j + 1) = bs.take j ++ [bs.getD j 0] := by
  rw [List.take_succ_eq_append_getElem h]
  simp [List.getD, h]

theorem be_take (bs : List Int) (j : Nat) (h : j < bs.length) : be (bs.take (j + 1)) = be (bs.take j) * 256 + bs.getD j 0 := by
  rw [take_snoc bs j h, be_snoc]

theorem be_bound (bs : List Int) (ho : Oct bs) (j : Nat) (h : j ≤ bs.length) : 0 ≤ be (bs.take j) ∧ be (bs.take j) < 256 ^ j := by
  induction j with
  | zero => simp [be]
  | succ j ih =>
    obtain ⟨h1, h2⟩ := ih (by omega)
    have h3 := ho j
    rw [be_take bs j (by omega), Int.pow_succ]
    omega

theorem pow256_le {i j : Nat} (h : i ≤ j) : (256 : Int) ^ i ≤ 256 ^ j := by
  have h1 : ((256 ^ i : Nat) : Int) ≤ ((256 ^ j : Nat) : Int) := Int.ofNat_le.2 (Nat.pow_le_pow_right (by decide) h)
  rw [Int.natCast_pow, Int.natCast_pow] at h1
  exact h1

theorem be_bound8 (bs : List Int) (ho : Oct bs) (j : Nat) (h : j ≤ bs.length) (h8 : j ≤ 8) : 0 ≤ be (bs.take j) ∧ be (bs.take j) < 18446744073709551616 := by
  obtain ⟨h1, h2⟩ := be_bound bs ho j h
  have := pow256_le h8
  omega

/-- Below eight octets the next one still fits. -/
theorem be_bound7 (bs : List Int) (ho : Oct bs) (j : Nat) (h : j ≤ bs.length) (h8 : j ≤ 7) : 0 ≤ be (bs.take j) ∧ be (bs.take j) * 256 + 255 < 18446744073709551616 := by
  obtain ⟨h1, h2⟩ := be_bound bs ho j h
  have := pow256_le h8
  omega

/-- 'length<<8 | octet' in 64 bits where nothing is shifted out. -/
theorem or_u64 (s : Nat) (a y : Int) (ha : 0 ≤ a) (hs : a * 2 ^ s < 18446744073709551616) (hy : 0 ≤ y) (hy2 : y < 2 ^ s) (hy3 : y < 18446744073709551616) : bits .or .u64 (a * 2 ^ s) y = a * 2 ^ s + y := by
  obtain ⟨a, rfl⟩ := Int.eq_ofNat_of_zero_le ha
  obtain ⟨y, rfl⟩ := Int.eq_ofNat_of_zero_le hy
  have e : ((a : Int) * 2 ^ s) = ((a * 2 ^ s : Nat) : Int) := by rw [Int.natCast_mul, Int.natCast_pow]; rfl
  have e2 : ((2 : Int) ^ s) = ((2 ^ s : Nat) : Int) := by rw [Int.natCast_pow]; rfl
  rw [e] at hs ⊢
  rw [e2] at hy2
  rw [u64_or_nat _ _ (by omega) (by omega), nat_join s _ _ (Nat.mul_mod_left _ _) (by omega), Int.natCast_add]

theorem or8_u64 (a y : Int) (ha : 0 ≤ a) (hs : a * 256 + 255 < 18446744073709551616) (hy : 0 ≤ y) (hy2 : y ≤ 255) : bits .or .u64 (a * 256) y = a * 256 + y := by
  have h := or_u64 8 a y ha (by omega) hy (by omega) (by omega)
  exact h
theorem or16_u64 (a y : Int) (ha : 0 ≤ a) (hs : a * 65536 + 65535 < 18446744073709551616) (hy : 0 ≤ y) (hy2 : y ≤ 65535) : bits .or .u64 (a * 65536) y = a * 65536 + y := by
  have h := or_u64 16 a y ha (by omega) hy (by omega) (by omega)
  exact h
theorem or32_u64 (a y : Int) (ha : 0 ≤ a) (hs : a * 4294967296 + 4294967295 < 18446744073709551616) (hy : 0 ≤ y) (hy2 : y ≤ 4294967295) : bits .or .u64 (a * 4294967296) y = a * 4294967296 + y := by
  have h := or_u64 32 a y ha (by omega) hy (by omega) (by omega)
  exact h

theorem p8_succ (j : Nat) : (2 : Int) ^ (8 * (j + 1)) = 2 ^ (8 * j) * 256 := by
  rw [show 8 * (j + 1) = 8 * j + 8 by omega, Int.pow_add]; rfl
theorem p8_pos (j : Nat) : 0 < (2 : Int) ^ (8 * j) := Int.pow_pos (by decide)
theorem p8_256 (j : Nat) : (2 : Int) ^ (8 * j) = 256 ^ j := by
  induction j with
  | zero => rfl
  | succ j ih => rw [p8_succ, ih, Int.pow_succ]

/-- One octet more of m, from above. -/
theorem div_step (m : Int) (j : Nat) : m / 2 ^ (8 * j) = m / 2 ^ (8 * (j + 1)) * 256 + m / 2 ^ (8 * j) % 256 := by
  have h1 : m / 2 ^ (8 * (j + 1)) = m / 2 ^ (8 * j) / 256 := by
    rw [p8_succ, Int.ediv_ediv_of_nonneg (Int.le_of_lt (p8_pos j))]
  rw [h1]
  omega

theorem be_split (bs : List Int) (ho : Oct bs) (i d : Nat) (h : i + d ≤ bs.length) :
    be (bs.take i) * 2 ^ (8 * d) ≤ be (bs.take (i + d)) ∧ be (bs.take (i + d)) + 1 ≤ (be (bs.take i) + 1) * 2 ^ (8 * d) := by
  induction d with
  | zero => simp
  | succ d ih =>
    obtain ⟨h1, h2⟩ := ih (by omega)
    have hz := ho (i + d)
    rw [← Nat.add_assoc, be_take bs (i + d) (by omega), p8_succ, ← Int.mul_assoc, ← Int.mul_assoc]
    omega

theorem exc_step (bs : List Int) (m : Int) (n i : Nat) (hlt : i < n) (hn : n ≤ bs.length) (hinv : be (bs.take i) = m / 2 ^ (8 * (n - i))) (he : bs.getD i 0 = m / 2 ^ (8 * (n - 1 - i)) % 256) :
    be (bs.take (i + 1)) = m / 2 ^ (8 * (n - (i + 1))) := by
  obtain ⟨d, rfl⟩ : ∃ d, n = i + 1 + d := ⟨n - (i + 1), by omega⟩
  rw [show i + 1 + d - i = d + 1 by omega] at hinv
  rw [show i + 1 + d - 1 - i = d by omega] at he
  rw [show i + 1 + d - (i + 1) = d by omega, be_take bs i (by omega), hinv, he]
  exact (div_step m d).symm

theorem exc_stop (bs : List Int) (ho : Oct bs) (m : Int) (n i : Nat) (hlt : i < n) (hn : n ≤ bs.length) (hinv : be (bs.take i) = m / 2 ^ (8 * (n - i))) (he : (bs.getD i 0 != m / 2 ^ (8 * (n - 1 - i)) % 256) = true) :
    decide (m / 2 ^ (8 * (n - 1 - i)) % 256 < bs.getD i 0) = decide (m < be (bs.take n)) := by
  obtain ⟨d, rfl⟩ : ∃ d, n = i + 1 + d := ⟨n - (i + 1), by omega⟩
  rw [show i + 1 + d - i = d + 1 by omega] at hinv
  rw [show i + 1 + d - 1 - i = d by omega] at he ⊢
  have hne : bs.getD i 0 ≠ m / 2 ^ (8 * d) % 256 := by simpa using he
  obtain ⟨s1, s2⟩ := be_split bs ho (i + 1) d hn
  have ht := be_take bs i (by omega)
  have hd := div_step m d
  have hp := p8_pos d
  have hq1 := Int.mul_ediv_add_emod m (2 ^ (8 * d))
  have hq2 := Int.emod_nonneg m (Int.ne_of_gt hp)
  have hq3 := Int.emod_lt_of_pos m hp
  rw [hinv] at ht
  generalize hP : (2 : Int) ^ (8 * d) = P at *
  generalize m / P = q at *
  generalize m % P = r at *
  generalize m / 2 ^ (8 * (d + 1)) = u at *
  generalize be (bs.take (i + 1 + d)) = X at *
  generalize be (bs.take (i + 1)) = Y at *
  generalize bs.getD i 0 = y at *
  rw [decide_eq_decide]
  constructor
  · intro hlt2
    have h1 : q + 1 ≤ Y := by omega
    have h2 : (q + 1) * P ≤ Y * P := Int.mul_le_mul_of_nonneg_right h1 (Int.le_of_lt hp)
    rw [Int.add_mul, Int.one_mul, Int.mul_comm q P] at h2
    omega
  · intro hlt2
    rcases Int.lt_or_le (q % 256) y with h3 | h3
    · exact h3
    · exfalso
      have h1 : Y + 1 ≤ q := by omega
      have h2 : (Y + 1) * P ≤ q * P := Int.mul_le_mul_of_nonneg_right h1 (Int.le_of_lt hp)
      rw [Int.mul_comm q P] at h2
      omega

theorem exc_small (bs : List Int) (ho : Oct bs) (m : Int) (n : Nat) (hn : n ≤ bs.length) (hm : 0 ≤ m) (hz : (m / 2 ^ (8 * n) != 0) = true) : decide (m < be (bs.take n)) = false := by
  have h1 := be_bound bs ho n hn
  have hp := p8_pos n
  rw [p8_256] at hz hp
  have hz' : m / 256 ^ n ≠ 0 := by simpa using hz
  have : ¬ m < 256 ^ n := fun h => hz' (Int.ediv_eq_zero_of_lt hm h)
  simp only [decide_eq_false_iff_not]
  omega

theorem exc_end (bs : List Int) (m : Int) (n : Nat) (hinv : be (bs.take n) = m / 2 ^ (8 * (n - n))) : decide (m < be (bs.take n)) = false := by
  rw [hinv, Nat.sub_self]
  simp

/-- The octet at place i of the number that n octets write. -/
theorem be_digit (bs : List Int) (ho : Oct bs) (n i : Nat) (hlt : i < n) (hn : n ≤ bs.length) (m : Int) (hm : m = be (bs.take n)) : (bs.getD i 0 != m / 2 ^ (8 * (n - 1 - i)) % 256) = false := by
  obtain ⟨d, rfl⟩ : ∃ d, n = i + 1 + d := ⟨n - (i + 1), by omega⟩
  rw [show i + 1 + d - 1 - i = d by omega]
  obtain ⟨s1, s2⟩ := be_split bs ho (i + 1) d hn
  have ht := be_take bs i (by omega)
  have hy := ho i
  have hp := p8_pos d
  have hq : m / 2 ^ (8 * d) = be (bs.take (i + 1)) := by
    rw [hm]
    apply Int.le_antisymm
    · apply Int.le_of_lt_add_one
      exact Int.ediv_lt_of_lt_mul hp (by omega)
    · exact Int.le_ediv_of_mul_le hp s1
  rw [hq, ht]
  simp only [bne_eq_false_iff_eq]
  omega

theorem be_none (bs : List Int) (ho : Oct bs) (n : Nat) (hn : n ≤ bs.length) (m : Int) (hm : m = be (bs.take n)) : (m / 2 ^ (8 * n) != 0) = false := by
  have h := be_bound bs ho n hn
  rw [p8_256, hm]
  simp only [bne_eq_false_iff_eq]
  exact Int.ediv_eq_zero_of_lt h.1 h.2

theorem or_low (x y s : Nat) (hy : y < 2 ^ s) : y ||| x * 2 ^ s = x * 2 ^ s + y := by
  rw [Nat.or_comm, nat_join s _ _ (Nat.mul_mod_left _ _) hy]
theorem or_u16_8 (x y : Int) (hx : 0 ≤ x) (hx2 : x ≤ 255) (hy : 0 ≤ y) (hy2 : y ≤ 255) : bits .or .u16 y (x * 256) = x * 256 + y := by
  obtain ⟨x, rfl⟩ := Int.eq_ofNat_of_zero_le hx
  obtain ⟨y, rfl⟩ := Int.eq_ofNat_of_zero_le hy
  have e : ((x : Int) * 256) = ((x * 2 ^ 8 : Nat) : Int) := by omega
  rw [e, u16_or_nat _ _ (by omega) (by omega), or_low x y 8 (by omega)]
  omega
theorem or_u16_8' (x y : Int) (hx : 0 ≤ x) (hx2 : x ≤ 255) (hy : 0 ≤ y) (hy2 : y ≤ 255) : bits .or .u16 (x * 256) y = x * 256 + y := by
  obtain ⟨x, rfl⟩ := Int.eq_ofNat_of_zero_le hx
  obtain ⟨y, rfl⟩ := Int.eq_ofNat_of_zero_le hy
  have e : ((x : Int) * 256) = ((x * 2 ^ 8 : Nat) : Int) := by omega
  rw [e, u16_or_nat _ _ (by omega) (by omega), nat_join 8 _ _ (Nat.mul_mod_left _ _) (by omega)]
  omega
theorem or_u32_8 (x y : Int) (hx : 0 ≤ x) (hx2 : x ≤ 255) (hy : 0 ≤ y) (hy2 : y < 256) : bits .or .u32 y (x * 256) = x * 256 + y := by
  obtain ⟨x, rfl⟩ := Int.eq_ofNat_of_zero_le hx
  obtain ⟨y, rfl⟩ := Int.eq_ofNat_of_zero_le hy
  have e : ((x : Int) * 256) = ((x * 2 ^ 8 : Nat) : Int) := by omega
  rw [e, u32_or_nat _ _ (by omega) (by omega), or_low x y 8 (by omega)]
  omega
theorem or_u32_16 (x y : Int) (hx : 0 ≤ x) (hx2 : x ≤ 255) (hy : 0 ≤ y) (hy2 : y < 65536) : bits .or .u32 y (x * 65536) = x * 65536 + y := by
  obtain ⟨x, rfl⟩ := Int.eq_ofNat_of_zero_le hx
  obtain ⟨y, rfl⟩ := Int.eq_ofNat_of_zero_le hy
  have e : ((x : Int) * 65536) = ((x * 2 ^ 16 : Nat) : Int) := by omega
  rw [e, u32_or_nat _ _ (by omega) (by omega), or_low x y 16 (by omega)]
  omega
theorem or_u32_24 (x y : Int) (hx : 0 ≤ x) (hx2 : x ≤ 255) (hy : 0 ≤ y) (hy2 : y < 16777216) : bits .or .u32 y (x * 16777216) = x * 16777216 + y := by
  obtain ⟨x, rfl⟩ := Int.eq_ofNat_of_zero_le hx
  obtain ⟨y, rfl⟩ := Int.eq_ofNat_of_zero_le hy
  have e : ((x : Int) * 16777216) = ((x * 2 ^ 24 : Nat) : Int) := by omega
  rw [e, u32_or_nat _ _ (by omega) (by omega), or_low x y 24 (by omega)]
  omega
theorem or_four (x0 x1 x2 x3 : Int) (b0 : 0 ≤ x0 ∧ x0 ≤ 255) (b1 : 0 ≤ x1 ∧ x1 ≤ 255) (b2 : 0 ≤ x2 ∧ x2 ≤ 255) (b3 : 0 ≤ x3 ∧ x3 ≤ 255) :
    bits .or .u32 (bits .or .u32 (bits .or .u32 x3 (x2 * 256)) (x1 * 65536)) (x0 * 16777216) = ((x0 * 256 + x1) * 256 + x2) * 256 + x3 := by
  rw [or_u32_8 x2 x3 (by omega) (by omega) (by omega) (by omega), or_u32_16 x1 _ (by omega) (by omega) (by omega) (by omega), or_u32_24 x0 _ (by omega) (by omega) (by omega) (by omega)]
  omega

theorem be_take2 (bs : List Int) (j : Nat) (h : j + 2 ≤ bs.length) : be (bs.take (j + 2)) = be (bs.take j) * 65536 + (bs.getD j 0 * 256 + bs.getD (j + 1) 0) := by
  rw [show j + 2 = j + 1 + 1 by omega, be_take bs (j + 1) (by omega), be_take bs j (by omega)]
  omega
theorem be_take4 (bs : List Int) (j : Nat) (h : j + 4 ≤ bs.length) : be (bs.take (j + 4)) = be (bs.take j) * 4294967296 + (((bs.getD j 0 * 256 + bs.getD (j + 1) 0) * 256 + bs.getD (j + 2) 0) * 256 + bs.getD (j + 3) 0) := by
  rw [show j + 4 = j + 2 + 2 by omega, be_take2 bs (j + 2) (by omega), be_take2 bs j (by omega)]
  rw [show j + 2 + 1 = j + 3 by omega]
  omega
theorem be_bound4 (bs : List Int) (ho : Oct bs) (j : Nat) (h : j ≤ bs.length) (h8 : j ≤ 4) : 0 ≤ be (bs.take j) ∧ be (bs.take j) * 4294967296 + 4294967295 < 18446744073709551616 := by
  obtain ⟨h1, h2⟩ := be_bound bs ho j h
  have := pow256_le h8
  omega
theorem be_bound6 (bs : List Int) (ho : Oct bs) (j : Nat) (h : j ≤ bs.length) (h8 : j ≤ 6) : 0 ≤ be (bs.take j) ∧ be (bs.take j) * 65536 + 65535 < 18446744073709551616 := by
  obtain ⟨h1, h2⟩ := be_bound bs ho j h
  have := pow256_le h8
  omega

end Go.Proofs.Qxb6616505aFmt
