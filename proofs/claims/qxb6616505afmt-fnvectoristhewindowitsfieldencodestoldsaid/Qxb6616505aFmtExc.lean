/-
  zzFieldExceeds_ob1 by its contract.
-/
import Derived.Test.Qxb6616505aFmtVec
namespace Go.Proofs.Qxb6616505aFmt
open Go.RowKit Go.Extern.Stop Go.Stop Go.Extern

theorem exc_far (av : Option Addr) (n cap m : Nat) (bs : List Int) (w : World) (ho : Oct bs) (hn : n ≤ bs.length) (hm : m ≤ 65536) (h7 : n < 8) (hz : ((m : Int) / 2 ^ (8 * n) != 0) = true) :
    Calls Tryf.prog 17 #[.slice av n cap, .int .i64 m] w fun e w' => e = .returned (.bool (decide ((m : Int) < be (bs.take n)))) ∧ w' = w := by
  rw [exc_small bs ho m n hn (by omega) hz]
  have h7' : (n : Int) < 8 := by omega
  go_enter Tryf.func17, Tryf.ntmps17
  go_wp2
  go_ret
  exact ⟨rfl, rfl⟩

set_option maxHeartbeats 400000 in
theorem exc_near (av : Option Addr) (B n cap m : Nat) (bs : List Int) (w : World) (hav : 0 < n → av = some ⟨B, 0, none⟩) (hbs : Bs w B bs) (ho : Oct bs) (hn : n ≤ bs.length) (hm : m ≤ 65536) (h7 : n < 8) (hz : ((m : Int) / 2 ^ (8 * n) != 0) = false) :
    Calls Tryf.prog 17 #[.slice av n cap, .int .i64 m] w fun e w' => e = .returned (.bool (decide ((m : Int) < be (bs.take n)))) ∧ w' = w := by
  have h7' : (n : Int) < 8 := by omega
  have H0 : Hid (be (bs.take 0) = (m : Int) / 2 ^ (8 * (n - 0))) := by
    have : (m : Int) / 2 ^ (8 * n) = 0 := by simpa using hz
    show be [] = _
    rw [Nat.sub_zero, this]; rfl
  obtain ⟨R, hR⟩ : ∃ R, R = decide ((m : Int) < be (bs.take n)) := ⟨_, rfl⟩
  rw [← hR]
  have HR : Hid (R = decide ((m : Int) < be (bs.take n))) := hR
  clear hR
  go_enter Tryf.func17, Tryf.ntmps17
  go_wp2
  go_loop [6] (fun v => ∃ i : Nat, i ≤ n ∧ v = .int .i64 i ∧ Hid (be (bs.take i) = (m : Int) / 2 ^ (8 * (n - i)))) (fun i => n - (intOf i).toNat)
  case atStart => exact ⟨0, Nat.zero_le _, rfl, H0⟩
  case round =>
    obtain ⟨i, hi, rfl, hinv⟩ := hrel
    by_cases hlt : i < n
    · obtain rfl := hav (by omega)
      have hc := hbs i (by omega)
      have hy := ho i
      have HS : Hid (bs.getD i 0 = (m : Int) / 2 ^ (8 * (n - 1 - i)) % 256 → be (bs.take (i + 1)) = (m : Int) / 2 ^ (8 * (n - (i + 1)))) := exc_step bs m n i hlt hn hinv.out
      have HT : Hid ((bs.getD i 0 != (m : Int) / 2 ^ (8 * (n - 1 - i)) % 256) = true → decide ((m : Int) / 2 ^ (8 * (n - 1 - i)) % 256 < bs.getD i 0) = decide ((m : Int) < be (bs.take n))) := exc_stop bs ho m n i hlt hn hinv.out
      generalize bs.getD i 0 = y at hc hy HS HT
      obtain ⟨hy1, hy2⟩ := hy
      have j1 : (i : Int) < (n : Int) := by omega
      by_cases hd : (y != (m : Int) / 2 ^ (8 * (n - 1 - i)) % 256) = true
      · go_wp2
        go_ret
        exact ⟨by rw [HR.out, ← HT.out hd]; rfl, rfl⟩
      · have hd' : (y != (m : Int) / 2 ^ (8 * (n - 1 - i)) % 256) = false := by simpa using hd
        clear hd
        go_wp2
        go_round
        case rel => exact ⟨i + 1, by omega, by go_num, HS.out (by simpa using hd')⟩
        case measure => simp [intOf]; omega
    · obtain rfl : i = n := by omega
      have HE : Hid (R = false) := HR.out.trans (exc_end bs m i hinv.out)
      go_wp2
      go_ret
      exact ⟨by rw [HE.out]; rfl, rfl⟩

set_option maxHeartbeats 400000 in
theorem exc_eight (av : Option Addr) (B n cap m : Nat) (bs : List Int) (w : World) (hav : 0 < n → av = some ⟨B, 0, none⟩) (hbs : Bs w B bs) (ho : Oct bs) (hn : n ≤ bs.length) (hm : m ≤ 65536) (h7 : n = 8) :
    Calls Tryf.prog 17 #[.slice av n cap, .int .i64 m] w fun e w' => e = .returned (.bool (decide ((m : Int) < be (bs.take n)))) ∧ w' = w := by
  have H0 : Hid (be (bs.take 0) = (m : Int) / 2 ^ (8 * (n - 0))) := by
    show be [] = _
    rw [h7]
    exact (Int.ediv_eq_zero_of_lt (by omega) (by omega)).symm
  have h7' : ¬ (n : Int) < 8 := by omega
  have H8 : Hid (n = 8) := h7
  clear h7
  have h8 : n ≤ 8 := by have := H8.out; omega
  obtain ⟨R, hR⟩ : ∃ R, R = decide ((m : Int) < be (bs.take n)) := ⟨_, rfl⟩
  rw [← hR]
  have HR : Hid (R = decide ((m : Int) < be (bs.take n))) := hR
  clear hR
  go_enter Tryf.func17, Tryf.ntmps17
  go_wp2
  go_loop [6] (fun v => ∃ i : Nat, i ≤ n ∧ v = .int .i64 i ∧ Hid (be (bs.take i) = (m : Int) / 2 ^ (8 * (n - i)))) (fun i => n - (intOf i).toNat)
  case atStart => exact ⟨0, Nat.zero_le _, rfl, H0⟩
  case round =>
    obtain ⟨i, hi, rfl, hinv⟩ := hrel
    by_cases hlt : i < n
    · obtain rfl := hav (by omega)
      have hc := hbs i (by omega)
      have hy := ho i
      have HS : Hid (bs.getD i 0 = (m : Int) / 2 ^ (8 * (n - 1 - i)) % 256 → be (bs.take (i + 1)) = (m : Int) / 2 ^ (8 * (n - (i + 1)))) := exc_step bs m n i hlt hn hinv.out
      have HT : Hid ((bs.getD i 0 != (m : Int) / 2 ^ (8 * (n - 1 - i)) % 256) = true → decide ((m : Int) / 2 ^ (8 * (n - 1 - i)) % 256 < bs.getD i 0) = decide ((m : Int) < be (bs.take n))) := exc_stop bs ho m n i hlt hn hinv.out
      generalize bs.getD i 0 = y at hc hy HS HT
      obtain ⟨hy1, hy2⟩ := hy
      have j1 : (i : Int) < (n : Int) := by omega
      by_cases hd : (y != (m : Int) / 2 ^ (8 * (n - 1 - i)) % 256) = true
      · go_wp2
        go_ret
        exact ⟨by rw [HR.out, ← HT.out hd]; rfl, rfl⟩
      · have hd' : (y != (m : Int) / 2 ^ (8 * (n - 1 - i)) % 256) = false := by simpa using hd
        clear hd
        go_wp2
        go_round
        case rel => exact ⟨i + 1, by omega, by go_num, HS.out (by simpa using hd')⟩
        case measure => simp [intOf]; omega
    · obtain rfl : i = n := by omega
      have HE : Hid (R = false) := HR.out.trans (exc_end bs m i hinv.out)
      go_wp2
      go_ret
      exact ⟨by rw [HE.out]; rfl, rfl⟩

theorem exc_any (av : Option Addr) (B n cap m : Nat) (bs : List Int) (w : World) (hav : 0 < n → av = some ⟨B, 0, none⟩) (hbs : Bs w B bs) (ho : Oct bs) (hn : n ≤ bs.length) (h8 : n ≤ 8) (hm : m ≤ 65536) :
    Calls Tryf.prog 17 #[.slice av n cap, .int .i64 m] w fun e w' => e = .returned (.bool (decide ((m : Int) < be (bs.take n)))) ∧ w' = w := by
  rcases Nat.lt_or_ge n 8 with h | h
  · cases hz : ((m : Int) / 2 ^ (8 * n) != 0) with
    | true => exact exc_far av n cap m bs w ho hn hm h hz
    | false => exact exc_near av B n cap m bs w hav hbs ho hn hm h hz
  · exact exc_eight av B n cap m bs w hav hbs ho hn hm (by omega)

theorem exc_int (av : Option Addr) (B n cap : Nat) (mi : Int) (bs : List Int) (w : World) (hav : 0 < n → av = some ⟨B, 0, none⟩) (hbs : Bs w B bs) (ho : Oct bs) (hn : n ≤ bs.length) (h8 : n ≤ 8) (h0 : 0 ≤ mi) (hm : mi ≤ 65536) (b : Bool) (hb : decide (mi < be (bs.take n)) = b) :
    Calls Tryf.prog 17 #[.slice av n cap, .int .i64 mi] w fun e w' => e = .returned (.bool b) ∧ w' = w := by
  obtain ⟨m, rfl⟩ := Int.eq_ofNat_of_zero_le h0
  rw [← hb]
  exact exc_any av B n cap m bs w hav hbs ho hn h8 (by omega)

end Go.Proofs.Qxb6616505aFmt
