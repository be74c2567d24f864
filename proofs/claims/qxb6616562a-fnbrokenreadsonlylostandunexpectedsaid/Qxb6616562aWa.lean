/-
  zzAddStrings, zzBytes_.., SetReport.Broken by their contracts.
-/
import Derived.Test.Qxb6616562aProg
import Derived.WalkSpells
import Derived.WalkLawsBesides
import Derived.WalkSmall
namespace Go.Proofs.Qxb6616562a
open Go.RowKit
set_option maxRecDepth 100000

/-- A slice of strings, wherever it lies: each of its elements is a string. -/
def Strs (w : World) (a : Option Addr) (n : Nat) : Prop :=
  n ≤ maxLen ∧ (0 < n → ∃ b off, a = some ⟨b, off, none⟩ ∧ ∀ i, i < n → ∃ s : ByteArray, w.cell? ⟨b, off + i, none⟩ = some (.string s) ∧ s.size ≤ maxLen)

/-- It returns an int and leaves the world as it was. -/
def IntEnd (w : World) (e : Ending) (w' : World) : Prop := ∃ r : Int, e = .returned (.int .i64 r) ∧ w' = w
theorem IntEnd.mk {w : World} {r : Int} : IntEnd w (.returned (.int .i64 r)) w := ⟨r, rfl, rfl⟩

theorem addStrings_any (t : Int) (a : Option Addr) (n cap : Nat) (w : World) (h : Strs w a n) :
    Calls Try.prog 5 #[.int .i64 t, .slice a n cap] w fun e w' => IntEnd w e w' := by
  obtain ⟨hn, hc⟩ := h
  unfold maxLen at hn
  go_enter Try.func5, Try.ntmps5
  go_wp2
  · go_ret
    exact IntEnd.mk
  go_loop [0, 5] (fun v i => ∃ (x : Int) (k : Nat), v = .int .i64 x ∧ i = .int .i64 k ∧ k ≤ n) (fun _ i => n - (intOf i).toNat)
  case atStart => exact ⟨_, 0, rfl, rfl, Nat.zero_le _⟩
  case round =>
    obtain ⟨x, k, rfl, rfl, hk⟩ := hrel
    by_cases hlt : k < n
    · obtain ⟨b, off, rfl, hcc⟩ := hc (by omega)
      obtain ⟨s, hs, hsz⟩ := hcc k hlt
      unfold maxLen at hsz
      have j1 : (k : Int) < (n : Int) := by omega
      clear hcc hc
      go_wp2
      · go_ret
        exact IntEnd.mk
      · go_ret
        exact IntEnd.mk
      · go_round
        case rel => exact ⟨_, k + 1, rfl, by go_num, by omega⟩
        case measure => simp [intOf]; omega
    · go_wp2
      go_ret
      exact IntEnd.mk

/-- It returns a bool and leaves the world as it was; where it returns true n is at most 1 << 20. -/
def BoolEnd (n : Nat) (w : World) (e : Ending) (w' : World) : Prop := ∃ t : Bool, e = .returned (.bool t) ∧ w' = w ∧ (t = true → n ≤ 1048576)
theorem BoolEnd.no {n : Nat} {w : World} : BoolEnd n w (.returned (.bool false)) w := ⟨false, rfl, rfl, fun h => by cases h⟩
theorem BoolEnd.yes {n : Nat} {w : World} (h : n ≤ 1048576) : BoolEnd n w (.returned (.bool true)) w := ⟨true, rfl, rfl, fun _ => h⟩

set_option maxHeartbeats 2000000 in
theorem bytes_any (x0 x1 x2 x3 x7 x8 : Int) (a4 a5 a6 a9 : Option Addr) (n4 c4 n5 c5 n6 c6 n9 c9 : Nat) (w : World) (h4 : Strs w a4 n4) (h5 : Strs w a5 n5) (h6 : Strs w a6 n6) (h9 : Strs w a9 n9) :
    Calls Try.prog 4 #[.int .i64 x0, .int .i64 x1, .int .i64 x2, .int .i64 x3, .slice a4 n4 c4, .slice a5 n5 c5, .slice a6 n6 c6, .int .i64 x7, .int .i64 x8, .slice a9 n9 c9] w fun e w' => BoolEnd n5 w e w' := by
  obtain ⟨hn4, hc4⟩ := h4
  obtain ⟨hn5, hc5⟩ := h5
  obtain ⟨hn6, hc6⟩ := h6
  obtain ⟨hn9, hc9⟩ := h9
  unfold maxLen at hn4 hn5 hn6 hn9
  go_enter Try.func4, Try.ntmps4
  go_wp2
  · go_ret
    exact BoolEnd.no
  go_loop [21, 22] (fun v i => ∃ (x k : Nat), v = .int .i64 x ∧ i = .int .i64 k ∧ x ≤ 1048576 ∧ k ≤ n4) (fun _ i => n4 - (intOf i).toNat)
  case atStart => exact ⟨_, 0, by go_num, rfl, by omega, Nat.zero_le _⟩
  case round =>
    obtain ⟨x4, k4, rfl, rfl, hx4, hk4⟩ := hrel
    by_cases hlt : k4 < n4
    · obtain ⟨b, off, rfl, hcc⟩ := hc4 (by omega)
      obtain ⟨s, hs, hsz⟩ := hcc k4 hlt
      unfold maxLen at hsz
      have j1 : (k4 : Int) < (n4 : Int) := by omega
      clear hcc hc4 hc5 hc6 hc9
      go_wp2
      · go_ret
        exact BoolEnd.no
      · go_ret
        exact BoolEnd.no
      · go_round
        case rel => exact ⟨x4 + s.size, k4 + 1, by go_num, by go_num, by omega, by omega⟩
        case measure => simp [intOf]; omega
    · go_wp2
      · go_ret
        exact BoolEnd.no
      · go_ret
        exact BoolEnd.no
      go_loop [21, 23] (fun v i => ∃ (x k : Nat), v = .int .i64 x ∧ i = .int .i64 k ∧ x ≤ 1048576 ∧ k ≤ n5) (fun _ i => n5 - (intOf i).toNat)
      case atStart => exact ⟨_, 0, by go_num, rfl, by omega, Nat.zero_le _⟩
      case round =>
        obtain ⟨x5, k5, rfl, rfl, hx5, hk5⟩ := hrel
        by_cases hlt : k5 < n5
        · obtain ⟨b, off, rfl, hcc⟩ := hc5 (by omega)
          obtain ⟨s, hs, hsz⟩ := hcc k5 hlt
          unfold maxLen at hsz
          have j1 : (k5 : Int) < (n5 : Int) := by omega
          clear hcc hc4 hc5 hc6 hc9
          go_wp2
          · go_ret
            exact BoolEnd.no
          · go_ret
            exact BoolEnd.no
          · go_round
            case rel => exact ⟨x5 + s.size, k5 + 1, by go_num, by go_num, by omega, by omega⟩
            case measure => simp [intOf]; omega
        · go_wp2
          · go_ret
            exact BoolEnd.no
          · go_ret
            exact BoolEnd.no
          go_loop [21, 24] (fun v i => ∃ (x k : Nat), v = .int .i64 x ∧ i = .int .i64 k ∧ x ≤ 1048576 ∧ k ≤ n6) (fun _ i => n6 - (intOf i).toNat)
          case atStart => exact ⟨_, 0, by go_num, rfl, by omega, Nat.zero_le _⟩
          case round =>
            obtain ⟨x6, k6, rfl, rfl, hx6, hk6⟩ := hrel
            by_cases hlt : k6 < n6
            · obtain ⟨b, off, rfl, hcc⟩ := hc6 (by omega)
              obtain ⟨s, hs, hsz⟩ := hcc k6 hlt
              unfold maxLen at hsz
              have j1 : (k6 : Int) < (n6 : Int) := by omega
              clear hcc hc4 hc5 hc6 hc9
              go_wp2
              · go_ret
                exact BoolEnd.no
              · go_ret
                exact BoolEnd.no
              · go_round
                case rel => exact ⟨x6 + s.size, k6 + 1, by go_num, by go_num, by omega, by omega⟩
                case measure => simp [intOf]; omega
            · go_wp2
              · go_ret
                exact BoolEnd.no
              · go_ret
                exact BoolEnd.no
              go_loop [21, 25] (fun v i => ∃ (x k : Nat), v = .int .i64 x ∧ i = .int .i64 k ∧ x ≤ 1048576 ∧ k ≤ n9) (fun _ i => n9 - (intOf i).toNat)
              case atStart => exact ⟨_, 0, by go_num, rfl, by omega, Nat.zero_le _⟩
              case round =>
                obtain ⟨x9, k9, rfl, rfl, hx9, hk9⟩ := hrel
                by_cases hlt : k9 < n9
                · obtain ⟨b, off, rfl, hcc⟩ := hc9 (by omega)
                  obtain ⟨s, hs, hsz⟩ := hcc k9 hlt
                  unfold maxLen at hsz
                  have j1 : (k9 : Int) < (n9 : Int) := by omega
                  clear hcc hc4 hc5 hc6 hc9
                  go_wp2
                  · go_ret
                    exact BoolEnd.no
                  · go_ret
                    exact BoolEnd.no
                  · go_round
                    case rel => exact ⟨x9 + s.size, k9 + 1, by go_num, by go_num, by omega, by omega⟩
                    case measure => simp [intOf]; omega
                · go_wp2
                  go_ret
                  exact BoolEnd.yes (by omega)

end Go.Proofs.Qxb6616562a
