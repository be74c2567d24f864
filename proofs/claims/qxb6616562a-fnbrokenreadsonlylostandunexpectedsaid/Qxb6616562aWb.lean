/-
  FnBrokenReadsOnlyLostAndUnexpected: the walk.
-/
import Derived.Test.Qxb6616562aWa
import Derived.Deep.QuietTactic
import Derived.BigQuiet
import Derived.Deep.RegionHeld3
namespace Go.Proofs.Qxb6616562a
open Go.RowKit
set_option maxRecDepth 100000

theorem Try.info27 : (Try.prog.info? 27).map (fun i => (i.zero, i.size, i.bytes)) = some (some (.agg #[.string ⟨#[]⟩, .string ⟨#[]⟩]), 2, 32) := by kernel_rfl

theorem make25 (n : Nat) (hn : n ≤ 1048576) : ∃ cs : Array Value, cs.size = n * 2 ∧ ∀ w : World, (Instr.makeSlice 25 (.int .i64 (n : Int)) (.int .i64 (n : Int))).run Try.prog w = .ok (.slice (some ⟨w.heap.size, 0, none⟩) n n) (w.alloc (.cells cs 27)) := by
  obtain ⟨i0, hi, hz0, hz1, hz2⟩ := info_parts Try.info27
  refine ⟨madeCells (Value.agg #[.string ⟨#[]⟩, .string ⟨#[]⟩]).cells (n * 2), ?_, fun w => ?_⟩
  · simp [madeCells]
  · have := run_make (P := Try.prog) w 25 27 i0 (.agg #[.string ⟨#[]⟩, .string ⟨#[]⟩]) Try.underlying25 hi hz0 .i64 .i64 (n : Int) (n : Int) (by omega) (by omega) (by rw [hz2]; omega) (by omega)
    rw [hz1] at this
    simpa using this

/-- The block of the elements that the call makes: it is there, and may be written. -/
def Row (w : World) (g n : Nat) : Prop := ∃ cs : Array Value, cs.size = n * 2 ∧ w.heap[g]? = some (.cells cs 27 (0, 0))

theorem Row.cell {w : World} {g n : Nat} (h : Row w g n) {i : Nat} (hi : i < n * 2) : ∃ v, w.cell? ⟨g, i, none⟩ = some v := by
  obtain ⟨cs, h1, h2⟩ := h
  exact ⟨cs[i]'(by omega), by simp [World.cell?, h2]⟩
theorem Row.free {w : World} {g n : Nat} (h : Row w g n) (i : Nat) : w.frozen? ⟨g, i, none⟩ = false := by
  obtain ⟨cs, h1, h2⟩ := h
  simp [World.frozen?, h2]

theorem block_setCell {w : World} {b i : Nat} {c : Array Value} {t : TypeId} {fz : Nat × Nat} (h : w.heap[b]? = some (.cells c t fz)) (u : Value) :
    (w.setCell ⟨b, i, none⟩ u).heap[b]? = some (.cells (c.setIfInBounds i u) t fz) := by
  have hlt := lt_of_block h
  have h' : w.heap[b] = .cells c t fz := by simpa [Array.getElem?_eq_getElem hlt] using h
  show (w.heap.modify b _)[b]? = _
  rw [Array.getElem?_eq_getElem (by simpa using hlt), Array.getElem_modify_self, h']
  rfl
theorem Row.set {w : World} {g n : Nat} (h : Row w g n) (i : Nat) (u : Value) : Row (w.setCell ⟨g, i, none⟩ u) g n := by
  obtain ⟨cs, h1, h2⟩ := h
  exact ⟨_, by simpa using h1, block_setCell h2 u⟩
theorem cell_two {w : World} {g i j b o : Nat} {x y v : Value} (hne : ¬ b = g) (h : w.cell? ⟨b, o, none⟩ = some v) :
    ((w.setCell ⟨g, i, none⟩ x).setCell ⟨g, j, none⟩ y).drew.cell? ⟨b, o, none⟩ = some v :=
  (World.cell?_of_block (w := w) (a := ⟨b, o, none⟩) ((Below.heap_setCell _ ⟨g, j, none⟩ y b hne).trans (Below.heap_setCell w ⟨g, i, none⟩ x b hne))).trans h

/-- What Broken answers. Not reducible: a walk does not look into it. -/
def brk (y1 y2 : Int) : Bool := decide (0 < y1) || decide (0 < y2)

theorem broken_any (y0 y1 y2 y3 : Int) (a4 a5 : Option Addr) (n4 c4 n5 c5 : Nat) (w : World) :
    Calls Try.prog 6 #[.agg #[.int .i64 y0, .int .i64 y1, .int .i64 y2, .int .i64 y3, .slice a4 n4 c4, .slice a5 n5 c5]] w fun e w' => e = .returned (.bool (brk y1 y2)) ∧
      w' = w.alloc (.cells #[.int .i64 y0, .int .i64 y1, .int .i64 y2, .int .i64 y3, .slice a4 n4 c4, .slice a5 n5 c5] 29) := by
  by_cases h1 : 0 < y1
  · have e : brk y1 y2 = true := by simp [brk, h1]
    rw [e]
    go_enter Try.func6, Try.ntmps6
    go_wp2
    go_ret
    exact ⟨rfl, rfl⟩
  · by_cases h2 : 0 < y2
    · have e : brk y1 y2 = true := by simp [brk, h2]
      rw [e]
      go_enter Try.func6, Try.ntmps6
      go_wp2
      go_ret
      exact ⟨rfl, rfl⟩
    · have e : brk y1 y2 = false := by simp [brk]; omega
      rw [e]
      go_enter Try.func6, Try.ntmps6
      go_wp2
      go_ret
      exact ⟨rfl, rfl⟩

set_option maxHeartbeats 4000000 in
theorem main_walk (x0 x1 x2 x3 x7 x8 : Int) (a4 a5 a6 a9 : Option Addr) (n4 c4 n5 c5 n6 c6 n9 c9 : Nat) (w : World) (h4 : Strs w a4 n4) (h5 : Strs w a5 n5) (h6 : Strs w a6 n6) (h9 : Strs w a9 n9) :
    Calls Try.prog 3 #[.int .i64 x0, .int .i64 x1, .int .i64 x2, .int .i64 x3, .slice a4 n4 c4, .slice a5 n5 c5, .slice a6 n6 c6, .int .i64 x7, .int .i64 x8, .slice a9 n9 c9] w fun e w' => e = .returned (.bool true) ∧ Below w.heap.size w w' := by
  go_enter Try.func3, Try.ntmps3
  go_wp2_with fail
  refine (bytes_any x0 x1 x2 x3 x7 x8 a4 a5 a6 a9 n4 c4 n5 c5 n6 c6 n9 c9 w h4 h5 h6 h9).mono ?_
  rintro e wx ⟨t, rfl, hw, ht⟩
  rw [hw]; clear hw wx
  cases t with
  | false =>
    go_wp2
    go_ret
    exact ⟨rfl, Below.refl _ _⟩
  | true =>
    have k5 := ht rfl
    clear ht
    go_wp2_with fail
    refine (addStrings_any _ a4 n4 c4 w h4).mono ?_
    rintro e wx ⟨r1, rfl, hw⟩
    rw [hw]; clear hw wx
    go_wp2_with fail
    refine (addStrings_any _ a5 n5 c5 w h5).mono ?_
    rintro e wx ⟨r2, rfl, hw⟩
    rw [hw]; clear hw wx
    go_wp2_with fail
    refine (addStrings_any _ a6 n6 c6 w h6).mono ?_
    rintro e wx ⟨r3, rfl, hw⟩
    rw [hw]; clear hw wx
    go_wp2_with fail
    refine (addStrings_any _ a9 n9 c9 w h9).mono ?_
    rintro e wx ⟨r4, rfl, hw⟩
    rw [hw]; clear hw wx
    by_cases g1 : r4 > 1048576
    · go_wp2
      go_ret
      exact ⟨rfl, Below.refl _ _⟩
    by_cases g2 : x1 < 0
    · go_wp2
      go_ret
      exact ⟨rfl, Below.refl _ _⟩
    by_cases g3 : x2 < 0
    · go_wp2
      go_ret
      exact ⟨rfl, Below.refl _ _⟩
    have q5 : n5 ≤ 9223372036854775807 := h5.1
    have q6 : n6 ≤ 9223372036854775807 := h6.1
    have hfour : ((x1 != 0) = true ∧ (x2 != 0) = true ∧ brk x1 x2 = true) ∨ ((x1 != 0) = true ∧ (x2 != 0) = false ∧ brk x1 x2 = true) ∨ ((x1 != 0) = false ∧ (x2 != 0) = true ∧ brk x1 x2 = true) ∨ ((x1 != 0) = false ∧ (x2 != 0) = false ∧ brk x1 x2 = false) := by
      simp only [bne_iff_ne, bne_eq_false_iff_eq, brk, Bool.or_eq_true, decide_eq_true_eq, Bool.or_eq_false_iff, decide_eq_false_iff_not]
      omega
    have HF : Hid (((x1 != 0) = true ∧ (x2 != 0) = true ∧ brk x1 x2 = true) ∨ ((x1 != 0) = true ∧ (x2 != 0) = false ∧ brk x1 x2 = true) ∨ ((x1 != 0) = false ∧ (x2 != 0) = true ∧ brk x1 x2 = true) ∨ ((x1 != 0) = false ∧ (x2 != 0) = false ∧ brk x1 x2 = false)) := hfour
    clear hfour
    by_cases g4 : (n6 : Int) < (n5 : Int)
    · obtain ⟨cs, hcs, hmk⟩ := make25 n6 (by omega)
      have hrow : Row (w.alloc (.cells cs 27)) w.heap.size n6 := ⟨cs, hcs, heap_alloc_new w _⟩
      clear hcs
      go_wp2
      go_loopw [23] (fun i wr => ∃ k : Nat, k ≤ n6 ∧ i = .int .i64 k ∧ Row wr w.heap.size n6 ∧ Below w.heap.size w wr) (fun i _ => n6 - (intOf i).toNat)
      case atStart => exact ⟨0, Nat.zero_le _, rfl, hrow, (Below.refl _ _).alloc (Nat.le_refl _) _⟩
      case round =>
        obtain ⟨k, hk, rfl, hr, hbel⟩ := hrel
        by_cases hlt : k < n6
        · obtain ⟨b5, o5, rfl, hc5⟩ := h5.2 (by omega)
          obtain ⟨b6, o6, rfl, hc6⟩ := h6.2 (by omega)
          obtain ⟨s5, hs5, _⟩ := hc5 k (by omega)
          obtain ⟨s6, hs6, _⟩ := hc6 k (by omega)
          have d5 := cell_later hbel hs5
          have d6 := cell_later hbel hs6
          obtain ⟨v0, hv0⟩ := hr.cell (i := k * 2) (by omega)
          obtain ⟨v1, hv1⟩ := hr.cell (i := k * 2 + 1) (by omega)
          have f0 := hr.free (k * 2)
          have f1 := hr.free (k * 2 + 1)
          have j1 : (k : Int) < (n5 : Int) := by omega
          have j2 : (k : Int) < (n6 : Int) := by omega
          have e5 := World.block_lt_of_cell? _ _ hs5
          have e6 := World.block_lt_of_cell? _ _ hs6
          have e5' : ¬ b5 = w.heap.size := by simp at e5; omega
          have e6' : ¬ b6 = w.heap.size := by simp at e6; omega
          clear hc5 hc6 hs5 hs6 h4 h9 hmk hrow
          go_wp2_with fail
          go_region_held3 (fun w' => w'.cell? ⟨b5, o5 + k, none⟩ = some (.string s5) ∧ w'.cell? ⟨b6, o6 + k, none⟩ = some (.string s6)) (first | (go_keep; done) | (refine ⟨?_, ?_⟩; exact cell_two e5' d5; exact cell_two e6' d6)) (fail)
          all_goals go_wp2
          go_roundw
          case rel => exact ⟨k + 1, by omega, by go_num, (hr.set _ _).set _ _, ((hbel.setCell (p := ⟨w.heap.size, k * 2, none⟩) (Nat.le_refl _) _).setCell (p := ⟨w.heap.size, k * 2 + 1, none⟩) (Nat.le_refl _) _).drew⟩
          case measure => simp [intOf]; omega
        · have hz := hbel.size
          rcases HF.out with ⟨f1, f2, hb⟩ | ⟨f1, f2, hb⟩ | ⟨f1, f2, hb⟩ | ⟨f1, f2, hb⟩
          all_goals
            go_wp2_with fail
            refine (broken_any _ _ _ _ _ _ _ _ _ _ _).mono ?_
            rintro e wx ⟨rfl, hw⟩
            rw [hw, hb]; clear hw wx
            go_wp2_with fail
            refine (broken_any _ _ _ _ _ _ _ _ _ _ _).mono ?_
            rintro e wx ⟨rfl, hw⟩
            rw [hw, hb]; clear hw wx
            go_wp2_with fail
            go_ret
            exact ⟨rfl, (((hbel.alloc hz _).alloc (by simp; omega) _).alloc (by simp; omega) _).alloc (by simp; omega) _⟩
    · have g4a : decide (n6 < n5) = false := by simp; omega
      have g4b : n5 ≤ n6 := by omega
      obtain ⟨cs, hcs, hmk⟩ := make25 n5 (by omega)
      have hrow : Row (w.alloc (.cells cs 27)) w.heap.size n5 := ⟨cs, hcs, heap_alloc_new w _⟩
      clear hcs
      go_wp2
      go_loopw [23] (fun i wr => ∃ k : Nat, k ≤ n5 ∧ i = .int .i64 k ∧ Row wr w.heap.size n5 ∧ Below w.heap.size w wr) (fun i _ => n5 - (intOf i).toNat)
      case atStart => exact ⟨0, Nat.zero_le _, rfl, hrow, (Below.refl _ _).alloc (Nat.le_refl _) _⟩
      case round =>
        obtain ⟨k, hk, rfl, hr, hbel⟩ := hrel
        by_cases hlt : k < n5
        · obtain ⟨b5, o5, rfl, hc5⟩ := h5.2 (by omega)
          obtain ⟨b6, o6, rfl, hc6⟩ := h6.2 (by omega)
          obtain ⟨s5, hs5, _⟩ := hc5 k (by omega)
          obtain ⟨s6, hs6, _⟩ := hc6 k (by omega)
          have d5 := cell_later hbel hs5
          have d6 := cell_later hbel hs6
          obtain ⟨v0, hv0⟩ := hr.cell (i := k * 2) (by omega)
          obtain ⟨v1, hv1⟩ := hr.cell (i := k * 2 + 1) (by omega)
          have f0 := hr.free (k * 2)
          have f1 := hr.free (k * 2 + 1)
          have j1 : (k : Int) < (n5 : Int) := by omega
          have j2 : (k : Int) < (n6 : Int) := by omega
          have e5 := World.block_lt_of_cell? _ _ hs5
          have e6 := World.block_lt_of_cell? _ _ hs6
          have e5' : ¬ b5 = w.heap.size := by simp at e5; omega
          have e6' : ¬ b6 = w.heap.size := by simp at e6; omega
          clear hc5 hc6 hs5 hs6 h4 h9 hmk hrow
          go_wp2_with fail
          go_region_held3 (fun w' => w'.cell? ⟨b5, o5 + k, none⟩ = some (.string s5) ∧ w'.cell? ⟨b6, o6 + k, none⟩ = some (.string s6)) (first | (go_keep; done) | (refine ⟨?_, ?_⟩; exact cell_two e5' d5; exact cell_two e6' d6)) (fail)
          all_goals go_wp2
          go_roundw
          case rel => exact ⟨k + 1, by omega, by go_num, (hr.set _ _).set _ _, ((hbel.setCell (p := ⟨w.heap.size, k * 2, none⟩) (Nat.le_refl _) _).setCell (p := ⟨w.heap.size, k * 2 + 1, none⟩) (Nat.le_refl _) _).drew⟩
          case measure => simp [intOf]; omega
        · have hz := hbel.size
          rcases HF.out with ⟨f1, f2, hb⟩ | ⟨f1, f2, hb⟩ | ⟨f1, f2, hb⟩ | ⟨f1, f2, hb⟩
          all_goals
            go_wp2_with fail
            refine (broken_any _ _ _ _ _ _ _ _ _ _ _).mono ?_
            rintro e wx ⟨rfl, hw⟩
            rw [hw, hb]; clear hw wx
            go_wp2_with fail
            refine (broken_any _ _ _ _ _ _ _ _ _ _ _).mono ?_
            rintro e wx ⟨rfl, hw⟩
            rw [hw, hb]; clear hw wx
            go_wp2_with fail
            go_ret
            exact ⟨rfl, (((hbel.alloc hz _).alloc (by simp; omega) _).alloc (by simp; omega) _).alloc (by simp; omega) _⟩

end Go.Proofs.Qxb6616562a
