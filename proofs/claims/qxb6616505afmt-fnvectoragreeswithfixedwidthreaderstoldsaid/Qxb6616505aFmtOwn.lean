/-
  The guards 'zzBytes_..' by their contracts; slices that came in, slices of the call's own; zzCloneBytes_ob1 at whatever slice.
-/
import Derived.Test.Qxb6616505aFmtClone
namespace Go.Proofs.Qxb6616505aFmt
open Go.RowKit Go.Extern.Stop Go.Stop Go.Extern

/-- What a guard answers. Not reducible: a walk does not look into it. -/
def fitsB (n m : Nat) : Bool := decide (n + m ≤ 1048576)

theorem bytes9 (a : Option Addr) (n c : Nat) (s : ByteArray) (w : World) (hn : n ≤ maxLen) (hs : s.size ≤ maxLen) :
    Calls Tryf.prog 9 #[.slice a n c, .string s] w fun e w' => e = .returned (.bool (fitsB n s.size)) ∧ w' = w := by
  unfold maxLen at hn hs
  by_cases h1 : n ≤ 1048576
  · by_cases h2 : s.size ≤ 1048576
    · by_cases h3 : n + s.size ≤ 1048576
      · have e : fitsB n s.size = true := by simp [fitsB]; omega
        rw [e]
        have g1 : ¬ (n : Int) > 1048576 := by omega
        have g2 : ¬ (s.size : Int) > 1048576 := by omega
        have g3 : ¬ (n : Int) + (s.size : Int) > 1048576 := by omega
        go_enter Tryf.func9, Tryf.ntmps9
        go_wp2
        go_ret
        exact ⟨rfl, rfl⟩
      · have e : fitsB n s.size = false := by simp [fitsB]; omega
        rw [e]
        have g1 : ¬ (n : Int) > 1048576 := by omega
        have g2 : ¬ (s.size : Int) > 1048576 := by omega
        have g3 : (n : Int) + (s.size : Int) > 1048576 := by omega
        go_enter Tryf.func9, Tryf.ntmps9
        go_wp2
        go_ret
        exact ⟨rfl, rfl⟩
    · have e : fitsB n s.size = false := by simp [fitsB]; omega
      rw [e]
      have g1 : ¬ (n : Int) > 1048576 := by omega
      have g2 : (s.size : Int) > 1048576 := by omega
      go_enter Tryf.func9, Tryf.ntmps9
      go_wp2
      go_ret
      exact ⟨rfl, rfl⟩
  · have e : fitsB n s.size = false := by simp [fitsB]; omega
    rw [e]
    have g1 : (n : Int) > 1048576 := by omega
    go_enter Tryf.func9, Tryf.ntmps9
    go_wp2
    go_ret
    exact ⟨rfl, rfl⟩

theorem bytes15 (a : Option Addr) (n c : Nat) (s : ByteArray) (k : Int) (w : World) (hn : n ≤ maxLen) (hs : s.size ≤ maxLen) :
    Calls Tryf.prog 15 #[.slice a n c, .string s, .int .i64 k] w fun e w' => e = .returned (.bool (fitsB n s.size)) ∧ w' = w := by
  unfold maxLen at hn hs
  by_cases h1 : n ≤ 1048576
  · by_cases h2 : s.size ≤ 1048576
    · by_cases h3 : n + s.size ≤ 1048576
      · have e : fitsB n s.size = true := by simp [fitsB]; omega
        rw [e]
        have g1 : ¬ (n : Int) > 1048576 := by omega
        have g2 : ¬ (s.size : Int) > 1048576 := by omega
        have g3 : ¬ (n : Int) + (s.size : Int) > 1048576 := by omega
        go_enter Tryf.func15, Tryf.ntmps15
        go_wp2
        go_ret
        exact ⟨rfl, rfl⟩
      · have e : fitsB n s.size = false := by simp [fitsB]; omega
        rw [e]
        have g1 : ¬ (n : Int) > 1048576 := by omega
        have g2 : ¬ (s.size : Int) > 1048576 := by omega
        have g3 : (n : Int) + (s.size : Int) > 1048576 := by omega
        go_enter Tryf.func15, Tryf.ntmps15
        go_wp2
        go_ret
        exact ⟨rfl, rfl⟩
    · have e : fitsB n s.size = false := by simp [fitsB]; omega
      rw [e]
      have g1 : ¬ (n : Int) > 1048576 := by omega
      have g2 : (s.size : Int) > 1048576 := by omega
      go_enter Tryf.func15, Tryf.ntmps15
      go_wp2
      go_ret
      exact ⟨rfl, rfl⟩
  · have e : fitsB n s.size = false := by simp [fitsB]; omega
    rw [e]
    have g1 : (n : Int) > 1048576 := by omega
    go_enter Tryf.func15, Tryf.ntmps15
    go_wp2
    go_ret
    exact ⟨rfl, rfl⟩

theorem bytes18 (a : Option Addr) (n c : Nat) (s : ByteArray) (k : Int) (w : World) (hn : n ≤ maxLen) (hs : s.size ≤ maxLen) :
    Calls Tryf.prog 18 #[.slice a n c, .int .i64 k, .string s] w fun e w' => e = .returned (.bool (fitsB n s.size)) ∧ w' = w := by
  unfold maxLen at hn hs
  by_cases h1 : n ≤ 1048576
  · by_cases h2 : s.size ≤ 1048576
    · by_cases h3 : n + s.size ≤ 1048576
      · have e : fitsB n s.size = true := by simp [fitsB]; omega
        rw [e]
        have g1 : ¬ (n : Int) > 1048576 := by omega
        have g2 : ¬ (s.size : Int) > 1048576 := by omega
        have g3 : ¬ (n : Int) + (s.size : Int) > 1048576 := by omega
        go_enter Tryf.func18, Tryf.ntmps18
        go_wp2
        go_ret
        exact ⟨rfl, rfl⟩
      · have e : fitsB n s.size = false := by simp [fitsB]; omega
        rw [e]
        have g1 : ¬ (n : Int) > 1048576 := by omega
        have g2 : ¬ (s.size : Int) > 1048576 := by omega
        have g3 : (n : Int) + (s.size : Int) > 1048576 := by omega
        go_enter Tryf.func18, Tryf.ntmps18
        go_wp2
        go_ret
        exact ⟨rfl, rfl⟩
    · have e : fitsB n s.size = false := by simp [fitsB]; omega
      rw [e]
      have g1 : ¬ (n : Int) > 1048576 := by omega
      have g2 : (s.size : Int) > 1048576 := by omega
      go_enter Tryf.func18, Tryf.ntmps18
      go_wp2
      go_ret
      exact ⟨rfl, rfl⟩
  · have e : fitsB n s.size = false := by simp [fitsB]; omega
    rw [e]
    have g1 : (n : Int) > 1048576 := by omega
    go_enter Tryf.func18, Tryf.ntmps18
    go_wp2
    go_ret
    exact ⟨rfl, rfl⟩

theorem bytes20 (a : Option Addr) (n c : Nat) (s : ByteArray) (k : Int) (w : World) (hn : n ≤ maxLen) (hs : s.size ≤ maxLen) :
    Calls Tryf.prog 20 #[.slice a n c, .int .i64 k, .string s] w fun e w' => e = .returned (.bool (fitsB n s.size)) ∧ w' = w := by
  unfold maxLen at hn hs
  by_cases h1 : n ≤ 1048576
  · by_cases h2 : s.size ≤ 1048576
    · by_cases h3 : n + s.size ≤ 1048576
      · have e : fitsB n s.size = true := by simp [fitsB]; omega
        rw [e]
        have g1 : ¬ (n : Int) > 1048576 := by omega
        have g2 : ¬ (s.size : Int) > 1048576 := by omega
        have g3 : ¬ (n : Int) + (s.size : Int) > 1048576 := by omega
        go_enter Tryf.func20, Tryf.ntmps20
        go_wp2
        go_ret
        exact ⟨rfl, rfl⟩
      · have e : fitsB n s.size = false := by simp [fitsB]; omega
        rw [e]
        have g1 : ¬ (n : Int) > 1048576 := by omega
        have g2 : ¬ (s.size : Int) > 1048576 := by omega
        have g3 : (n : Int) + (s.size : Int) > 1048576 := by omega
        go_enter Tryf.func20, Tryf.ntmps20
        go_wp2
        go_ret
        exact ⟨rfl, rfl⟩
    · have e : fitsB n s.size = false := by simp [fitsB]; omega
      rw [e]
      have g1 : ¬ (n : Int) > 1048576 := by omega
      have g2 : (s.size : Int) > 1048576 := by omega
      go_enter Tryf.func20, Tryf.ntmps20
      go_wp2
      go_ret
      exact ⟨rfl, rfl⟩
  · have e : fitsB n s.size = false := by simp [fitsB]; omega
    rw [e]
    have g1 : (n : Int) > 1048576 := by omega
    go_enter Tryf.func20, Tryf.ntmps20
    go_wp2
    go_ret
    exact ⟨rfl, rfl⟩

theorem bytes21 (a : Option Addr) (n c : Nat) (s : ByteArray) (w : World) (hn : n ≤ maxLen) (hs : s.size ≤ maxLen) :
    Calls Tryf.prog 21 #[.slice a n c, .string s] w fun e w' => e = .returned (.bool (fitsB n s.size)) ∧ w' = w := by
  unfold maxLen at hn hs
  by_cases h1 : n ≤ 1048576
  · by_cases h2 : s.size ≤ 1048576
    · by_cases h3 : n + s.size ≤ 1048576
      · have e : fitsB n s.size = true := by simp [fitsB]; omega
        rw [e]
        have g1 : ¬ (n : Int) > 1048576 := by omega
        have g2 : ¬ (s.size : Int) > 1048576 := by omega
        have g3 : ¬ (n : Int) + (s.size : Int) > 1048576 := by omega
        go_enter Tryf.func21, Tryf.ntmps21
        go_wp2
        go_ret
        exact ⟨rfl, rfl⟩
      · have e : fitsB n s.size = false := by simp [fitsB]; omega
        rw [e]
        have g1 : ¬ (n : Int) > 1048576 := by omega
        have g2 : ¬ (s.size : Int) > 1048576 := by omega
        have g3 : (n : Int) + (s.size : Int) > 1048576 := by omega
        go_enter Tryf.func21, Tryf.ntmps21
        go_wp2
        go_ret
        exact ⟨rfl, rfl⟩
    · have e : fitsB n s.size = false := by simp [fitsB]; omega
      rw [e]
      have g1 : ¬ (n : Int) > 1048576 := by omega
      have g2 : (s.size : Int) > 1048576 := by omega
      go_enter Tryf.func21, Tryf.ntmps21
      go_wp2
      go_ret
      exact ⟨rfl, rfl⟩
  · have e : fitsB n s.size = false := by simp [fitsB]; omega
    rw [e]
    have g1 : (n : Int) > 1048576 := by omega
    go_enter Tryf.func21, Tryf.ntmps21
    go_wp2
    go_ret
    exact ⟨rfl, rfl⟩

theorem bytes23 (a : Option Addr) (n c : Nat) (s : ByteArray) (k : Int) (w : World) (hn : n ≤ maxLen) (hs : s.size ≤ maxLen) :
    Calls Tryf.prog 23 #[.slice a n c, .string s, .int .i64 k] w fun e w' => e = .returned (.bool (fitsB n s.size)) ∧ w' = w := by
  unfold maxLen at hn hs
  by_cases h1 : n ≤ 1048576
  · by_cases h2 : s.size ≤ 1048576
    · by_cases h3 : n + s.size ≤ 1048576
      · have e : fitsB n s.size = true := by simp [fitsB]; omega
        rw [e]
        have g1 : ¬ (n : Int) > 1048576 := by omega
        have g2 : ¬ (s.size : Int) > 1048576 := by omega
        have g3 : ¬ (n : Int) + (s.size : Int) > 1048576 := by omega
        go_enter Tryf.func23, Tryf.ntmps23
        go_wp2
        go_ret
        exact ⟨rfl, rfl⟩
      · have e : fitsB n s.size = false := by simp [fitsB]; omega
        rw [e]
        have g1 : ¬ (n : Int) > 1048576 := by omega
        have g2 : ¬ (s.size : Int) > 1048576 := by omega
        have g3 : (n : Int) + (s.size : Int) > 1048576 := by omega
        go_enter Tryf.func23, Tryf.ntmps23
        go_wp2
        go_ret
        exact ⟨rfl, rfl⟩
    · have e : fitsB n s.size = false := by simp [fitsB]; omega
      rw [e]
      have g1 : ¬ (n : Int) > 1048576 := by omega
      have g2 : (s.size : Int) > 1048576 := by omega
      go_enter Tryf.func23, Tryf.ntmps23
      go_wp2
      go_ret
      exact ⟨rfl, rfl⟩
  · have e : fitsB n s.size = false := by simp [fitsB]; omega
    rw [e]
    have g1 : (n : Int) > 1048576 := by omega
    go_enter Tryf.func23, Tryf.ntmps23
    go_wp2
    go_ret
    exact ⟨rfl, rfl⟩

/-- A slice of octets as a value, wherever it lies: bs are its elements. -/
def Octs (w : World) (a : Option Addr) (len cap : Nat) (bs : List Int) : Prop :=
  bs.length = len ∧ (a = none → len = 0 ∧ cap = 0) ∧ (0 < len → ∃ b off, a = some ⟨b, off, none⟩ ∧ ∀ i, i < bs.length → w.cell? ⟨b, off + i, none⟩ = some (.int .u8 (bs.getD i 0)))

/-- A slice of octets that lies at the head of block B. -/
def Own (w : World) (B : Nat) (a : Option Addr) (bs : List Int) : Prop := (0 < bs.length → a = some ⟨B, 0, none⟩ ∧ B < w.heap.size) ∧ (a = none → bs.length = 0) ∧ Bs w B bs

theorem answers_below {F : Interp} {B : Nat} {w w' : World} (hF : F.answers w.tape) (h : Below B w w') : F.answers w'.tape := by rw [h.tape]; exact hF
theorem answers_upd {F : Interp} {B : Nat} {w w' : World} (hF : F.answers w.tape) (h : Upd B w w') : F.answers w'.tape := by rw [h.tape]; exact hF
theorem RS.drew {w : World} {rb B L o : Nat} {err : Value} (h : RS w rb B L o err) : RS w.drew rb B L o err := h

theorem Own.octs {w : World} {B : Nat} {a : Option Addr} {bs : List Int} (h : Own w B a bs) : Octs w a bs.length bs.length bs :=
  ⟨rfl, fun e => ⟨h.2.1 e, h.2.1 e⟩, fun hp => ⟨B, 0, (h.1 hp).1, fun i hi => by simpa using h.2.2 i hi⟩⟩

theorem Bs.below {w w' : World} {B : Nat} {bs : List Int} (h : Bs w B bs) (hb : Below w.heap.size w w') : Bs w' B bs :=
  fun i hi => (hb.cell (p := ⟨B, i, none⟩) (World.block_lt_of_cell? _ _ (h i hi))).trans (h i hi)
theorem Own.below {w w' : World} {B : Nat} {a : Option Addr} {bs : List Int} (h : Own w B a bs) (hb : Below w.heap.size w w') : Own w' B a bs :=
  ⟨fun hp => ⟨(h.1 hp).1, Nat.lt_of_lt_of_le (h.1 hp).2 hb.size⟩, h.2.1, h.2.2.below hb⟩
theorem Bs.upd {w w' : World} {B rb : Nat} {bs : List Int} (h : Bs w B bs) (hu : Upd rb w w') (hn : 0 < bs.length → B ≠ rb) : Bs w' B bs :=
  fun i hi => (hu.cell (p := ⟨B, i, none⟩) (World.block_lt_of_cell? _ _ (h i hi)) (hn (by omega))).trans (h i hi)
theorem Own.upd {w w' : World} {B rb : Nat} {a : Option Addr} {bs : List Int} (h : Own w B a bs) (hu : Upd rb w w') (hn : 0 < bs.length → B ≠ rb) : Own w' B a bs :=
  ⟨fun hp => ⟨(h.1 hp).1, Nat.lt_of_lt_of_le (h.1 hp).2 hu.size⟩, h.2.1, h.2.2.upd hu hn⟩

theorem clone_any (a : Option Addr) (len cap : Nat) (bs : List Int) (w : World) (h : Octs w a len cap bs) (hl : len ≤ 1048576) :
    Calls Tryf.prog 10 #[.slice a len cap] w fun e w' => (∃ a', e = .returned (.slice a' len len) ∧ Own w' w.heap.size a' bs) ∧ w'.heap.size ≤ w.heap.size + 1 ∧ Below w.heap.size w w' := by
  obtain ⟨rfl, h2, h3⟩ := h
  cases a with
  | none =>
    obtain ⟨e1, rfl⟩ := h2 rfl
    rw [e1]
    have hb : bs = [] := List.eq_nil_of_length_eq_zero e1
    subst hb
    refine (clone_nil w).mono ?_
    rintro e w' ⟨rfl, rfl⟩
    exact ⟨⟨none, rfl, fun h => absurd h (by simp), fun _ => rfl, fun i hi => absurd hi (by simp)⟩, by omega, Below.refl _ _⟩
  | some x =>
    refine (clone_some x cap bs w hl (fun hp => ?_)).mono ?_
    · obtain ⟨b, off, e, h⟩ := h3 hp
      exact ⟨b, off, by simpa using e, h⟩
    · rintro e w' ⟨rfl, hb, hs, hbel⟩
      exact ⟨⟨_, rfl, fun _ => ⟨rfl, by omega⟩, fun e => by simp at e, hb⟩, by omega, hbel⟩

theorem newReader_own (a : Option Addr) (B : Nat) (bs : List Int) (w : World) (h : Own w B a bs) :
    Calls Tryf.prog 11 #[.slice a bs.length bs.length] w fun e w' => e = .returned (.pointer (some ⟨w.heap.size, 0, none⟩)) ∧ RS w' w.heap.size B bs.length 0 .nilIface ∧ Below w.heap.size w w' ∧ w.heap.size < w'.heap.size := by
  refine (newReader_any _ w ⟨_, _, _, rfl⟩).mono ?_
  rintro e w' ⟨rfl, rfl⟩
  exact ⟨rfl, ⟨Nat.zero_le _, a, _, fun hp => (h.1 hp).1, heap_alloc_new w _⟩, (Below.refl _ _).alloc (Nat.le_refl _) _, by simp⟩

end Go.Proofs.Qxb6616505aFmt
