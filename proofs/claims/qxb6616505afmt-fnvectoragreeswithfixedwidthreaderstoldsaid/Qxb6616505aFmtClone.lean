/-
  zzCloneBytes_ob1 by its contract: nil stays nil; else a new block that holds the same octets.
-/
import Derived.Test.Qxb6616505aFmtDone
namespace Go.Proofs.Qxb6616505aFmt
open Go.RowKit Go.Extern.Stop Go.Stop Go.Extern

/-- Block B holds the octets bs from its head on. -/
def Bs (w : World) (B : Nat) (bs : List Int) : Prop := ∀ i, i < bs.length → w.cell? ⟨B, i, none⟩ = some (.int .u8 (bs.getD i 0))

theorem eql22 (w : World) (a : Option Addr) (n c : Nat) : (binOp .eql 22 (.slice a n c) (.slice none 0 0)).run Tryf.prog w = .ok (.bool a.isNone) w :=
  Lib.run_eql_slice_nil w 22 5 a n c 0 0 Tryf.underlying22

theorem Tryf.info5 : (Tryf.prog.info? 5).map (fun i => (i.zero, i.size, i.bytes)) = some (some (.int .u8 0), 1, 1) := by kernel_rfl

theorem make22 (n : Nat) (hn : n ≤ 1048576) : ∃ cs : Array Value, cs.size = n ∧ ∀ w : World, (Instr.makeSlice 22 (.int .i64 (n : Int)) (.int .i64 (n : Int))).run Tryf.prog w = .ok (.slice (some ⟨w.heap.size, 0, none⟩) n n) (w.alloc (.cells cs 5)) := by
  obtain ⟨i0, hi, hz0, hz1, hz2⟩ := info_parts Tryf.info5
  refine ⟨madeCells (Value.int .u8 0).cells (n * 1), ?_, fun w => ?_⟩
  · simp [madeCells]
  · have := run_make (P := Tryf.prog) w 22 5 i0 (.int .u8 0) Tryf.underlying22 hi hz0 .i64 .i64 (n : Int) (n : Int) (by omega) (by omega) (by rw [hz2]; omega) (by omega)
    rw [hz1] at this
    simpa using this

theorem clone_nil (w : World) : Calls Tryf.prog 10 #[.slice none 0 0] w fun e w' => e = .returned (.slice none 0 0) ∧ w' = w := by
  have hq := eql22
  go_enter Tryf.func10, Tryf.ntmps10
  go_wp2
  go_ret
  exact ⟨rfl, rfl⟩

/-- The cells of the new block behind k rounds. -/
def Filled (w : World) (B : Nat) (bs : List Int) (k : Nat) : Prop := ∃ cs : Array Value, cs.size = bs.length ∧ w.heap[B]? = some (.cells cs 5 (0, 0)) ∧ ∀ j, j < k → cs[j]? = some (.int .u8 (bs.getD j 0))

theorem Filled.cell {w : World} {B : Nat} {bs : List Int} {k : Nat} (h : Filled w B bs k) (hk : k < bs.length) : ∃ v, w.cell? ⟨B, k, none⟩ = some v := by
  obtain ⟨cs, h1, h2, _⟩ := h
  exact ⟨cs[k]'(by omega), by simp [World.cell?, h2]⟩
theorem Filled.free {w : World} {B : Nat} {bs : List Int} {k : Nat} (h : Filled w B bs k) : w.frozen? ⟨B, k, none⟩ = false := by
  obtain ⟨cs, h1, h2, _⟩ := h
  simp [World.frozen?, h2]
theorem Filled.step {w : World} {B : Nat} {bs : List Int} {k : Nat} (h : Filled w B bs k) (hk : k < bs.length) : Filled (w.setCell ⟨B, k, none⟩ (.int .u8 (bs.getD k 0))) B bs (k + 1) := by
  obtain ⟨cs, h1, h2, h3⟩ := h
  refine ⟨_, by simpa using h1, block_setCell h2 _, fun j hj => ?_⟩
  rw [Array.getElem?_setIfInBounds]
  by_cases e : k = j
  · subst e; simp [h1, hk]
  · rw [if_neg e]; exact h3 j (by omega)
theorem Filled.bs {w : World} {B : Nat} {bs : List Int} (h : Filled w B bs bs.length) : Bs w B bs := by
  obtain ⟨cs, h1, h2, h3⟩ := h
  intro i hi
  simp [World.cell?, h2, h3 i hi]

theorem clone_some (x : Addr) (cap : Nat) (bs : List Int) (w : World) (hl : bs.length ≤ 1048576) (hc : 0 < bs.length → ∃ b off, x = ⟨b, off, none⟩ ∧ ∀ i, i < bs.length → w.cell? ⟨b, off + i, none⟩ = some (.int .u8 (bs.getD i 0))) :
    Calls Tryf.prog 10 #[.slice (some x) bs.length cap] w fun e w' => e = .returned (.slice (some ⟨w.heap.size, 0, none⟩) bs.length bs.length) ∧ Bs w' w.heap.size bs ∧ w'.heap.size = w.heap.size + 1 ∧ Below w.heap.size w w' := by
  have hq := eql22
  obtain ⟨cs, hcs, hmk⟩ := make22 bs.length hl
  have hstart : Filled (w.alloc (.cells cs 5)) w.heap.size bs 0 := ⟨cs, hcs, heap_alloc_new w _, fun j hj => by omega⟩
  clear hcs
  go_enter Tryf.func10, Tryf.ntmps10
  go_wp2
  go_loopw [4] (fun i wr => ∃ k : Nat, k ≤ bs.length ∧ i = .int .i64 k ∧ Filled wr w.heap.size bs k ∧ wr.heap.size = w.heap.size + 1 ∧ Below w.heap.size w wr) (fun i _ => bs.length - (intOf i).toNat)
  case atStart => exact ⟨0, Nat.zero_le _, rfl, hstart, by simp, (Below.refl _ _).alloc (Nat.le_refl _) _⟩
  case round =>
    obtain ⟨k, hk, rfl, hfil, hsz, hbel⟩ := hrel
    by_cases hlt : k < bs.length
    · obtain ⟨v, hv⟩ := hfil.cell hlt
      have hfz := hfil.free
      obtain ⟨xb, xo, rfl, hcc⟩ := hc (by omega)
      have hcx := hcc k hlt
      have R := hfil.step hlt
      have R2 := hbel.setCell (p := ⟨w.heap.size, k, none⟩) (Nat.le_refl _) (.int .u8 (bs.getD k 0))
      generalize bs.getD k 0 = y at hcx R R2
      have hcx' : wr.cell? ⟨xb, xo + k, none⟩ = some (.int .u8 y) := (hbel.cell (p := ⟨xb, xo + k, none⟩) (World.block_lt_of_cell? _ _ hcx)).trans hcx
      clear hcx hc hmk hcc
      go_wp2
      go_roundw
      case rel => exact ⟨k + 1, by omega, by go_num, R, by simpa [World.setCell] using hsz, R2⟩
      case measure => simp [intOf]; omega
    · go_wp2
      go_ret
      have : k = bs.length := by omega
      subst this
      exact ⟨rfl, hfil.bs, hsz, hbel⟩

end Go.Proofs.Qxb6616505aFmt
