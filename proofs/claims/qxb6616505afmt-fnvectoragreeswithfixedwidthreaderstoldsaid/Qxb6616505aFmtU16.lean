/-
  Uint16, Uint32 by their contracts, encoding/binary's with them.
-/
import Derived.Test.Qxb6616505aFmtOwn
import Derived.Test.Qxb6616505aFmtNum
import Derived.WalkSmall
namespace Go.Proofs.Qxb6616505aFmt
open Go.RowKit Go.Extern.Stop Go.Stop Go.Extern

theorem ret_int {k : IntKind} {a b : Int} (h : a = b) : Ending.returned (.int k a) = .returned (.int k b) := by rw [h]

theorem be16 (B o cap : Nat) (x0 x1 : Int) (w : World) (h0 : w.cell? ⟨B, o, none⟩ = some (.int .u8 x0)) (h1 : w.cell? ⟨B, o + 1, none⟩ = some (.int .u8 x1)) (b0 : 0 ≤ x0 ∧ x0 ≤ 255) (b1 : 0 ≤ x1 ∧ x1 ≤ 255) :
    Calls Tryf.prog 28 #[.agg #[], .slice (some ⟨B, o, none⟩) 2 cap] w fun e w' => e = .returned (.int .u16 (x0 * 256 + x1)) ∧ Below w.heap.size w w' := by
  obtain ⟨b01, b02⟩ := b0
  obtain ⟨b11, b12⟩ := b1
  have hl0 := World.block_lt_of_cell? _ _ h0
  go_enter Tryf.func28, Tryf.ntmps28
  go_wp2
  go_quiet (fail)
  go_wp2
  go_ret
  exact ⟨ret_int (or_u16_8 x0 x1 b01 b02 b11 b12), below_drewN ((Below.refl _ _).alloc (Nat.le_refl _) _) _⟩

theorem be32 (B o cap : Nat) (x0 x1 x2 x3 : Int) (w : World) (h0 : w.cell? ⟨B, o, none⟩ = some (.int .u8 x0)) (h1 : w.cell? ⟨B, o + 1, none⟩ = some (.int .u8 x1)) (h2 : w.cell? ⟨B, o + 2, none⟩ = some (.int .u8 x2)) (h3 : w.cell? ⟨B, o + 3, none⟩ = some (.int .u8 x3)) (b0 : 0 ≤ x0 ∧ x0 ≤ 255) (b1 : 0 ≤ x1 ∧ x1 ≤ 255) (b2 : 0 ≤ x2 ∧ x2 ≤ 255) (b3 : 0 ≤ x3 ∧ x3 ≤ 255) :
    Calls Tryf.prog 29 #[.agg #[], .slice (some ⟨B, o, none⟩) 4 cap] w fun e w' => e = .returned (.int .u32 (((x0 * 256 + x1) * 256 + x2) * 256 + x3)) ∧ Below w.heap.size w w' := by
  obtain ⟨b01, b02⟩ := b0
  obtain ⟨b11, b12⟩ := b1
  obtain ⟨b21, b22⟩ := b2
  obtain ⟨b31, b32⟩ := b3
  have hl0 := World.block_lt_of_cell? _ _ h0
  go_enter Tryf.func29, Tryf.ntmps29
  go_wp2
  go_quiet (fail)
  go_wp2
  go_ret
  exact ⟨ret_int (or_four x0 x1 x2 x3 ⟨b01, b02⟩ ⟨b11, b12⟩ ⟨b21, b22⟩ ⟨b31, b32⟩), below_drewN ((Below.refl _ _).alloc (Nat.le_refl _) _) _⟩

theorem uint16_rs_err (rb B L o : Nat) (a : Addr) (field : ByteArray) (w : World) (h : RS w rb B L o (.iface 55 (.pointer (some a)))) :
    Calls Tryf.prog 22 #[.pointer (some ⟨rb, 0, none⟩), .string field] w fun e w' => e = .returned (.int .u16 0) ∧ w' = w := by
  have h2 := h.c2
  go_enter Tryf.func22, Tryf.ntmps22
  go_wp2_with (go_at_call 19; refine (next_rs_err rb B L o a field 2 _ h).mono ?_; rintro e w' ⟨rfl, rfl⟩)
  go_ret
  exact ⟨rfl, rfl⟩

theorem uint16_rs_cut (F : Interp) (rb B L o : Nat) (field : ByteArray) (w : World) (hF : F.answers w.tape) (h : RS w rb B L o .nilIface) (hl : L < o + 2) :
    Calls Tryf.prog 22 #[.pointer (some ⟨rb, 0, none⟩), .string field] w fun e w' => e = .returned (.int .u16 0) ∧ (∃ a, RS w' rb B L o (.iface 55 (.pointer (some a)))) ∧ Upd rb w w' := by
  go_enter Tryf.func22, Tryf.ntmps22
  go_wp2_with (go_at_call 19; refine (next_rs_cut F rb B L o field 2 w hF h (by omega)).mono ?_; rintro e w1 ⟨rfl, ⟨a, hr1⟩, hu⟩; have hc2 := hr1.c2)
  go_ret
  exact ⟨rfl, ⟨_, by assumption⟩, by assumption⟩

theorem uint16_rs_ok (rb B L o : Nat) (x0 x1 : Int) (field : ByteArray) (w : World) (h : RS w rb B L o .nilIface) (hl : o + 2 ≤ L) (hne : B ≠ rb) (hx0 : w.cell? ⟨B, o, none⟩ = some (.int .u8 x0)) (hx1 : w.cell? ⟨B, o + 1, none⟩ = some (.int .u8 x1)) (b0 : 0 ≤ x0 ∧ x0 ≤ 255) (b1 : 0 ≤ x1 ∧ x1 ≤ 255) :
    Calls Tryf.prog 22 #[.pointer (some ⟨rb, 0, none⟩), .string field] w fun e w' => e = .returned (.int .u16 (x0 * 256 + x1)) ∧ RS w' rb B L (o + 2) .nilIface ∧ Upd rb w w' := by
  have hB := World.block_lt_of_cell? _ _ hx0
  go_enter Tryf.func22, Tryf.ntmps22
  go_wp2_with fail
  refine (next_rs_ok rb B L o 2 field w h (by omega)).mono ?_
  rintro e w1 ⟨⟨av, rfl, hav⟩, hr1, hu⟩
  rw [hav (by decide)]
  clear hav
  have hc2 := hr1.c2
  have hy0 := (hu.cell (p := ⟨B, o, none⟩) hB hne).trans hx0; have hy1 := (hu.cell (p := ⟨B, o + 1, none⟩) hB hne).trans hx1
  go_wp2_with fail
  refine (be16 B o _ x0 x1 w1 hy0 hy1 b0 b1).mono ?_
  rintro e w2 ⟨rfl, hbel⟩
  go_wp2_with fail
  go_ret
  exact ⟨rfl, hr1.of_below hbel, hu.trans (Upd.of_below hbel)⟩

theorem uint32_rs_err (rb B L o : Nat) (a : Addr) (field : ByteArray) (w : World) (h : RS w rb B L o (.iface 55 (.pointer (some a)))) :
    Calls Tryf.prog 24 #[.pointer (some ⟨rb, 0, none⟩), .string field] w fun e w' => e = .returned (.int .u32 0) ∧ w' = w := by
  have h2 := h.c2
  go_enter Tryf.func24, Tryf.ntmps24
  go_wp2_with (go_at_call 19; refine (next_rs_err rb B L o a field 4 _ h).mono ?_; rintro e w' ⟨rfl, rfl⟩)
  go_ret
  exact ⟨rfl, rfl⟩

theorem uint32_rs_cut (F : Interp) (rb B L o : Nat) (field : ByteArray) (w : World) (hF : F.answers w.tape) (h : RS w rb B L o .nilIface) (hl : L < o + 4) :
    Calls Tryf.prog 24 #[.pointer (some ⟨rb, 0, none⟩), .string field] w fun e w' => e = .returned (.int .u32 0) ∧ (∃ a, RS w' rb B L o (.iface 55 (.pointer (some a)))) ∧ Upd rb w w' := by
  go_enter Tryf.func24, Tryf.ntmps24
  go_wp2_with (go_at_call 19; refine (next_rs_cut F rb B L o field 4 w hF h (by omega)).mono ?_; rintro e w1 ⟨rfl, ⟨a, hr1⟩, hu⟩; have hc2 := hr1.c2)
  go_ret
  exact ⟨rfl, ⟨_, by assumption⟩, by assumption⟩

theorem uint32_rs_ok (rb B L o : Nat) (x0 x1 x2 x3 : Int) (field : ByteArray) (w : World) (h : RS w rb B L o .nilIface) (hl : o + 4 ≤ L) (hne : B ≠ rb) (hx0 : w.cell? ⟨B, o, none⟩ = some (.int .u8 x0)) (hx1 : w.cell? ⟨B, o + 1, none⟩ = some (.int .u8 x1)) (hx2 : w.cell? ⟨B, o + 2, none⟩ = some (.int .u8 x2)) (hx3 : w.cell? ⟨B, o + 3, none⟩ = some (.int .u8 x3)) (b0 : 0 ≤ x0 ∧ x0 ≤ 255) (b1 : 0 ≤ x1 ∧ x1 ≤ 255) (b2 : 0 ≤ x2 ∧ x2 ≤ 255) (b3 : 0 ≤ x3 ∧ x3 ≤ 255) :
    Calls Tryf.prog 24 #[.pointer (some ⟨rb, 0, none⟩), .string field] w fun e w' => e = .returned (.int .u32 (((x0 * 256 + x1) * 256 + x2) * 256 + x3)) ∧ RS w' rb B L (o + 4) .nilIface ∧ Upd rb w w' := by
  have hB := World.block_lt_of_cell? _ _ hx0
  go_enter Tryf.func24, Tryf.ntmps24
  go_wp2_with fail
  refine (next_rs_ok rb B L o 4 field w h (by omega)).mono ?_
  rintro e w1 ⟨⟨av, rfl, hav⟩, hr1, hu⟩
  rw [hav (by decide)]
  clear hav
  have hc2 := hr1.c2
  have hy0 := (hu.cell (p := ⟨B, o, none⟩) hB hne).trans hx0; have hy1 := (hu.cell (p := ⟨B, o + 1, none⟩) hB hne).trans hx1; have hy2 := (hu.cell (p := ⟨B, o + 2, none⟩) hB hne).trans hx2; have hy3 := (hu.cell (p := ⟨B, o + 3, none⟩) hB hne).trans hx3
  go_wp2_with fail
  refine (be32 B o _ x0 x1 x2 x3 w1 hy0 hy1 hy2 hy3 b0 b1 b2 b3).mono ?_
  rintro e w2 ⟨rfl, hbel⟩
  go_wp2_with fail
  go_ret
  exact ⟨rfl, hr1.of_below hbel, hu.trans (Upd.of_below hbel)⟩

end Go.Proofs.Qxb6616505aFmt
