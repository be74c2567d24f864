/-
  Done, Uint8 by their contracts.
-/
import Derived.Test.Qxb6616505aFmtNext
import Derived.Deep.RegionHeld3
namespace Go.Proofs.Qxb6616505aFmt
open Go.RowKit Go.Extern.Stop Go.Stop Go.Extern

theorem done_err (rb : Nat) (v : Value) (last : ByteArray) (a : Addr) (w : World) (h : Rd w rb v last (.iface 55 (.pointer (some a)))) :
    Calls Tryf.prog 14 #[.pointer (some ⟨rb, 0, none⟩)] w fun e w' => e = .returned (.iface 55 (.pointer (some a))) ∧ w' = w := by
  have h2 := h.c2
  go_enter Tryf.func14, Tryf.ntmps14
  go_wp2
  go_ret
  exact ⟨rfl, rfl⟩

theorem done_nil (rb : Nat) (av : Option Addr) (cap : Nat) (last : ByteArray) (w : World) (h : Rd w rb (.slice av 0 cap) last .nilIface) :
    Calls Tryf.prog 14 #[.pointer (some ⟨rb, 0, none⟩)] w fun e w' => e = .returned .nilIface ∧ w' = w := by
  have h2 := h.c2
  have h0 := h.c0
  go_enter Tryf.func14, Tryf.ntmps14
  go_wp2
  go_ret
  exact ⟨rfl, rfl⟩

set_option maxHeartbeats 400000 in
theorem done_left (F : Interp) (rb : Nat) (av : Option Addr) (len cap : Nat) (last : ByteArray) (w : World) (hF : F.answers w.tape) (hr : Rd w rb (.slice av len cap) last .nilIface) (hl : 0 < len) :
    Calls Tryf.prog 14 #[.pointer (some ⟨rb, 0, none⟩)] w fun e w' => ∃ a, e = .returned (.iface 55 (.pointer (some a))) ∧ Rd w' rb (.slice av len cap) last (.iface 55 (.pointer (some a))) ∧ Upd rb w w' := by
  have h0 := hr.c0
  have h1 := hr.c1
  have h2 := hr.c2
  have hf := hr.f 2
  have hlt := hr.lt
  have hlt1 : rb < w.heap.size + 1 := by omega
  have hne : ¬ rb = w.heap.size := by omega
  have hne1 : ¬ rb = w.heap.size + 1 := by omega
  have hl1 : ((len : Int) != 0) = true := by simp; omega
  have hl2 : ¬ (len : Int) = 0 := by omega
  go_enter Tryf.func14, Tryf.ntmps14
  go_wp2
  go_region_held3 (fun w' => w'.cell? ⟨rb, 0, none⟩ = some (.slice av len cap) ∧ w'.cell? ⟨rb, 1, none⟩ = some (.string last)) (first | (go_keep; done) | (refine ⟨?_, ?_⟩; exact (((((hr.set2 _).alloc _).alloc _).drew).drew).c0; exact (((((hr.set2 _).alloc _).alloc _).drew).drew).c1))
    ((go_at_call 26; refine (errorf1 F last len w.heap.size _ (by exact hF) (by go_simp) (by go_simp)).mono ?_; rintro e w' ⟨rfl, s, rfl⟩))
  all_goals go_wp2
  all_goals go_ret
  all_goals exact ⟨_, rfl, ((((hr.set2 _).alloc _).alloc _).drew).drew, ((((((Upd.refl rb w).setCell 2 _).alloc _).alloc _).drew).drew)⟩

theorem done_rs_err (rb B L o : Nat) (a : Addr) (w : World) (h : RS w rb B L o (.iface 55 (.pointer (some a)))) :
    Calls Tryf.prog 14 #[.pointer (some ⟨rb, 0, none⟩)] w fun e w' => e = .returned (.iface 55 (.pointer (some a))) ∧ w' = w := by
  obtain ⟨_, av, last, _, hr⟩ := h
  exact done_err rb _ last a w hr

theorem done_rs_nil (rb B L : Nat) (w : World) (h : RS w rb B L L .nilIface) :
    Calls Tryf.prog 14 #[.pointer (some ⟨rb, 0, none⟩)] w fun e w' => e = .returned .nilIface ∧ w' = w := by
  obtain ⟨_, av, last, _, hr⟩ := h
  rw [Nat.sub_self] at hr
  exact done_nil rb av _ last w hr

theorem done_rs_left (F : Interp) (rb B L o : Nat) (w : World) (hF : F.answers w.tape) (h : RS w rb B L o .nilIface) (hl : o < L) :
    Calls Tryf.prog 14 #[.pointer (some ⟨rb, 0, none⟩)] w fun e w' => ∃ a, e = .returned (.iface 55 (.pointer (some a))) ∧ RS w' rb B L o (.iface 55 (.pointer (some a))) ∧ Upd rb w w' := by
  obtain ⟨h1, av, last, h2, hr⟩ := h
  refine (done_left F rb av _ _ last w hF hr (by omega)).mono ?_
  rintro e w' ⟨a, rfl, hr', hu⟩
  exact ⟨a, rfl, ⟨h1, av, last, h2, hr'⟩, hu⟩

theorem uint8_rs_err (rb B L o : Nat) (a : Addr) (field : ByteArray) (w : World) (h : RS w rb B L o (.iface 55 (.pointer (some a)))) :
    Calls Tryf.prog 13 #[.pointer (some ⟨rb, 0, none⟩), .string field] w fun e w' => e = .returned (.int .u8 0) ∧ w' = w := by
  have h2 : w.cell? ⟨rb, 2, none⟩ = some (.iface 55 (.pointer (some a))) := by obtain ⟨_, _, _, _, hr⟩ := h; exact hr.c2
  go_enter Tryf.func13, Tryf.ntmps13
  go_wp2_with (go_at_call 19; refine (next_rs_err rb B L o a field 1 _ h).mono ?_; rintro e w' ⟨rfl, rfl⟩)
  go_ret
  exact ⟨rfl, rfl⟩

theorem RS.c2 {w : World} {rb B L o : Nat} {err : Value} (h : RS w rb B L o err) : w.cell? ⟨rb, 2, none⟩ = some err := by
  obtain ⟨_, _, _, _, hr⟩ := h; exact hr.c2

theorem uint8_rs_cut (F : Interp) (rb B L : Nat) (field : ByteArray) (w : World) (hF : F.answers w.tape) (h : RS w rb B L L .nilIface) :
    Calls Tryf.prog 13 #[.pointer (some ⟨rb, 0, none⟩), .string field] w fun e w' => e = .returned (.int .u8 0) ∧ (∃ a, RS w' rb B L L (.iface 55 (.pointer (some a)))) ∧ Upd rb w w' := by
  go_enter Tryf.func13, Tryf.ntmps13
  go_wp2_with (go_at_call 19; refine (next_rs_cut F rb B L L field 1 w hF h (by omega)).mono ?_; rintro e w1 ⟨rfl, ⟨a, hr1⟩, hu⟩; have hc2 := hr1.c2)
  go_ret
  exact ⟨rfl, ⟨_, by assumption⟩, by assumption⟩

theorem uint8_rs_ok (rb B L o : Nat) (x : Int) (field : ByteArray) (w : World) (h : RS w rb B L o .nilIface) (hl : o < L) (hne : B ≠ rb) (hx : w.cell? ⟨B, o, none⟩ = some (.int .u8 x)) :
    Calls Tryf.prog 13 #[.pointer (some ⟨rb, 0, none⟩), .string field] w fun e w' => e = .returned (.int .u8 x) ∧ RS w' rb B L (o + 1) .nilIface ∧ Upd rb w w' := by
  have hB := World.block_lt_of_cell? _ _ hx
  go_enter Tryf.func13, Tryf.ntmps13
  go_wp2_with (go_at_call 19; refine (next_rs_ok rb B L o 1 field w h (by omega)).mono ?_; rintro e w1 ⟨⟨av, rfl, hav⟩, hr1, hu⟩; rw [hav Nat.one_pos]; clear hav; have hc2 := hr1.c2; have hx1 := (hu.cell (p := ⟨B, o, none⟩) hB hne).trans hx)
  go_ret
  exact ⟨rfl, by assumption, by assumption⟩

end Go.Proofs.Qxb6616505aFmt
