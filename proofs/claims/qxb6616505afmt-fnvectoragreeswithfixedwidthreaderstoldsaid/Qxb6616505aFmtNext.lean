/-
  NewReader, Len, Next by their contracts.
-/
import Derived.Test.Qxb6616505aFmtRd
import Derived.Deep.QuietTactic
import Derived.BigQuiet
namespace Go.Proofs.Qxb6616505aFmt
open Go.RowKit Go.Extern.Stop Go.Stop Go.Extern

theorem newReader_any (v : Value) (w : World) (hv : ∃ a n c, v = .slice a n c) :
    Calls Tryf.prog 11 #[v] w fun e w' => e = .returned (.pointer (some ⟨w.heap.size, 0, none⟩)) ∧ w' = w.alloc (.cells #[v, .string ⟨#[]⟩, .nilIface] 44) := by
  obtain ⟨a, n, c, rfl⟩ := hv
  go_enter Tryf.func11, Tryf.ntmps11
  go_wp2
  go_ret
  exact ⟨rfl, rfl⟩

theorem len_any (rb : Nat) (a : Option Addr) (n c : Nat) (last : ByteArray) (err : Value) (w : World) (h : Rd w rb (.slice a n c) last err) :
    Calls Tryf.prog 12 #[.pointer (some ⟨rb, 0, none⟩)] w fun e w' => e = .returned (.int .i64 n) ∧ w' = w := by
  have h0 := h.c0
  go_enter Tryf.func12, Tryf.ntmps12
  go_wp2
  go_ret
  exact ⟨rfl, rfl⟩

theorem next_err (rb : Nat) (v : Value) (last : ByteArray) (a : Addr) (field : ByteArray) (n : Int) (w : World) (h : Rd w rb v last (.iface 55 (.pointer (some a)))) :
    Calls Tryf.prog 19 #[.pointer (some ⟨rb, 0, none⟩), .string field, .int .i64 n] w fun e w' => e = .returned (.slice none 0 0) ∧ w' = w := by
  have h2 := h.c2
  go_enter Tryf.func19, Tryf.ntmps19
  go_wp2
  go_ret
  exact ⟨rfl, rfl⟩

theorem next_cut (F : Interp) (rb : Nat) (av : Option Addr) (len cap : Nat) (last : ByteArray) (field : ByteArray) (n : Int) (w : World) (hF : F.answers w.tape) (hr : Rd w rb (.slice av len cap) last .nilIface) (hn : (len : Int) < n) :
    Calls Tryf.prog 19 #[.pointer (some ⟨rb, 0, none⟩), .string field, .int .i64 n] w fun e w' => e = .returned (.slice none 0 0) ∧ (∃ a, Rd w' rb (.slice av len cap) last (.iface 55 (.pointer (some a)))) ∧ Upd rb w w' := by
  have h0 := hr.c0
  have h2 := hr.c2
  have hf := hr.f 2
  have hlt := hr.lt
  have hlt1 : rb < w.heap.size + 1 := by omega
  have hne : ¬ rb = w.heap.size := by omega
  have hne1 : ¬ rb = w.heap.size + 1 := by omega
  go_enter Tryf.func19, Tryf.ntmps19
  go_wp2_with (go_at_call 26; refine (errorf0 F field w.heap.size _ (by exact hF) (by go_simp)).mono ?_; rintro e w' ⟨rfl, s, rfl⟩)
  go_ret
  exact ⟨rfl, ⟨_, (((hr.set2 _).alloc _).alloc _).drew⟩, ((((Upd.refl rb w).setCell 2 _).alloc _).alloc _).drew⟩

theorem next_ok (rb : Nat) (av : Option Addr) (len cap n : Nat) (last : ByteArray) (field : ByteArray) (w : World) (hr : Rd w rb (.slice av len cap) last .nilIface) (hn : n ≤ len) (hc : len ≤ cap) :
    Calls Tryf.prog 19 #[.pointer (some ⟨rb, 0, none⟩), .string field, .int .i64 n] w fun e w' => e = .returned (.slice av n cap) ∧ Rd w' rb (.slice (if cap = n then av else av.map (·.add n)) (len - n) (cap - n)) field .nilIface ∧ Upd rb w w' := by
  have h0 := hr.c0
  have h1 := hr.c1
  have h2 := hr.c2
  have hf0 := hr.f 0
  have hf1 := hr.f 1
  have hn' : ¬ (len : Int) < (n : Int) := by omega
  have hn3 : (n : Int) ≤ (cap : Int) := by omega
  go_enter Tryf.func19, Tryf.ntmps19
  go_wp2
  all_goals
    go_ret
    exact ⟨rfl, (hr.set0 _).set1 _, ((Upd.refl rb w).setCell 0 _).setCell 1 _⟩

theorem len_rs (rb B L o : Nat) (err : Value) (w : World) (h : RS w rb B L o err) :
    Calls Tryf.prog 12 #[.pointer (some ⟨rb, 0, none⟩)] w fun e w' => e = .returned (.int .i64 (L - o : Nat)) ∧ w' = w := by
  obtain ⟨_, av, last, _, hr⟩ := h
  exact len_any rb av _ _ last err w hr

theorem next_rs_err (rb B L o : Nat) (a : Addr) (field : ByteArray) (n : Int) (w : World) (h : RS w rb B L o (.iface 55 (.pointer (some a)))) :
    Calls Tryf.prog 19 #[.pointer (some ⟨rb, 0, none⟩), .string field, .int .i64 n] w fun e w' => e = .returned (.slice none 0 0) ∧ w' = w := by
  obtain ⟨_, av, last, _, hr⟩ := h
  exact next_err rb _ last a field n w hr

theorem next_rs_cut (F : Interp) (rb B L o : Nat) (field : ByteArray) (n : Int) (w : World) (hF : F.answers w.tape) (h : RS w rb B L o .nilIface) (hn : ((L - o : Nat) : Int) < n) :
    Calls Tryf.prog 19 #[.pointer (some ⟨rb, 0, none⟩), .string field, .int .i64 n] w fun e w' => e = .returned (.slice none 0 0) ∧ (∃ a, RS w' rb B L o (.iface 55 (.pointer (some a)))) ∧ Upd rb w w' := by
  obtain ⟨h1, av, last, h2, hr⟩ := h
  refine (next_cut F rb av _ _ last field n w hF hr hn).mono ?_
  rintro e w' ⟨rfl, ⟨a, hr'⟩, hu⟩
  exact ⟨rfl, ⟨a, h1, av, last, h2, hr'⟩, hu⟩

theorem next_rs_ok (rb B L o n : Nat) (field : ByteArray) (w : World) (h : RS w rb B L o .nilIface) (hn : o + n ≤ L) :
    Calls Tryf.prog 19 #[.pointer (some ⟨rb, 0, none⟩), .string field, .int .i64 n] w fun e w' =>
      (∃ av, e = .returned (.slice av n (L - o)) ∧ (0 < n → av = some ⟨B, o, none⟩)) ∧ RS w' rb B L (o + n) .nilIface ∧ Upd rb w w' := by
  obtain ⟨h1, av, last, h2, hr⟩ := h
  refine (next_ok rb av _ _ n last field w hr (by omega) (Nat.le_refl _)).mono ?_
  rintro e w' ⟨rfl, hr', hu⟩
  exact ⟨⟨av, rfl, fun h => h2 (by omega)⟩, RS.step hn h2 hr', hu⟩

end Go.Proofs.Qxb6616505aFmt
