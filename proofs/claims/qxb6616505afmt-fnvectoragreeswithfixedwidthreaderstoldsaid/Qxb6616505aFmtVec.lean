/-
  Reader.Vector by its contract, at a Reader that has read nothing yet.
-/
import Derived.Test.Qxb6616505aFmtRv
namespace Go.Proofs.Qxb6616505aFmt
open Go.RowKit Go.Extern.Stop Go.Stop Go.Extern

theorem Rd.below {w w' : World} {rb : Nat} {v : Value} {last : ByteArray} {err : Value} (h : Rd w rb v last err) (hb : Below w.heap.size w w') : Rd w' rb v last err := (hb.block rb h.lt).trans h

theorem vec_fail (F : Interp) (rb B L : Nat) (n : Int) (field : ByteArray) (w : World) (hF : F.answers w.tape) (h : RS w rb B L 0 .nilIface)
    (hrv : ∀ av : Option Addr, (0 < L → av = some ⟨B, 0, none⟩) → Calls Tryf.prog 27 #[.slice av L L, .int .i64 n] w fun e w' => ∃ v, e = .returned v ∧ Fails w w' v) :
    Calls Tryf.prog 16 #[.pointer (some ⟨rb, 0, none⟩), .string field, .int .i64 n] w fun e w' => e = .returned (.slice none 0 0) ∧ (∃ a, RS w' rb B L 0 (.iface 55 (.pointer (some a)))) ∧ Upd rb w w' := by
  obtain ⟨h1, av, last, h2, hr⟩ := h
  rw [Nat.sub_zero] at hr
  have HR : Hid (Calls Tryf.prog 27 #[.slice av L L, .int .i64 n] w fun e w' => ∃ v, e = .returned v ∧ Fails w w' v) := hrv av h2
  clear hrv
  have c0 := hr.c0
  have c2 := hr.c2
  have hlt := hr.lt
  go_enter Tryf.func16, Tryf.ntmps16
  go_wp2_with fail
  refine HR.out.mono ?_
  rintro e w1 ⟨v, rfl, a, s, rfl, hcs, hbel⟩
  have hr1 := hr.below hbel
  have c0' := hr1.c0
  have c2' := hr1.c2
  have f2' := hr1.f 2
  have hlt1 : rb < w1.heap.size := hr1.lt
  have hlt2 : rb < w1.heap.size + 1 := by omega
  have hne : ¬ rb = w1.heap.size := by omega
  have hne1 : ¬ rb = w1.heap.size + 1 := by omega
  have hF1 := answers_below hF hbel
  have ha := World.block_lt_of_cell? _ _ hcs
  go_wp2_with (go_at_call 26; refine (errorf4 F field a w1.heap.size _ (by exact hF1) s ((World.cell?_of_block (w := w1) (Below.heap_alloc w1 _ a.block ha)).trans hcs) (by go_simp) (by go_simp)).mono ?_; rintro e w' ⟨rfl, s2, rfl⟩)
  go_ret
  exact ⟨rfl, ⟨_, h1, av, last, h2, (((hr1.set2 _).alloc _).alloc _).drew⟩, (Upd.of_below hbel).trans ((((Upd.refl rb w1).setCell 2 _).alloc _).alloc _).drew⟩

theorem vec_ok (rb B L n : Nat) (bs : List Int) (field : ByteArray) (w : World) (h : RS w rb B L 0 .nilIface) (hL : bs.length = L) (hbs : Bs w B bs) (ho : Oct bs) (hl : L ≤ 65536) (hn : n ≤ L) (h8 : n ≤ 8) (hm : be (bs.take n) ≤ (L : Int) - n) :
    Calls Tryf.prog 16 #[.pointer (some ⟨rb, 0, none⟩), .string field, .int .i64 n] w fun e w' =>
      ∃ (v1 : Option Addr) (m : Nat), (m : Int) = be (bs.take n) ∧ e = .returned (.slice v1 m (L - n)) ∧ (0 < m → v1 = some ⟨B, n, none⟩) ∧ RS w' rb B L (n + m) .nilIface ∧ Upd rb w w' := by
  obtain ⟨h1, av, last, h2, hr⟩ := h
  rw [Nat.sub_zero] at hr
  have HR : Hid (Calls Tryf.prog 27 #[.slice av L L, .int .i64 n] w fun e w' => ∃ v, e = .returned v ∧ Reads w w' B L n (be (bs.take n)) v) := rv_ok av B n L bs w hL h2 hbs ho hl hn h8 hm
  have c0 := hr.c0
  have c2 := hr.c2
  have HQ : Hid (be (bs.take n) ≤ (L : Int) - n) := hm
  clear hL hbs ho hm
  go_enter Tryf.func16, Tryf.ntmps16
  go_wp2_with fail
  refine HR.out.mono ?_
  rintro e w1 ⟨v, rfl, v1, v2, m, hme, rfl, hv1, hv2, hbel⟩
  have HM : Hid ((m : Int) = be (bs.take n)) := hme
  clear hme
  have hr1 := hr.below hbel
  have c0' := hr1.c0
  have c1' := hr1.c1
  have c2' := hr1.c2
  have f0' := hr1.f 0
  have f1' := hr1.f 1
  go_wp2
  go_ret
  exact ⟨v1, m, HM.out, rfl, hv1, ⟨by have := HM.out; have := HQ.out; omega, v2, field, hv2, (hr1.set0 _).set1 _⟩, (Upd.of_below hbel).trans (((Upd.refl rb w1).setCell 0 _).setCell 1 _)⟩

end Go.Proofs.Qxb6616505aFmt
