/-
  What a Reader is in memory, and what a call that works on one Reader leaves of the rest. No Go text is walked here.
-/
import Derived.Test.Qxb6616505aFmtErr
namespace Go.Proofs.Qxb6616505aFmt
open Go.RowKit Go.Extern.Stop Go.Stop Go.Extern

/-- The Reader in block rb: its slice, the name of the field read last, its error. -/
def Rd (w : World) (rb : Nat) (v : Value) (last : ByteArray) (err : Value) : Prop := w.heap[rb]? = some (.cells #[v, .string last, err] 44 (0, 0))

/-- From w to w' no block that was there has turned but block rb; the streams are as they were. -/
structure Upd (rb : Nat) (w w' : World) : Prop where
  os : w'.os = w.os
  tape : w'.tape = w.tape
  output : w'.output = w.output
  size : w.heap.size ≤ w'.heap.size
  block : ∀ k, k < w.heap.size → k ≠ rb → w'.heap[k]? = w.heap[k]?

theorem Upd.refl (rb : Nat) (w : World) : Upd rb w w := ⟨rfl, rfl, rfl, Nat.le_refl _, fun _ _ _ => rfl⟩
theorem Upd.trans {rb : Nat} {a b c : World} (h : Upd rb a b) (k : Upd rb b c) : Upd rb a c :=
  ⟨k.os.trans h.os, k.tape.trans h.tape, k.output.trans h.output, Nat.le_trans h.size k.size, fun i hi hn => (k.block i (Nat.lt_of_lt_of_le hi h.size) hn).trans (h.block i hi hn)⟩
theorem Upd.drew {rb : Nat} {a w : World} (h : Upd rb a w) : Upd rb a w.drew := ⟨h.os, h.tape, h.output, h.size, h.block⟩
theorem Upd.alloc {rb : Nat} {a w : World} (h : Upd rb a w) (o : Obj) : Upd rb a (w.alloc o) :=
  h.trans ⟨rfl, rfl, rfl, by simp, fun k hk _ => Below.heap_alloc _ _ _ hk⟩
theorem Upd.setCell {rb : Nat} {a w : World} (h : Upd rb a w) (i : Nat) (u : Value) : Upd rb a (w.setCell ⟨rb, i, none⟩ u) :=
  h.trans ⟨rfl, rfl, rfl, by simp [World.setCell], fun k _ hn => Below.heap_setCell _ _ _ _ hn⟩
theorem Upd.of_below {rb : Nat} {w w' : World} (h : Below w.heap.size w w') : Upd rb w w' := ⟨h.os, h.tape, h.output, h.size, fun k hk _ => h.block k hk⟩
theorem Upd.below {rb B : Nat} {w w' : World} (h : Upd rb w w') (hB : B ≤ rb) (hs : B ≤ w.heap.size) : Below B w w' :=
  ⟨h.os, h.tape, h.output, h.size, fun k hk => h.block k (by omega) (by omega)⟩
theorem Upd.cell {rb : Nat} {w w' : World} (h : Upd rb w w') {p : Addr} (hp : p.block < w.heap.size) (hn : p.block ≠ rb) : w'.cell? p = w.cell? p := World.cell?_of_block (w := w) (h.block p.block hp hn)
theorem Upd.rd {rb : Nat} {w w' : World} (h : Upd rb w w') {r2 : Nat} {v : Value} {last : ByteArray} {err : Value} (hr : Rd w r2 v last err) (hn : r2 ≠ rb) : Rd w' r2 v last err :=
  (h.block r2 (lt_of_block hr) hn).trans hr

theorem Rd.lt {w : World} {rb : Nat} {v : Value} {last : ByteArray} {err : Value} (h : Rd w rb v last err) : rb < w.heap.size := lt_of_block h
theorem Rd.c0 {w : World} {rb : Nat} {v : Value} {last : ByteArray} {err : Value} (h : Rd w rb v last err) : w.cell? ⟨rb, 0, none⟩ = some v := by simp [World.cell?, show w.heap[rb]? = _ from h]
theorem Rd.c1 {w : World} {rb : Nat} {v : Value} {last : ByteArray} {err : Value} (h : Rd w rb v last err) : w.cell? ⟨rb, 1, none⟩ = some (.string last) := by simp [World.cell?, show w.heap[rb]? = _ from h]
theorem Rd.c2 {w : World} {rb : Nat} {v : Value} {last : ByteArray} {err : Value} (h : Rd w rb v last err) : w.cell? ⟨rb, 2, none⟩ = some err := by simp [World.cell?, show w.heap[rb]? = _ from h]
theorem Rd.f {w : World} {rb : Nat} {v : Value} {last : ByteArray} {err : Value} (h : Rd w rb v last err) (i : Nat) : w.frozen? ⟨rb, i, none⟩ = false := by simp [World.frozen?, show w.heap[rb]? = _ from h]

theorem block_setCell {w : World} {b i : Nat} {c : Array Value} {t : TypeId} {fz : Nat × Nat} (h : w.heap[b]? = some (.cells c t fz)) (u : Value) :
    (w.setCell ⟨b, i, none⟩ u).heap[b]? = some (.cells (c.setIfInBounds i u) t fz) := by
  have hlt := lt_of_block h
  have h' : w.heap[b] = .cells c t fz := by simpa [Array.getElem?_eq_getElem hlt] using h
  show (w.heap.modify b _)[b]? = _
  rw [Array.getElem?_eq_getElem (by simpa using hlt), Array.getElem_modify_self, h']
  rfl

theorem Rd.set0 {w : World} {rb : Nat} {v : Value} {last : ByteArray} {err : Value} (h : Rd w rb v last err) (u : Value) : Rd (w.setCell ⟨rb, 0, none⟩ u) rb u last err := by
  have := block_setCell (i := 0) h u; simpa [Rd] using this
theorem Rd.set1 {w : World} {rb : Nat} {v : Value} {last : ByteArray} {err : Value} (h : Rd w rb v last err) (u : ByteArray) : Rd (w.setCell ⟨rb, 1, none⟩ (.string u)) rb v u err := by
  have := block_setCell (i := 1) h (.string u); simpa [Rd] using this
theorem Rd.set2 {w : World} {rb : Nat} {v : Value} {last : ByteArray} {err : Value} (h : Rd w rb v last err) (u : Value) : Rd (w.setCell ⟨rb, 2, none⟩ u) rb v last u := by
  have := block_setCell (i := 2) h u; simpa [Rd] using this
theorem Rd.alloc {w : World} {rb : Nat} {v : Value} {last : ByteArray} {err : Value} (h : Rd w rb v last err) (o : Obj) : Rd (w.alloc o) rb v last err :=
  (Below.heap_alloc w o rb h.lt).trans h
theorem Rd.drew {w : World} {rb : Nat} {v : Value} {last : ByteArray} {err : Value} (h : Rd w rb v last err) : Rd w.drew rb v last err := h

/-- THE READER's STATE: it was made with L octets that lie in block B; o of them have been read; its error. -/
def RS (w : World) (rb B L o : Nat) (err : Value) : Prop := o ≤ L ∧ ∃ av last, (o < L → av = some ⟨B, o, none⟩) ∧ Rd w rb (.slice av (L - o) (L - o)) last err

theorem RS.lt {w : World} {rb B L o : Nat} {err : Value} (h : RS w rb B L o err) : rb < w.heap.size := by
  obtain ⟨_, _, _, _, h⟩ := h; exact h.lt
theorem Upd.rs {rb : Nat} {w w' : World} (h : Upd rb w w') {r2 B L o : Nat} {err : Value} (hr : RS w r2 B L o err) (hn : r2 ≠ rb) : RS w' r2 B L o err := by
  obtain ⟨h1, av, last, h2, h3⟩ := hr; exact ⟨h1, av, last, h2, h.rd h3 hn⟩
theorem RS.of_below {w w' : World} {rb B L o : Nat} {err : Value} (hr : RS w rb B L o err) (h : Below w.heap.size w w') : RS w' rb B L o err := by
  obtain ⟨h1, av, last, h2, h3⟩ := hr; exact ⟨h1, av, last, h2, (h.block rb h3.lt).trans h3⟩
theorem RS.step {w' : World} {rb B L o n : Nat} {av : Option Addr} {last : ByteArray} {err : Value} (h1 : o + n ≤ L) (h2 : o < L → av = some ⟨B, o, none⟩)
    (h : Rd w' rb (.slice (if L - o = n then av else av.map (·.add n)) (L - o - n) (L - o - n)) last err) : RS w' rb B L (o + n) err := by
  refine ⟨h1, _, last, ?_, (by rw [Nat.sub_add_eq]; exact h)⟩
  intro hlt
  rw [if_neg (by omega), h2 (by omega)]
  simp [Addr.add]

end Go.Proofs.Qxb6616505aFmt
