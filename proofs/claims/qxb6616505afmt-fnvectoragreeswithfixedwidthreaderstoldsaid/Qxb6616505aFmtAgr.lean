/-
  What the last law wants besides: zzSameBytes_ob1; Done at whatever state; a Reader of which only little is known.
-/
import Derived.Test.Qxb6616505aFmtU16
namespace Go.Proofs.Qxb6616505aFmt
open Go.RowKit Go.Extern.Stop Go.Stop Go.Extern

theorem same_true (v1 v2 : Option Addr) (m c1 c2 B1 o1 B2 o2 : Nat) (w : World) (hm : m ≤ 65536) (h1 : 0 < m → v1 = some ⟨B1, o1, none⟩) (h2 : 0 < m → v2 = some ⟨B2, o2, none⟩)
    (hc : ∀ i, i < m → ∃ y, w.cell? ⟨B1, o1 + i, none⟩ = some (.int .u8 y) ∧ w.cell? ⟨B2, o2 + i, none⟩ = some (.int .u8 y)) :
    Calls Tryf.prog 25 #[.slice v1 m c1, .slice v2 m c2] w fun e w' => e = .returned (.bool true) ∧ Below w.heap.size w w' := by
  go_enter Tryf.func25, Tryf.ntmps25
  go_wp2
  go_loopw [5] (fun i wr => ∃ j : Nat, j ≤ m ∧ i = .int .i64 j ∧ Below w.heap.size w wr) (fun i _ => m - (intOf i).toNat)
  case atStart => exact ⟨0, Nat.zero_le _, rfl, Below.refl _ _⟩
  case round =>
    obtain ⟨j, hj, rfl, hbel⟩ := hrel
    by_cases hlt : j < m
    · obtain rfl := h1 (by omega)
      obtain rfl := h2 (by omega)
      obtain ⟨y, c1', c2'⟩ := hc j hlt
      have d1 := cell_later hbel c1'
      have d2 := cell_later hbel c2'
      have j1 : (j : Int) < (m : Int) := by omega
      clear hc c1' c2' h1 h2
      go_wp2_with fail
      go_quiet (fail)
      go_wp2
      go_roundw
      case rel => exact ⟨j + 1, by omega, by go_num, below_drewN hbel _⟩
      case measure => simp [intOf]; omega
    · go_wp2
      go_ret
      exact ⟨rfl, hbel⟩

theorem neq_err (a : Addr) (w : World) : (binOp .neq 30 (.iface 55 (.pointer (some a))) .nilIface).run Tryf.prog w = .ok (.bool true) w := by go_simp
theorem grd_err (x : Operand) (a : Addr) (w : World) : (eqGuard .neq 30 x (.const .nilIface) (.iface 55 (.pointer (some a))) .nilIface).run Tryf.prog w = .ok () w := by go_simp
theorem grd_nil (x : Operand) (w : World) : (eqGuard .neq 30 x (.const .nilIface) .nilIface .nilIface).run Tryf.prog w = .ok () w := by go_simp
theorem neq_nil (w : World) : (binOp .neq 30 .nilIface .nilIface).run Tryf.prog w = .ok (.bool false) w := by go_simp

/-- Done at a Reader without an error: what it hands back is not nil exactly where octets are left. -/
theorem done_b (F : Interp) (rb B L o : Nat) (w : World) (hF : F.answers w.tape) (h : RS w rb B L o .nilIface) :
    Calls Tryf.prog 14 #[.pointer (some ⟨rb, 0, none⟩)] w fun e w' => ∃ dv, e = .returned dv ∧ (∀ wx : World, (binOp .neq 30 dv .nilIface).run Tryf.prog wx = .ok (.bool (decide (o < L))) wx) ∧ (∀ (x : Operand) (wx : World), (eqGuard .neq 30 x (.const .nilIface) dv .nilIface).run Tryf.prog wx = .ok () wx) ∧ (∃ err, RS w' rb B L o err) ∧ Upd rb w w' := by
  rcases Nat.lt_or_ge o L with hl | hl
  · refine (done_rs_left F rb B L o w hF h hl).mono ?_
    rintro e w' ⟨a, rfl, hr, hu⟩
    exact ⟨_, rfl, fun wx => by rw [neq_err, decide_eq_true hl], fun x wx => grd_err x a wx, ⟨_, hr⟩, hu⟩
  · obtain rfl : o = L := by have := h.1; omega
    refine (done_rs_nil rb B o w h).mono ?_
    rintro e w' ⟨rfl, rfl⟩
    exact ⟨_, rfl, fun wx => by rw [neq_nil, decide_eq_false (Nat.lt_irrefl o)], fun x wx => grd_nil x wx, ⟨_, h⟩, Upd.refl _ _⟩

/-- A Reader of which only this is known: it was made with the octets bs, and its error is nil or one of fmt.Errorf's. -/
def RA (w : World) (rb B : Nat) (bs : List Int) : Prop := ∃ o err, RS w rb B bs.length o err ∧ (err = .nilIface ∨ ∃ a, err = .iface 55 (.pointer (some a)))

theorem uint8_ra (F : Interp) (rb B : Nat) (bs : List Int) (field : ByteArray) (w : World) (hF : F.answers w.tape) (h : RA w rb B bs) (hbs : Bs w B bs) (ho : Oct bs) (hne : 0 < bs.length → B ≠ rb) :
    Calls Tryf.prog 13 #[.pointer (some ⟨rb, 0, none⟩), .string field] w fun e w' => ∃ x : Int, e = .returned (.int .u8 x) ∧ (0 ≤ x ∧ x ≤ 255) ∧ RA w' rb B bs ∧ Upd rb w w' := by
  obtain ⟨o, err, hr, rfl | ⟨a, rfl⟩⟩ := h
  · rcases Nat.lt_or_ge o bs.length with hl | hl
    · refine (uint8_rs_ok rb B _ o _ field w hr hl (hne (by omega)) (hbs o hl)).mono ?_
      rintro e w' ⟨rfl, hr', hu⟩
      exact ⟨_, rfl, ho o, ⟨_, _, hr', Or.inl rfl⟩, hu⟩
    · obtain rfl : o = bs.length := by have := hr.1; omega
      refine (uint8_rs_cut F rb B _ field w hF hr).mono ?_
      rintro e w' ⟨rfl, ⟨a, hr'⟩, hu⟩
      exact ⟨_, rfl, by omega, ⟨_, _, hr', Or.inr ⟨a, rfl⟩⟩, hu⟩
  · refine (uint8_rs_err rb B _ o a field w hr).mono ?_
    rintro e w' ⟨rfl, rfl⟩
    exact ⟨_, rfl, by omega, ⟨_, _, hr, Or.inr ⟨a, rfl⟩⟩, Upd.refl _ _⟩

theorem uint16_ra (F : Interp) (rb B : Nat) (bs : List Int) (field : ByteArray) (w : World) (hF : F.answers w.tape) (h : RA w rb B bs) (hbs : Bs w B bs) (ho : Oct bs) (hne : 0 < bs.length → B ≠ rb) :
    Calls Tryf.prog 22 #[.pointer (some ⟨rb, 0, none⟩), .string field] w fun e w' => ∃ x : Int, e = .returned (.int .u16 x) ∧ (0 ≤ x ∧ x ≤ 65535) ∧ RA w' rb B bs ∧ Upd rb w w' := by
  obtain ⟨o, err, hr, rfl | ⟨a, rfl⟩⟩ := h
  · rcases Nat.lt_or_ge bs.length (o + 2) with hl | hl
    · refine (uint16_rs_cut F rb B _ o field w hF hr hl).mono ?_
      rintro e w' ⟨rfl, ⟨a, hr'⟩, hu⟩
      exact ⟨_, rfl, by omega, ⟨_, _, hr', Or.inr ⟨a, rfl⟩⟩, hu⟩
    · have b0 := ho o
      have b1 := ho (o + 1)
      refine (uint16_rs_ok rb B _ o _ _ field w hr hl (hne (by omega)) (hbs o (by omega)) (hbs (o + 1) (by omega)) b0 b1).mono ?_
      rintro e w' ⟨rfl, hr', hu⟩
      exact ⟨_, rfl, by omega, ⟨_, _, hr', Or.inl rfl⟩, hu⟩
  · refine (uint16_rs_err rb B _ o a field w hr).mono ?_
    rintro e w' ⟨rfl, rfl⟩
    exact ⟨_, rfl, by omega, ⟨_, _, hr, Or.inr ⟨a, rfl⟩⟩, Upd.refl _ _⟩

theorem uint32_ra (F : Interp) (rb B : Nat) (bs : List Int) (field : ByteArray) (w : World) (hF : F.answers w.tape) (h : RA w rb B bs) (hbs : Bs w B bs) (ho : Oct bs) (hne : 0 < bs.length → B ≠ rb) :
    Calls Tryf.prog 24 #[.pointer (some ⟨rb, 0, none⟩), .string field] w fun e w' => ∃ x : Int, e = .returned (.int .u32 x) ∧ (0 ≤ x ∧ x ≤ 4294967295) ∧ RA w' rb B bs ∧ Upd rb w w' := by
  obtain ⟨o, err, hr, rfl | ⟨a, rfl⟩⟩ := h
  · rcases Nat.lt_or_ge bs.length (o + 4) with hl | hl
    · refine (uint32_rs_cut F rb B _ o field w hF hr hl).mono ?_
      rintro e w' ⟨rfl, ⟨a, hr'⟩, hu⟩
      exact ⟨_, rfl, by omega, ⟨_, _, hr', Or.inr ⟨a, rfl⟩⟩, hu⟩
    · have b0 := ho o
      have b1 := ho (o + 1)
      have b2 := ho (o + 2)
      have b3 := ho (o + 3)
      refine (uint32_rs_ok rb B _ o _ _ _ _ field w hr hl (hne (by omega)) (hbs o (by omega)) (hbs (o + 1) (by omega)) (hbs (o + 2) (by omega)) (hbs (o + 3) (by omega)) b0 b1 b2 b3).mono ?_
      rintro e w' ⟨rfl, hr', hu⟩
      exact ⟨_, rfl, by omega, ⟨_, _, hr', Or.inl rfl⟩, hu⟩
  · refine (uint32_rs_err rb B _ o a field w hr).mono ?_
    rintro e w' ⟨rfl, rfl⟩
    exact ⟨_, rfl, by omega, ⟨_, _, hr, Or.inr ⟨a, rfl⟩⟩, Upd.refl _ _⟩

end Go.Proofs.Qxb6616505aFmt
