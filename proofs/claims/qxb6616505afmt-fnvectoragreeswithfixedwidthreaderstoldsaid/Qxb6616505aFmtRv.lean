/-
  ReadVector, Reader.Vector by their contracts.
-/
import Derived.Test.Qxb6616505aFmtOwn
import Derived.Test.Qxb6616505aFmtNum
import Derived.WalkSmall
namespace Go.Proofs.Qxb6616505aFmt
open Go.RowKit Go.Extern.Stop Go.Stop Go.Extern

/-- What ReadVector hands back where it fails: a new error whose text lies in memory. -/
def Fails (w w' : World) (v : Value) : Prop := ∃ a s, v = .tuple #[.slice none 0 0, .slice none 0 0, .iface 55 (.pointer (some a))] ∧ w'.cell? a = some (.string s) ∧ Below w.heap.size w w'

/-- What ReadVector hands back where it reads: the window, what follows it, nil. -/
def Reads (w w' : World) (B L n : Nat) (val : Int) (v : Value) : Prop := ∃ (v1 v2 : Option Addr) (m : Nat), (m : Int) = val ∧ v = .tuple #[.slice v1 m (L - n), .slice v2 (L - (n + m)) (L - (n + m)), .nilIface] ∧ (0 < m → v1 = some ⟨B, n, none⟩) ∧ (n + m < L → v2 = some ⟨B, n + m, none⟩) ∧ Below w.heap.size w w'

theorem reads1 {w w' : World} {B j : Nat} {av : Option Addr} {val : Int} (hv : val = 0) (hb : Below w.heap.size w w') : Reads w w' B j j val (.tuple #[.slice av 0 0, .slice av 0 0, .nilIface]) :=
  ⟨av, av, 0, by omega, by simp, fun h => by omega, fun h => by omega, hb⟩
theorem reads2 {w w' : World} {B j m : Nat} {av : Option Addr} {val : Int} (hv : val = m) (hav : 0 < j + m → av = some ⟨B, 0, none⟩) (hb : Below w.heap.size w w') : Reads w w' B (j + m) j val (.tuple #[.slice (av.map (·.add j)) m m, .slice av 0 0, .nilIface]) :=
  ⟨_, _, m, by omega, by rw [Nat.sub_self, Nat.add_sub_cancel_left], fun h => by rw [hav (by omega)]; simp [Addr.add]; omega, fun h => by omega, hb⟩
theorem reads3 {w w' : World} {B L j m : Nat} {av : Option Addr} {val : Int} (hv : val = m) (hm : j + m ≤ L) (hav : 0 < L → av = some ⟨B, 0, none⟩) (hb : Below w.heap.size w w') : Reads w w' B L j val (.tuple #[.slice (av.map (·.add j)) m (L - j), .slice (av.map (·.add (j + m))) (L - (j + m)) (L - (j + m)), .nilIface]) :=
  ⟨_, _, m, by omega, rfl, fun h => by rw [hav (by omega)]; simp [Addr.add]; omega, fun h => by rw [hav (by omega)]; simp [Addr.add]; omega, hb⟩

theorem rv_cut (F : Interp) (av : Option Addr) (L cap : Nat) (n : Int) (w : World) (hF : F.answers w.tape) (hn : (L : Int) < n) :
    Calls Tryf.prog 27 #[.slice av L cap, .int .i64 n] w fun e w' => ∃ v, e = .returned v ∧ Fails w w' v := by
  go_enter Tryf.func27, Tryf.ntmps27
  go_wp2_with (go_at_call 26; refine (errorf2 F n w.heap.size _ (by exact hF) (by go_simp)).mono ?_; rintro e w' ⟨rfl, s, rfl⟩)
  go_ret3
  exact ⟨_, rfl, _, s, rfl, by simp, (((Below.refl _ _).alloc (Nat.le_refl _) _).alloc (by simp) _).drew⟩

set_option maxHeartbeats 400000 in
theorem rv_long (F : Interp) (av : Option Addr) (B n L : Nat) (bs : List Int) (w : World) (hF : F.answers w.tape) (hL : bs.length = L) (hav : 0 < L → av = some ⟨B, 0, none⟩) (hbs : Bs w B bs) (ho : Oct bs) (hl : L ≤ 65536) (hn : n ≤ L) (h8 : n ≤ 8) (hm : (L : Int) - n < be (bs.take n)) :
    Calls Tryf.prog 27 #[.slice av L L, .int .i64 n] w fun e w' => ∃ v, e = .returned v ∧ Fails w w' v := by
  have HL : Hid (bs.length = L) := hL
  clear hL
  have g1 : ¬ (L : Int) < (n : Int) := by omega
  have g2 : (n : Int) ≤ (L : Int) := by omega
  go_enter Tryf.func27, Tryf.ntmps27
  go_wp2
  go_loop [7, 22] (fun l i => ∃ j : Nat, j ≤ n ∧ i = .int .i64 j ∧ l = .int .u64 (be (bs.take j))) (fun _ i => n - (intOf i).toNat)
  case atStart => exact ⟨0, Nat.zero_le _, rfl, rfl⟩
  case round =>
    obtain ⟨j, hj, rfl, rfl⟩ := hrel
    by_cases hlt : j < n
    · obtain rfl := hav (by omega)
      have hc := hbs j (by have := HL.out; omega)
      have hy := ho j
      have hb := be_bound7 bs ho j (by have := HL.out; omega) (by omega)
      have HS : Hid (be (bs.take (j + 1)) = be (bs.take j) * 256 + bs.getD j 0) := be_take bs j (by have := HL.out; omega)
      generalize bs.getD j 0 = y at hc hy HS
      generalize be (bs.take j) = acc at hb HS ⊢
      obtain ⟨hb1, hb2⟩ := hb
      obtain ⟨hy1, hy2⟩ := hy
      have j1 : (j : Int) < (n : Int) := by omega
      go_wp2
      go_round
      case rel => exact ⟨j + 1, by omega, by go_num, by rw [HS.out, or8_u64 acc y hb1 hb2 hy1 hy2]⟩
      case measure => simp [intOf]; omega
    · obtain rfl : j = n := by omega
      have hb := be_bound8 bs ho j (by have := HL.out; omega) h8
      generalize be (bs.take j) = m at hb hm ⊢
      obtain ⟨hb1, hb2⟩ := hb
      go_wp2_with (go_at_call 26; refine (errorf3 F m ((L : Int) - j) w.heap.size _ (by exact hF) (by go_simp) (by go_simp)).mono ?_; rintro e w' ⟨rfl, s, rfl⟩)
      go_ret3
      exact ⟨_, rfl, _, s, rfl, by simp, (((Below.refl _ _).alloc (Nat.le_refl _) _).alloc (by simp) _).drew⟩

set_option maxHeartbeats 400000 in
theorem rv_ok (av : Option Addr) (B n L : Nat) (bs : List Int) (w : World) (hL : bs.length = L) (hav : 0 < L → av = some ⟨B, 0, none⟩) (hbs : Bs w B bs) (ho : Oct bs) (hl : L ≤ 65536) (hn : n ≤ L) (h8 : n ≤ 8) (hm : be (bs.take n) ≤ (L : Int) - n) :
    Calls Tryf.prog 27 #[.slice av L L, .int .i64 n] w fun e w' => ∃ v, e = .returned v ∧ Reads w w' B L n (be (bs.take n)) v := by
  have HL : Hid (bs.length = L) := hL
  clear hL
  have g1 : ¬ (L : Int) < (n : Int) := by omega
  have g2 : (n : Int) ≤ (L : Int) := by omega
  go_enter Tryf.func27, Tryf.ntmps27
  go_wp2
  go_loop [7, 22] (fun l i => ∃ j : Nat, j ≤ n ∧ i = .int .i64 j ∧ l = .int .u64 (be (bs.take j))) (fun _ i => n - (intOf i).toNat)
  case atStart => exact ⟨0, Nat.zero_le _, rfl, rfl⟩
  case round =>
    obtain ⟨j, hj, rfl, rfl⟩ := hrel
    by_cases hlt : j < n
    · obtain rfl := hav (by omega)
      have hc := hbs j (by have := HL.out; omega)
      have hy := ho j
      have hb := be_bound7 bs ho j (by have := HL.out; omega) (by omega)
      have HS : Hid (be (bs.take (j + 1)) = be (bs.take j) * 256 + bs.getD j 0) := be_take bs j (by have := HL.out; omega)
      generalize bs.getD j 0 = y at hc hy HS
      generalize be (bs.take j) = acc at hb HS ⊢
      obtain ⟨hb1, hb2⟩ := hb
      obtain ⟨hy1, hy2⟩ := hy
      have j1 : (j : Int) < (n : Int) := by omega
      go_wp2
      go_round
      case rel => exact ⟨j + 1, by omega, by go_num, by rw [HS.out, or8_u64 acc y hb1 hb2 hy1 hy2]⟩
      case measure => simp [intOf]; omega
    · obtain rfl : j = n := by omega
      have hb := be_bound8 bs ho j (by have := HL.out; omega) h8
      obtain ⟨m, hme⟩ := Int.eq_ofNat_of_zero_le hb.1
      rw [hme] at hb hm ⊢
      have HM : Hid (be (bs.take j) = (m : Int)) := hme
      clear hme
      have m1 : ¬ (m : Int) > (L : Int) - (j : Int) := by omega
      have m2 : (j : Int) + (m : Int) ≤ (L : Int) := by omega
      go_wp2
      go_quiet (fail)
      go_wp2
      all_goals go_ret3
      all_goals first
        | exact ⟨_, rfl, reads1 (by have := HM.out; omega) (below_drewN (Below.refl _ _) _)⟩
        | exact ⟨_, rfl, reads2 HM.out (fun _ => hav (by omega)) (below_drewN (Below.refl _ _) _)⟩
        | exact ⟨_, rfl, reads3 HM.out (by omega) hav (below_drewN (Below.refl _ _) _)⟩

end Go.Proofs.Qxb6616505aFmt
