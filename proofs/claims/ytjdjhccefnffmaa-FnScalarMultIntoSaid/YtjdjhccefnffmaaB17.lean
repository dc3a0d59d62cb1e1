import Derived.Test.YtjdjhccefnffmaaB15
import Derived.StillTactics
import Derived.BigRegion
import Derived.Test.YtjdjhccefnffmaaB16
import Derived.LoopTactic
import Derived.Deep.RegionWith
set_option linter.unusedVariables false
set_option linter.unusedSimpArgs false
set_option maxRecDepth 100000
set_option maxHeartbeats 4000000
namespace Go.Proofs.Ytjdjhccefnffmaa
open Go LX Go.RowKit
theorem bits_or_u64 (a b : Nat) (ha : a < 18446744073709551616) (hb : b < 18446744073709551616) : bits .or .u64 (a : Int) (b : Int) = ((a ||| b : Nat) : Int) := by
  have hx : a ||| b < 2 ^ 64 := Nat.or_lt_two_pow (by omega) (by omega)
  have h1 : (BitVec.ofInt 64 (a : Int)).toNat = a := by
    rw [BitVec.ofInt_natCast, BitVec.toNat_ofNat]; exact Nat.mod_eq_of_lt (by omega)
  have h2 : (BitVec.ofInt 64 (b : Int)).toNat = b := by
    rw [BitVec.ofInt_natCast, BitVec.toNat_ofNat]; exact Nat.mod_eq_of_lt (by omega)
  show IntKind.u64.wrap ((BitVec.ofInt 64 (a : Int) ||| BitVec.ofInt 64 (b : Int)).toNat : Int) = _
  rw [BitVec.toNat_or, h1, h2, IntKind.wrap_u64]
  omega
theorem wN (a : Nat) (ha : a < 18446744073709551616) : IntKind.u64.wrap (a : Int) = (a : Int) := by rw [IntKind.wrap_u64]; omega
theorem or_shl (a b k m : Nat) (hm : m = 2 ^ k) (ha : a < m) (h : m * b + a < 18446744073709551616) :
    bits .or .u64 (a : Int) (IntKind.u64.wrap (IntKind.u64.wrap (b : Int) * (m : Int))) = ((m * b + a : Nat) : Int) := by
  have hb : b ≤ m * b := Nat.le_mul_of_pos_left b (by rw [hm]; exact Nat.pow_pos (by omega))
  rw [wN b (by omega), ← Int.natCast_mul, wN _ (by rw [Nat.mul_comm]; omega), bits_or_u64 a _ (by omega) (by rw [Nat.mul_comm]; omega)]
  congr 1
  rw [Nat.or_comm]
  subst hm
  have := Nat.shiftLeft_add_eq_or_of_lt ha b
  rw [Nat.shiftLeft_eq] at this
  rw [← this, Nat.mul_comm]
theorem or8 (a0 a1 a2 a3 a4 a5 a6 a7 : Nat) (h0 : a0 < 256) (h1 : a1 < 256) (h2 : a2 < 256) (h3 : a3 < 256) (h4 : a4 < 256) (h5 : a5 < 256) (h6 : a6 < 256) (h7 : a7 < 256) :
    bits .or .u64 (bits .or .u64 (bits .or .u64 (bits .or .u64 (bits .or .u64 (bits .or .u64 (bits .or .u64 (IntKind.u64.wrap (a7 : Int)) (IntKind.u64.wrap (IntKind.u64.wrap (a6 : Int) * 256))) (IntKind.u64.wrap (IntKind.u64.wrap (a5 : Int) * 65536)))
      (IntKind.u64.wrap (IntKind.u64.wrap (a4 : Int) * 16777216))) (IntKind.u64.wrap (IntKind.u64.wrap (a3 : Int) * 4294967296))) (IntKind.u64.wrap (IntKind.u64.wrap (a2 : Int) * 1099511627776)))
      (IntKind.u64.wrap (IntKind.u64.wrap (a1 : Int) * 281474976710656))) (IntKind.u64.wrap (IntKind.u64.wrap (a0 : Int) * 72057594037927936)) =
      ((256 * (256 * (256 * (256 * (256 * (256 * (256 * (256 * 0 + a0) + a1) + a2) + a3) + a4) + a5) + a6) + a7 : Nat) : Int) := by
  rw [wN a7 (by omega)]
  have e1 := or_shl a7 a6 8 256 rfl h7 (by omega)
  have e2 := or_shl (256 * a6 + a7) a5 16 65536 rfl (by omega) (by omega)
  have e3 := or_shl (65536 * a5 + (256 * a6 + a7)) a4 24 16777216 rfl (by omega) (by omega)
  have e4 := or_shl (16777216 * a4 + (65536 * a5 + (256 * a6 + a7))) a3 32 4294967296 rfl (by omega) (by omega)
  have e5 := or_shl (4294967296 * a3 + (16777216 * a4 + (65536 * a5 + (256 * a6 + a7)))) a2 40 1099511627776 rfl (by omega) (by omega)
  have e6 := or_shl (1099511627776 * a2 + (4294967296 * a3 + (16777216 * a4 + (65536 * a5 + (256 * a6 + a7))))) a1 48 281474976710656 rfl (by omega) (by omega)
  have e7 := or_shl (281474976710656 * a1 + (1099511627776 * a2 + (4294967296 * a3 + (16777216 * a4 + (65536 * a5 + (256 * a6 + a7)))))) a0 56 72057594037927936 rfl (by omega) (by omega)
  refine Eq.trans (congrArg (bits .or .u64 · _) (congrArg (bits .or .u64 · _) (congrArg (bits .or .u64 · _) (congrArg (bits .or .u64 · _) (congrArg (bits .or .u64 · _) (congrArg (bits .or .u64 · _) e1)))))) ?_
  refine Eq.trans (congrArg (bits .or .u64 · _) (congrArg (bits .or .u64 · _) (congrArg (bits .or .u64 · _) (congrArg (bits .or .u64 · _) (congrArg (bits .or .u64 · _) e2))))) ?_
  refine Eq.trans (congrArg (bits .or .u64 · _) (congrArg (bits .or .u64 · _) (congrArg (bits .or .u64 · _) (congrArg (bits .or .u64 · _) e3)))) ?_
  refine Eq.trans (congrArg (bits .or .u64 · _) (congrArg (bits .or .u64 · _) (congrArg (bits .or .u64 · _) e4))) ?_
  refine Eq.trans (congrArg (bits .or .u64 · _) (congrArg (bits .or .u64 · _) e5)) ?_
  refine Eq.trans (congrArg (bits .or .u64 · _) e6) ?_
  refine e7.trans ?_
  congr 1
  omega
theorem c82 {w : World} {b o n c : Nat} {f : Nat → Nat} (hb : By w b o 8 f) (hn : 8 ≤ n) :
    Calls Try.prog 82 #[.slice (some ⟨b, o, none⟩) n c] w fun e w' => e = .returned (.int .u64 (hi8 f 8 : Nat)) ∧ Kp non w w' := by
  have h0 : w.cell? ⟨b, o, none⟩ = some (.int .u8 (f 0 : Nat)) := (hb 0 (by omega)).1.1
  have h1 : w.cell? ⟨b, o + 1, none⟩ = some (.int .u8 (f 1 : Nat)) := (hb 1 (by omega)).1.1
  have h2 : w.cell? ⟨b, o + 2, none⟩ = some (.int .u8 (f 2 : Nat)) := (hb 2 (by omega)).1.1
  have h3 : w.cell? ⟨b, o + 3, none⟩ = some (.int .u8 (f 3 : Nat)) := (hb 3 (by omega)).1.1
  have h4 : w.cell? ⟨b, o + 4, none⟩ = some (.int .u8 (f 4 : Nat)) := (hb 4 (by omega)).1.1
  have h5 : w.cell? ⟨b, o + 5, none⟩ = some (.int .u8 (f 5 : Nat)) := (hb 5 (by omega)).1.1
  have h6 : w.cell? ⟨b, o + 6, none⟩ = some (.int .u8 (f 6 : Nat)) := (hb 6 (by omega)).1.1
  have h7 : w.cell? ⟨b, o + 7, none⟩ = some (.int .u8 (f 7 : Nat)) := (hb 7 (by omega)).1.1
  have g1 : (1 : Int) < n := by omega
  have g2 : (2 : Int) < n := by omega
  have g3 : (3 : Int) < n := by omega
  have g4 : (4 : Int) < n := by omega
  have g5 : (5 : Int) < n := by omega
  have g6 : (6 : Int) < n := by omega
  have g7 : (7 : Int) < n := by omega
  have g0 : 0 < n := by omega
  have k := (Kp.refl non w).drew
  go_enter Try.func82, Try.ntmps82
  go_wp2_with fail
  go_still (by kernel_rfl)
  go_wp2_with fail
  have f0 := (hb 0 (by omega)).2
  have f1 := (hb 1 (by omega)).2
  have f2 := (hb 2 (by omega)).2
  have f3 := (hb 3 (by omega)).2
  have f4 := (hb 4 (by omega)).2
  have f5 := (hb 5 (by omega)).2
  have f6 := (hb 6 (by omega)).2
  have f7 := (hb 7 (by omega)).2
  have hr := Lib.hid (or8 (f 0) (f 1) (f 2) (f 3) (f 4) (f 5) (f 6) (f 7) f0 f1 f2 f3 f4 f5 f6 f7)
  go_ret
  exact ⟨by rw [hr.out]; rfl, k⟩
end Go.Proofs.Ytjdjhccefnffmaa
set_option maxRecDepth 100000
set_option maxHeartbeats 400000
namespace Go.Proofs.Ytjdjhccefnffmaa
open Go LX Go.RowKit
theorem sub64_post (x y c : Nat) (hx : x < 18446744073709551616) (hy : y < 18446744073709551616) (hc : c ≤ 1) :
    ∃ t b : Nat, (x + two64 - y - c) % two64 = t ∧ (if x < y + c then 1 else 0) = b ∧ t < 18446744073709551616 ∧ b ≤ 1 ∧ t + y + c = x + 18446744073709551616 * b := by
  refine ⟨_, _, rfl, rfl, Nat.mod_lt _ (by decide), by split <;> omega, ?_⟩
  simp only [two64]
  split <;> omega
theorem hi8_add (f : Nat → Nat) (m : Nat) : ∀ n, hi8 f (m + n) = hi8 f m * 256 ^ n + hi8 (fun i => f (m + i)) n
  | 0 => by simp [hi8]
  | n + 1 => by
    have := hi8_add f m n
    rw [← Nat.add_assoc]
    simp only [hi8]
    rw [this, Nat.pow_succ, Nat.mul_add, Nat.add_assoc, ← Nat.mul_assoc, Nat.mul_comm 256, Nat.mul_assoc]
    congr 1
    rw [Nat.mul_comm 256, ← Nat.mul_assoc]
theorem hi8_4 (f : Nat → Nat) : v4 (hi8 (fun i => f (24 + i)) 8) (hi8 (fun i => f (16 + i)) 8) (hi8 (fun i => f (8 + i)) 8) (hi8 f 8) = hi8 f 32 := by
  have h1 := hi8_add f 24 8
  have h2 := hi8_add f 16 8
  have h3 := hi8_add f 8 8
  rw [show 24 + 8 = 32 from rfl, show 256 ^ 8 = 18446744073709551616 from rfl] at h1
  rw [show 16 + 8 = 24 from rfl, show 256 ^ 8 = 18446744073709551616 from rfl] at h2
  rw [show 8 + 8 = 16 from rfl, show 256 ^ 8 = 18446744073709551616 from rfl] at h3
  rw [h1, h2, h3]
  generalize hi8 f 8 = a at *
  generalize hi8 (fun i => f (8 + i)) 8 = b at *
  generalize hi8 (fun i => f (16 + i)) 8 = c at *
  generalize hi8 (fun i => f (24 + i)) 8 = d at *
  simp only [v4]
  omega
theorem hi8_lt8 {f : Nat → Nat} (h : ∀ i, i < 8 → f i < 256) : hi8 f 8 < 18446744073709551616 := by
  have h0 := h 0 (by omega)
  have h1 := h 1 (by omega)
  have h2 := h 2 (by omega)
  have h3 := h 3 (by omega)
  have h4 := h 4 (by omega)
  have h5 := h 5 (by omega)
  have h6 := h 6 (by omega)
  have h7 := h 7 (by omega)
  simp only [hi8]
  omega
theorem c56_no {w : World} {p1 p2 n c : Nat} {ad : Option Addr} (hn : n ≠ 32) :
    Calls Try.prog 56 #[pt p1 p2, .slice ad n c] w fun e w' => ∃ b, e = .returned (.tuple #[.pointer none, .iface 138 (.pointer (some ⟨b, 0, none⟩))]) ∧ Kp non w w' := by
  have e1 : ((n : Int) == 32) = false := by simp; omega
  have e2 : ((n : Int) != 32) = true := by simp; omega
  go_enter Try.func56, Try.ntmps56
  go_wp2_with fail
  refine (c79 _ _).mono ?_
  rintro e w5 ⟨rfl, hk5⟩
  go_wp2_with fail
  go_ret2
  exact ⟨_, rfl, hk5⟩
theorem bits_xor_u64 (a b : Nat) (ha : a < 18446744073709551616) (hb : b < 18446744073709551616) : bits .xor .u64 (a : Int) (b : Int) = ((a ^^^ b : Nat) : Int) := by
  have hx : a ^^^ b < 2 ^ 64 := Nat.xor_lt_two_pow (by omega) (by omega)
  have h1 : (BitVec.ofInt 64 (a : Int)).toNat = a := by
    rw [BitVec.ofInt_natCast, BitVec.toNat_ofNat]; exact Nat.mod_eq_of_lt (by omega)
  have h2 : (BitVec.ofInt 64 (b : Int)).toNat = b := by
    rw [BitVec.ofInt_natCast, BitVec.toNat_ofNat]; exact Nat.mod_eq_of_lt (by omega)
  show IntKind.u64.wrap ((BitVec.ofInt 64 (a : Int) ^^^ BitVec.ofInt 64 (b : Int)).toNat : Int) = _
  rw [BitVec.toNat_xor, h1, h2, IntKind.wrap_u64]
  omega
theorem bits_and_u64 (a b : Nat) (ha : a < 18446744073709551616) (hb : b < 18446744073709551616) : bits .and .u64 (a : Int) (b : Int) = ((a &&& b : Nat) : Int) := by
  have hx : a &&& b < 2 ^ 64 := Nat.and_lt_two_pow _ (by omega)
  have h1 : (BitVec.ofInt 64 (a : Int)).toNat = a := by
    rw [BitVec.ofInt_natCast, BitVec.toNat_ofNat]; exact Nat.mod_eq_of_lt (by omega)
  have h2 : (BitVec.ofInt 64 (b : Int)).toNat = b := by
    rw [BitVec.ofInt_natCast, BitVec.toNat_ofNat]; exact Nat.mod_eq_of_lt (by omega)
  show IntKind.u64.wrap ((BitVec.ofInt 64 (a : Int) &&& BitVec.ofInt 64 (b : Int)).toNat : Int) = _
  rw [BitVec.toNat_and, h1, h2, IntKind.wrap_u64]
  omega
theorem x_keep (s t : Nat) (hs : s < 18446744073709551616) (ht : t < 18446744073709551616) : bits .xor .u64 (s : Int) (bits .and .u64 (bits .xor .u64 (t : Int) (s : Int)) 0) = (s : Int) := by
  have hx : t ^^^ s < 2 ^ 64 := Nat.xor_lt_two_pow (by omega) (by omega)
  rw [bits_xor_u64 t s ht hs]
  have h := bits_and_u64 (t ^^^ s) 0 (by omega) (by omega)
  rw [show ((0 : Nat) : Int) = 0 from rfl] at h
  rw [h, Nat.and_zero]
  have h2 := bits_xor_u64 s 0 hs (by omega)
  rwa [Nat.xor_zero] at h2
theorem x_take (s t : Nat) (hs : s < 18446744073709551616) (ht : t < 18446744073709551616) : bits .xor .u64 (s : Int) (bits .and .u64 (bits .xor .u64 (t : Int) (s : Int)) 18446744073709551615) = (t : Int) := by
  have hx : t ^^^ s < 2 ^ 64 := Nat.xor_lt_two_pow (by omega) (by omega)
  rw [bits_xor_u64 t s ht hs]
  have h := bits_and_u64 (t ^^^ s) 18446744073709551615 (by omega) (by omega)
  rw [show ((18446744073709551615 : Nat) : Int) = 18446744073709551615 from rfl] at h
  rw [h, show 18446744073709551615 = 2 ^ 64 - 1 from rfl, Nat.and_two_pow_sub_one_eq_mod, Nat.mod_eq_of_lt hx]
  have h2 := bits_xor_u64 s (t ^^^ s) hs (by omega)
  rw [h2, Nat.xor_comm t s, ← Nat.xor_assoc, Nat.xor_self, Nat.zero_xor]
theorem LX.W4.st0 {w : World} {b o x0 x1 x2 x3 : Nat} (h : W4 w b o x0 x1 x2 x3) (y : Nat) (hy : y < 18446744073709551616) : W4 (w.setCell ⟨b, o, none⟩ (.int .u64 (y : Nat))) b o y x1 x2 x3 :=
  ⟨h.c0.set_same _, h.c1.set_other (.inr (by omega)) _, h.c2.set_other (.inr (by omega)) _, h.c3.set_other (.inr (by omega)) _, hy, h.l1, h.l2, h.l3⟩
theorem LX.W4.st1 {w : World} {b o x0 x1 x2 x3 : Nat} (h : W4 w b o x0 x1 x2 x3) (y : Nat) (hy : y < 18446744073709551616) : W4 (w.setCell ⟨b, o + 1, none⟩ (.int .u64 (y : Nat))) b o x0 y x2 x3 :=
  ⟨h.c0.set_other (.inr (by omega)) _, h.c1.set_same _, h.c2.set_other (.inr (by omega)) _, h.c3.set_other (.inr (by omega)) _, h.l0, hy, h.l2, h.l3⟩
theorem LX.W4.st2 {w : World} {b o x0 x1 x2 x3 : Nat} (h : W4 w b o x0 x1 x2 x3) (y : Nat) (hy : y < 18446744073709551616) : W4 (w.setCell ⟨b, o + 2, none⟩ (.int .u64 (y : Nat))) b o x0 x1 y x3 :=
  ⟨h.c0.set_other (.inr (by omega)) _, h.c1.set_other (.inr (by omega)) _, h.c2.set_same _, h.c3.set_other (.inr (by omega)) _, h.l0, h.l1, hy, h.l3⟩
theorem LX.W4.st3 {w : World} {b o x0 x1 x2 x3 : Nat} (h : W4 w b o x0 x1 x2 x3) (y : Nat) (hy : y < 18446744073709551616) : W4 (w.setCell ⟨b, o + 3, none⟩ (.int .u64 (y : Nat))) b o x0 x1 x2 y :=
  ⟨h.c0.set_other (.inr (by omega)) _, h.c1.set_other (.inr (by omega)) _, h.c2.set_other (.inr (by omega)) _, h.c3.set_same _, h.l0, h.l1, h.l2, hy⟩
/-- The scalar, reduced. -/
def Ord01 (f : Nat → Nat) (p1 p2 : Nat) (w : World) (e : Ending) (w' : World) : Prop := e = .returned (.tuple #[pt p1 p2, .nilIface]) ∧ Kp (at_ p1 p2 4) w w' ∧
      ∃ s0 s1 s2 s3, W4 w' p1 p2 s0 s1 s2 s3 ∧ v4 s0 s1 s2 s3 = hi8 f 32 % EC.N
theorem c56 {w : World} {p1 p2 b o c : Nat} {f : Nat → Nat} (hs : Sp w p1 p2) (hb : By w b o 32 f) (hne : b ≠ p1) (hc : 32 ≤ c) :
    Calls Try.prog 56 #[pt p1 p2, .slice (some ⟨b, o, none⟩) 32 c] w (Ord01 f p1 p2 w) := by
  have b3 := hb.sub 24 8 (by omega)
  have b2 := hb.sub 16 8 (by omega)
  have b1 := hb.sub 8 8 (by omega)
  have b0 := hb.sub 0 8 (by omega)
  have l3 := hi8_lt8 fun i hi => (b3 i hi).2
  have l2 := hi8_lt8 fun i hi => (b2 i hi).2
  have l1 := hi8_lt8 fun i hi => (b1 i hi).2
  have l0 := hi8_lt8 fun i hi => (b0 i hi).2
  have hv := hi8_4 f
  simp only [Nat.zero_add, Nat.add_zero] at b0 l0
  have hc1 : (24 : Int) ≤ (c : Int) := by omega
  have hc2 : (16 : Int) ≤ (c : Int) := by omega
  have hc3 : (8 : Int) ≤ (c : Int) := by omega
  have hc4 : (32 : Int) ≤ (c : Int) := by omega
  clear hb
  generalize hs0 : hi8 (fun i => f (24 + i)) 8 = s0 at *
  generalize hs1 : hi8 (fun i => f (16 + i)) 8 = s1 at *
  generalize hs2 : hi8 (fun i => f (8 + i)) 8 = s2 at *
  generalize hs3 : hi8 f 8 = s3 at *
  have hc5 : ¬ c = 24 := by omega
  have hc6 : ¬ c = 16 := by omega
  have hc7 : ¬ c = 8 := by omega
  obtain ⟨z0, z1, z2, z3, hz⟩ := hs
  replace hv := Lib.hid hv
  replace hs0 := Lib.hid hs0
  replace hs1 := Lib.hid hs1
  replace hs2 := Lib.hid hs2
  replace hs3 := Lib.hid hs3
  replace l0 := Lib.hid l0
  replace l1 := Lib.hid l1
  replace l2 := Lib.hid l2
  replace l3 := Lib.hid l3
  go_enter Try.func56, Try.ntmps56
  go_wp2_with fail
  have kk : Kp (at_ p1 p2 4) w w := Kp.refl _ _
  go_region_with (go_at_call 82; (refine (c82 (w := w.drew) b3.drew (by omega)).mono ?_); rintro e w1 ⟨he, hk1⟩; rw [hs0.out] at he; subst he; have cc : w1.cell? ⟨p1, p2, none⟩ = some (.int .u64 (z0 : Nat)) := (hz.kp (Kp.of_drew hk1) fun _ _ h => h).c0.1; have cf : w1.frozen? ⟨p1, p2, none⟩ = false := (hz.kp (Kp.of_drew hk1) fun _ _ h => h).c0.2)
  replace hz := (hz.kp (Kp.of_drew hk1) fun _ _ h => h).st0 s0 l3.out
  replace kk := (kk.trans (Kp.of_drew hk1) (fun _ _ _ h => h) (fun _ _ _ h => h.elim)).setCell (k := p1) (o := p2) (.int .u64 (s0 : Nat)) fun _ => ⟨rfl, by omega, by omega⟩
  replace b2 := (b2.kp (Kp.of_drew hk1) fun _ _ h => h).kp ((Kp.refl (at_ p1 p2 4) _).setCell (k := p1) (o := p2) (.int .u64 (s0 : Nat)) fun _ => ⟨rfl, by omega, by omega⟩) fun i hi h => hne h.1
  replace b1 := (b1.kp (Kp.of_drew hk1) fun _ _ h => h).kp ((Kp.refl (at_ p1 p2 4) _).setCell (k := p1) (o := p2) (.int .u64 (s0 : Nat)) fun _ => ⟨rfl, by omega, by omega⟩) fun i hi h => hne h.1
  replace b0 := (b0.kp (Kp.of_drew hk1) fun _ _ h => h).kp ((Kp.refl (at_ p1 p2 4) _).setCell (k := p1) (o := p2) (.int .u64 (s0 : Nat)) fun _ => ⟨rfl, by omega, by omega⟩) fun i hi h => hne h.1
  generalize w1.setCell ⟨p1, p2, none⟩ (.int .u64 (s0 : Nat)) = v1 at *
  clear cc cf hk1
  go_wp2_with fail
  go_region_with (go_at_call 82; (refine (c82 (w := v1.drew) b2.drew (by omega)).mono ?_); rintro e w2 ⟨he, hk1⟩; rw [hs1.out] at he; subst he; have cc : w2.cell? ⟨p1, p2 + 1, none⟩ = some (.int .u64 (z1 : Nat)) := (hz.kp (Kp.of_drew hk1) fun _ _ h => h).c1.1; have cf : w2.frozen? ⟨p1, p2 + 1, none⟩ = false := (hz.kp (Kp.of_drew hk1) fun _ _ h => h).c1.2)
  replace hz := (hz.kp (Kp.of_drew hk1) fun _ _ h => h).st1 s1 l2.out
  replace kk := (kk.trans (Kp.of_drew hk1) (fun _ _ _ h => h) (fun _ _ _ h => h.elim)).setCell (k := p1) (o := p2 + 1) (.int .u64 (s1 : Nat)) fun _ => ⟨rfl, by omega, by omega⟩
  replace b1 := (b1.kp (Kp.of_drew hk1) fun _ _ h => h).kp ((Kp.refl (at_ p1 p2 4) _).setCell (k := p1) (o := p2 + 1) (.int .u64 (s1 : Nat)) fun _ => ⟨rfl, by omega, by omega⟩) fun i hi h => hne h.1
  replace b0 := (b0.kp (Kp.of_drew hk1) fun _ _ h => h).kp ((Kp.refl (at_ p1 p2 4) _).setCell (k := p1) (o := p2 + 1) (.int .u64 (s1 : Nat)) fun _ => ⟨rfl, by omega, by omega⟩) fun i hi h => hne h.1
  generalize w2.setCell ⟨p1, p2 + 1, none⟩ (.int .u64 (s1 : Nat)) = v2 at *
  clear cc cf hk1
  go_wp2_with fail
  go_region_with (go_at_call 82; (refine (c82 (w := v2.drew) b1.drew (by omega)).mono ?_); rintro e w3 ⟨he, hk1⟩; rw [hs2.out] at he; subst he; have cc : w3.cell? ⟨p1, p2 + 2, none⟩ = some (.int .u64 (z2 : Nat)) := (hz.kp (Kp.of_drew hk1) fun _ _ h => h).c2.1; have cf : w3.frozen? ⟨p1, p2 + 2, none⟩ = false := (hz.kp (Kp.of_drew hk1) fun _ _ h => h).c2.2)
  replace hz := (hz.kp (Kp.of_drew hk1) fun _ _ h => h).st2 s2 l1.out
  replace kk := (kk.trans (Kp.of_drew hk1) (fun _ _ _ h => h) (fun _ _ _ h => h.elim)).setCell (k := p1) (o := p2 + 2) (.int .u64 (s2 : Nat)) fun _ => ⟨rfl, by omega, by omega⟩
  replace b0 := (b0.kp (Kp.of_drew hk1) fun _ _ h => h).kp ((Kp.refl (at_ p1 p2 4) _).setCell (k := p1) (o := p2 + 2) (.int .u64 (s2 : Nat)) fun _ => ⟨rfl, by omega, by omega⟩) fun i hi h => hne h.1
  generalize w3.setCell ⟨p1, p2 + 2, none⟩ (.int .u64 (s2 : Nat)) = v3 at *
  clear cc cf hk1
  go_wp2_with fail
  go_region_with (go_at_call 82; (refine (c82 (w := v3.drew) b0.drew (by omega)).mono ?_); rintro e w4 ⟨he, hk1⟩; rw [hs3.out] at he; subst he; have cc : w4.cell? ⟨p1, p2 + 3, none⟩ = some (.int .u64 (z3 : Nat)) := (hz.kp (Kp.of_drew hk1) fun _ _ h => h).c3.1; have cf : w4.frozen? ⟨p1, p2 + 3, none⟩ = false := (hz.kp (Kp.of_drew hk1) fun _ _ h => h).c3.2)
  replace hz := (hz.kp (Kp.of_drew hk1) fun _ _ h => h).st3 s3 l0.out
  replace kk := (kk.trans (Kp.of_drew hk1) (fun _ _ _ h => h) (fun _ _ _ h => h.elim)).setCell (k := p1) (o := p2 + 3) (.int .u64 (s3 : Nat)) fun _ => ⟨rfl, by omega, by omega⟩
  generalize w4.setCell ⟨p1, p2 + 3, none⟩ (.int .u64 (s3 : Nat)) = v4 at *
  clear cc cf hk1
  have e0 := hz.c0.1
  have e1 := hz.c1.1
  have e2 := hz.c2.1
  have e3 := hz.c3.1
  obtain ⟨t0, c0, ht0, hc0, lt0, lc0, q0⟩ := sub64_post s0 17562291160714782033 0 l3.out (by omega) (by omega)
  obtain ⟨t1, c1, ht1, hc1', lt1, lc1, q1⟩ := sub64_post s1 13611842547513532036 c0 l2.out (by omega) lc0
  obtain ⟨t2, c2, ht2, hc2', lt2, lc2, q2⟩ := sub64_post s2 18446744073709551615 c1 l1.out (by omega) lc1
  obtain ⟨t3, c3, ht3, hc3', lt3, lc3, q3⟩ := sub64_post s3 18446744069414584320 c2 l0.out (by omega) lc2
  have r0 : (callFunc 83 #[.int .u64 (s0 : Nat), .int .u64 17562291160714782033, .int .u64 0]).run Try.prog v4 = .ok (.value (.tuple #[.int .u64 (t0 : Nat), .int .u64 (c0 : Nat)])) v4 := by
    have := sub64_run s0 17562291160714782033 0 v4 (by omega)
    rw [ht0, hc0] at this
    exact this
  have r1 : (callFunc 83 #[.int .u64 (s1 : Nat), .int .u64 13611842547513532036, .int .u64 (c0 : Nat)]).run Try.prog v4 = .ok (.value (.tuple #[.int .u64 (t1 : Nat), .int .u64 (c1 : Nat)])) v4 := by
    have := sub64_run s1 13611842547513532036 c0 v4 lc0
    rw [ht1, hc1'] at this
    exact this
  have r2 : (callFunc 83 #[.int .u64 (s2 : Nat), .int .u64 18446744073709551615, .int .u64 (c1 : Nat)]).run Try.prog v4 = .ok (.value (.tuple #[.int .u64 (t2 : Nat), .int .u64 (c2 : Nat)])) v4 := by
    have := sub64_run s2 18446744073709551615 c1 v4 lc1
    rw [ht2, hc2'] at this
    exact this
  have r3 : (callFunc 83 #[.int .u64 (s3 : Nat), .int .u64 18446744069414584320, .int .u64 (c2 : Nat)]).run Try.prog v4 = .ok (.value (.tuple #[.int .u64 (t3 : Nat), .int .u64 (c3 : Nat)])) v4 := by
    have := sub64_run s3 18446744069414584320 c2 v4 lc2
    rw [ht3, hc3'] at this
    exact this
  replace q0 := Lib.hid q0
  replace q1 := Lib.hid q1
  replace q2 := Lib.hid q2
  replace q3 := Lib.hid q3
  clear ht0 hc0 ht1 hc1' ht2 hc2' ht3 hc3' b0 lc0 lc1 lc2
  have hcc : c3 = 0 ∨ c3 = 1 := by omega
  rcases hcc with rfl | rfl
  · have x0 : bits .xor .u64 (s0 : Int) (bits .and .u64 (bits .xor .u64 (t0 : Int) (s0 : Int)) (IntKind.u64.wrap (-1))) = (t0 : Int) := x_take s0 t0 l3.out lt0
    have x1 : bits .xor .u64 (s1 : Int) (bits .and .u64 (bits .xor .u64 (t1 : Int) (s1 : Int)) (IntKind.u64.wrap (-1))) = (t1 : Int) := x_take s1 t1 l2.out lt1
    have x2 : bits .xor .u64 (s2 : Int) (bits .and .u64 (bits .xor .u64 (t2 : Int) (s2 : Int)) (IntKind.u64.wrap (-1))) = (t2 : Int) := x_take s2 t2 l1.out lt2
    have x3 : bits .xor .u64 (s3 : Int) (bits .and .u64 (bits .xor .u64 (t3 : Int) (s3 : Int)) (IntKind.u64.wrap (-1))) = (t3 : Int) := x_take s3 t3 l0.out lt3
    replace hz := Lib.hid hz
    go_wp2_with fail
    have cc : v4.drew.cell? ⟨p1, p2, none⟩ = some (.int .u64 (s0 : Nat)) := hz.out.c0.1
    have cf : v4.drew.frozen? ⟨p1, p2, none⟩ = false := hz.out.c0.2
    go_region
    all_goals clear cc cf
    try simp only [x0]
    replace hz := Lib.hid ((hz.out.st0 t0 lt0).drew)
    replace kk := (kk.setCell (k := p1) (o := p2) (.int .u64 (t0 : Nat)) fun _ => ⟨rfl, by omega, by omega⟩).drew
    generalize (v4.setCell ⟨p1, p2, none⟩ (.int .u64 (t0 : Nat))).drew = u1 at *
    go_wp2_with fail
    have cc : u1.drew.cell? ⟨p1, p2 + 1, none⟩ = some (.int .u64 (s1 : Nat)) := hz.out.c1.1
    have cf : u1.drew.frozen? ⟨p1, p2 + 1, none⟩ = false := hz.out.c1.2
    go_region
    all_goals clear cc cf
    try simp only [x1]
    replace hz := Lib.hid ((hz.out.st1 t1 lt1).drew)
    replace kk := (kk.setCell (k := p1) (o := p2 + 1) (.int .u64 (t1 : Nat)) fun _ => ⟨rfl, by omega, by omega⟩).drew
    generalize (u1.setCell ⟨p1, p2 + 1, none⟩ (.int .u64 (t1 : Nat))).drew = u2 at *
    go_wp2_with fail
    have cc : u2.drew.cell? ⟨p1, p2 + 2, none⟩ = some (.int .u64 (s2 : Nat)) := hz.out.c2.1
    have cf : u2.drew.frozen? ⟨p1, p2 + 2, none⟩ = false := hz.out.c2.2
    go_region
    all_goals clear cc cf
    try simp only [x2]
    replace hz := Lib.hid ((hz.out.st2 t2 lt2).drew)
    replace kk := (kk.setCell (k := p1) (o := p2 + 2) (.int .u64 (t2 : Nat)) fun _ => ⟨rfl, by omega, by omega⟩).drew
    generalize (u2.setCell ⟨p1, p2 + 2, none⟩ (.int .u64 (t2 : Nat))).drew = u3 at *
    go_wp2_with fail
    have cc : u3.drew.cell? ⟨p1, p2 + 3, none⟩ = some (.int .u64 (s3 : Nat)) := hz.out.c3.1
    have cf : u3.drew.frozen? ⟨p1, p2 + 3, none⟩ = false := hz.out.c3.2
    go_region
    all_goals clear cc cf
    try simp only [x3]
    replace hz := Lib.hid ((hz.out.st3 t3 lt3).drew)
    replace kk := (kk.setCell (k := p1) (o := p2 + 3) (.int .u64 (t3 : Nat)) fun _ => ⟨rfl, by omega, by omega⟩).drew
    generalize (u3.setCell ⟨p1, p2 + 3, none⟩ (.int .u64 (t3 : Nat))).drew = u4 at *
    go_wp2_with fail
    go_ret2
    refine ⟨rfl, kk, t0, t1, t2, t3, hz.out, ?_⟩
    have a0 := q0.out
    have a1 := q1.out
    have a2 := q2.out
    have a3 := q3.out
    have g0 := l0.out
    have g1 := l1.out
    have g2 := l2.out
    have g3 := l3.out
    rw [← hv.out]
    simp only [Ytjdjhccefnffmaa.v4, EC.N]
    omega
  · have x0 : bits .xor .u64 (s0 : Int) (bits .and .u64 (bits .xor .u64 (t0 : Int) (s0 : Int)) 0) = (s0 : Int) := x_keep s0 t0 l3.out lt0
    have x1 : bits .xor .u64 (s1 : Int) (bits .and .u64 (bits .xor .u64 (t1 : Int) (s1 : Int)) 0) = (s1 : Int) := x_keep s1 t1 l2.out lt1
    have x2 : bits .xor .u64 (s2 : Int) (bits .and .u64 (bits .xor .u64 (t2 : Int) (s2 : Int)) 0) = (s2 : Int) := x_keep s2 t2 l1.out lt2
    have x3 : bits .xor .u64 (s3 : Int) (bits .and .u64 (bits .xor .u64 (t3 : Int) (s3 : Int)) 0) = (s3 : Int) := x_keep s3 t3 l0.out lt3
    replace hz := Lib.hid hz
    go_wp2_with fail
    have cc : v4.drew.cell? ⟨p1, p2, none⟩ = some (.int .u64 (s0 : Nat)) := hz.out.c0.1
    have cf : v4.drew.frozen? ⟨p1, p2, none⟩ = false := hz.out.c0.2
    go_region
    all_goals clear cc cf
    try simp only [x0]
    replace hz := Lib.hid ((hz.out.st0 s0 l3.out).drew)
    replace kk := (kk.setCell (k := p1) (o := p2) (.int .u64 (s0 : Nat)) fun _ => ⟨rfl, by omega, by omega⟩).drew
    generalize (v4.setCell ⟨p1, p2, none⟩ (.int .u64 (s0 : Nat))).drew = u1 at *
    go_wp2_with fail
    have cc : u1.drew.cell? ⟨p1, p2 + 1, none⟩ = some (.int .u64 (s1 : Nat)) := hz.out.c1.1
    have cf : u1.drew.frozen? ⟨p1, p2 + 1, none⟩ = false := hz.out.c1.2
    go_region
    all_goals clear cc cf
    try simp only [x1]
    replace hz := Lib.hid ((hz.out.st1 s1 l2.out).drew)
    replace kk := (kk.setCell (k := p1) (o := p2 + 1) (.int .u64 (s1 : Nat)) fun _ => ⟨rfl, by omega, by omega⟩).drew
    generalize (u1.setCell ⟨p1, p2 + 1, none⟩ (.int .u64 (s1 : Nat))).drew = u2 at *
    go_wp2_with fail
    have cc : u2.drew.cell? ⟨p1, p2 + 2, none⟩ = some (.int .u64 (s2 : Nat)) := hz.out.c2.1
    have cf : u2.drew.frozen? ⟨p1, p2 + 2, none⟩ = false := hz.out.c2.2
    go_region
    all_goals clear cc cf
    try simp only [x2]
    replace hz := Lib.hid ((hz.out.st2 s2 l1.out).drew)
    replace kk := (kk.setCell (k := p1) (o := p2 + 2) (.int .u64 (s2 : Nat)) fun _ => ⟨rfl, by omega, by omega⟩).drew
    generalize (u2.setCell ⟨p1, p2 + 2, none⟩ (.int .u64 (s2 : Nat))).drew = u3 at *
    go_wp2_with fail
    have cc : u3.drew.cell? ⟨p1, p2 + 3, none⟩ = some (.int .u64 (s3 : Nat)) := hz.out.c3.1
    have cf : u3.drew.frozen? ⟨p1, p2 + 3, none⟩ = false := hz.out.c3.2
    go_region
    all_goals clear cc cf
    try simp only [x3]
    replace hz := Lib.hid ((hz.out.st3 s3 l0.out).drew)
    replace kk := (kk.setCell (k := p1) (o := p2 + 3) (.int .u64 (s3 : Nat)) fun _ => ⟨rfl, by omega, by omega⟩).drew
    generalize (u3.setCell ⟨p1, p2 + 3, none⟩ (.int .u64 (s3 : Nat))).drew = u4 at *
    go_wp2_with fail
    go_ret2
    refine ⟨rfl, kk, s0, s1, s2, s3, hz.out, ?_⟩
    have a0 := q0.out
    have a1 := q1.out
    have a2 := q2.out
    have a3 := q3.out
    have g0 := l0.out
    have g1 := l1.out
    have g2 := l2.out
    have g3 := l3.out
    rw [← hv.out]
    simp only [Ytjdjhccefnffmaa.v4, EC.N]
    omega
end Go.Proofs.Ytjdjhccefnffmaa
set_option maxRecDepth 100000
set_option maxHeartbeats 400000
namespace Go.Proofs.Ytjdjhccefnffmaa
open Go LX Go.RowKit
theorem rsh (s t n : Nat) (hn : n < 64) (hs : s < 18446744073709551616) :
    bits .or .u64 ((s : Int) / 2 ^ n) (IntKind.u64.wrap ((t : Int) * 2 ^ (64 - n))) = (((s + 18446744073709551616 * t) / 2 ^ n % 18446744073709551616 : Nat) : Int) := by
  obtain ⟨k, hk⟩ : ∃ k, 64 = n + k := ⟨64 - n, by omega⟩
  have hk2 : 64 - n = k := by omega
  rw [hk2]
  have h64 : (18446744073709551616 : Nat) = 2 ^ n * 2 ^ k := by rw [← Nat.pow_add, ← hk]
  have hp : 0 < 2 ^ n := Nat.pow_pos (by omega)
  have hq : 0 < 2 ^ k := Nat.pow_pos (by omega)
  have e1 : ((s : Int) / 2 ^ n) = ((s / 2 ^ n : Nat) : Int) := by rw [Int.natCast_ediv, Int.natCast_pow]; rfl
  have e2 : IntKind.u64.wrap ((t : Int) * 2 ^ k) = ((t * 2 ^ k % 18446744073709551616 : Nat) : Int) := by
    have : ((t : Int) * 2 ^ k) = ((t * 2 ^ k : Nat) : Int) := by rw [Int.natCast_mul, Int.natCast_pow]; rfl
    rw [this, IntKind.wrap_u64]; omega
  have e3 : t * 2 ^ k % 18446744073709551616 = 2 ^ k * (t % 2 ^ n) := by
    rw [h64, Nat.mul_comm t, Nat.mul_comm (2 ^ n), Nat.mul_mod_mul_left]
  have ha : s / 2 ^ n < 2 ^ k := Nat.div_lt_of_lt_mul (by rw [← h64]; exact hs)
  have hb : 2 ^ k * (t % 2 ^ n) + 2 ^ k ≤ 18446744073709551616 := by
    have h1 := Nat.mod_lt t hp
    have := Nat.mul_le_mul_left (2 ^ k) (show t % 2 ^ n + 1 ≤ 2 ^ n from h1)
    rw [Nat.mul_add, Nat.mul_one, Nat.mul_comm _ (2 ^ n), ← h64] at this
    exact this
  rw [e1, e2, e3, bits_or_u64 _ _ (by omega) (by omega)]
  congr 1
  rw [Nat.or_comm]
  have h2 := Nat.shiftLeft_add_eq_or_of_lt ha (t % 2 ^ n)
  rw [Nat.shiftLeft_eq, Nat.mul_comm (t % 2 ^ n)] at h2
  rw [← h2]
  have h3 : (s + 18446744073709551616 * t) / 2 ^ n = s / 2 ^ n + 2 ^ k * t := by
    rw [h64, Nat.mul_assoc, Nat.add_mul_div_left _ _ hp]
  have h4 : 2 ^ k * t = 2 ^ k * (t % 2 ^ n) + 18446744073709551616 * (t / 2 ^ n) := by
    have := Nat.mod_add_div t (2 ^ n)
    rw [h64, Nat.mul_comm (2 ^ n), Nat.mul_assoc, ← Nat.mul_add, this]
  rw [h3, h4, ← Nat.add_assoc, Nat.add_mul_mod_self_left]
  generalize 2 ^ k * (t % 2 ^ n) = A at *
  generalize s / 2 ^ n = B at *
  rw [Nat.mod_eq_of_lt (by omega)]
  omega
theorem rsh_more (s u n : Nat) (hn : n < 64) : (s + 18446744073709551616 * (18446744073709551616 * u)) / 2 ^ n % 18446744073709551616 = s / 2 ^ n % 18446744073709551616 := by
  obtain ⟨k, hk⟩ : ∃ k, 64 = n + k := ⟨64 - n, by omega⟩
  have h64 : (18446744073709551616 : Nat) = 2 ^ n * 2 ^ k := by rw [← Nat.pow_add, ← hk]
  have hp : 0 < 2 ^ n := Nat.pow_pos (by omega)
  have : s + 18446744073709551616 * (18446744073709551616 * u) = s + 2 ^ n * (18446744073709551616 * (2 ^ k * u)) := by
    have h2 : 18446744073709551616 * (18446744073709551616 * u) = (2 ^ n * 2 ^ k) * (18446744073709551616 * u) := by rw [← h64]
    rw [h2, Nat.mul_assoc, ← Nat.mul_assoc (2 ^ k), Nat.mul_comm (2 ^ k), Nat.mul_assoc]
  rw [this, Nat.add_mul_div_left _ _ hp, Nat.add_mul_mod_self_left]
theorem v4_div {a b c d r : Nat} (i n : Nat) (hn : n = 64 * i + r) : v4 a b c d / 2 ^ n = v4 a b c d / 2 ^ (64 * i) / 2 ^ r := by
  rw [hn, Nat.pow_add, Nat.div_div_eq_div_mul]
theorem shr_lt (s n : Nat) (hs : s < 18446744073709551616) : ((s : Int) / 2 ^ n) = ((s / 2 ^ n % 18446744073709551616 : Nat) : Int) := by
  rw [Nat.mod_eq_of_lt (Nat.lt_of_le_of_lt (Nat.div_le_self _ _) hs), Int.natCast_ediv, Int.natCast_pow]; rfl
theorem c58_0 {w : World} {p1 p2 s0 s1 s2 s3 n r : Nat} (hw : W4 w p1 p2 s0 s1 s2 s3) (hnr : n = 64 * 0 + r) (hr : r < 64) :
    Calls Try.prog 58 #[pt p1 p2, .int .i64 (n : Int)] w fun e w' => e = .returned (.int .u64 ((v4 s0 s1 s2 s3 / 2 ^ n % 18446744073709551616 : Nat) : Int)) ∧ w' = w := by
  have e0 := hw.c0.1
  have e1 := hw.c1.1
  have d1 : (n : Int).tdiv 64 = 0 := by rw [Int.tdiv_eq_ediv_of_nonneg (by omega)]; omega
  have d2 : (n : Int).tmod 64 = (r : Int) := by rw [Int.tmod_eq_emod_of_nonneg (by omega)]; omega
  have d3 : (0 : Int) ≤ (r : Int) := by omega
  have d4 : (r : Int) < 64 := by omega
  have hv : v4 s0 s1 s2 s3 / 2 ^ (64 * 0) = s0 + 18446744073709551616 * s1 + 18446744073709551616 * (18446744073709551616 * (s2 + 18446744073709551616 * s3)) := by
    have l0 := hw.l0
    have l1 := hw.l1
    have l2 := hw.l2
    simp only [v4, two64] at *
    omega
  have hx := Lib.hid ((rsh s0 s1 r hr hw.l0).trans (congrArg (fun x : Nat => (x : Int)) (show (s0 + 18446744073709551616 * s1) / 2 ^ r % 18446744073709551616 = v4 s0 s1 s2 s3 / 2 ^ n % 18446744073709551616 from by rw [v4_div 0 n hnr, hv]; exact (rsh_more (s0 + 18446744073709551616 * s1) (s2 + 18446744073709551616 * s3) r hr).symm)))
  clear hv hnr hw
  go_enter Try.func58, Try.ntmps58
  go_wp2_with fail
  go_ret
  exact ⟨by rw [hx.out]; rfl, rfl⟩
theorem c58_1 {w : World} {p1 p2 s0 s1 s2 s3 n r : Nat} (hw : W4 w p1 p2 s0 s1 s2 s3) (hnr : n = 64 * 1 + r) (hr : r < 64) :
    Calls Try.prog 58 #[pt p1 p2, .int .i64 (n : Int)] w fun e w' => e = .returned (.int .u64 ((v4 s0 s1 s2 s3 / 2 ^ n % 18446744073709551616 : Nat) : Int)) ∧ w' = w := by
  have e0 := hw.c1.1
  have e1 := hw.c2.1
  have d1 : (n : Int).tdiv 64 = 1 := by rw [Int.tdiv_eq_ediv_of_nonneg (by omega)]; omega
  have d2 : (n : Int).tmod 64 = (r : Int) := by rw [Int.tmod_eq_emod_of_nonneg (by omega)]; omega
  have d3 : (0 : Int) ≤ (r : Int) := by omega
  have d4 : (r : Int) < 64 := by omega
  have hv : v4 s0 s1 s2 s3 / 2 ^ (64 * 1) = s1 + 18446744073709551616 * s2 + 18446744073709551616 * (18446744073709551616 * s3) := by
    have l0 := hw.l0
    have l1 := hw.l1
    have l2 := hw.l2
    simp only [v4, two64] at *
    omega
  have hx := Lib.hid ((rsh s1 s2 r hr hw.l1).trans (congrArg (fun x : Nat => (x : Int)) (show (s1 + 18446744073709551616 * s2) / 2 ^ r % 18446744073709551616 = v4 s0 s1 s2 s3 / 2 ^ n % 18446744073709551616 from by rw [v4_div 1 n hnr, hv]; exact (rsh_more (s1 + 18446744073709551616 * s2) s3 r hr).symm)))
  clear hv hnr hw
  go_enter Try.func58, Try.ntmps58
  go_wp2_with fail
  go_ret
  exact ⟨by rw [hx.out]; rfl, rfl⟩
theorem c58_2 {w : World} {p1 p2 s0 s1 s2 s3 n r : Nat} (hw : W4 w p1 p2 s0 s1 s2 s3) (hnr : n = 64 * 2 + r) (hr : r < 64) :
    Calls Try.prog 58 #[pt p1 p2, .int .i64 (n : Int)] w fun e w' => e = .returned (.int .u64 ((v4 s0 s1 s2 s3 / 2 ^ n % 18446744073709551616 : Nat) : Int)) ∧ w' = w := by
  have e0 := hw.c2.1
  have e1 := hw.c3.1
  have d1 : (n : Int).tdiv 64 = 2 := by rw [Int.tdiv_eq_ediv_of_nonneg (by omega)]; omega
  have d2 : (n : Int).tmod 64 = (r : Int) := by rw [Int.tmod_eq_emod_of_nonneg (by omega)]; omega
  have d3 : (0 : Int) ≤ (r : Int) := by omega
  have d4 : (r : Int) < 64 := by omega
  have hv : v4 s0 s1 s2 s3 / 2 ^ (64 * 2) = s2 + 18446744073709551616 * s3 := by
    have l0 := hw.l0
    have l1 := hw.l1
    have l2 := hw.l2
    simp only [v4, two64] at *
    omega
  have hx := Lib.hid ((rsh s2 s3 r hr hw.l2).trans (congrArg (fun x : Nat => (x : Int)) (show (s2 + 18446744073709551616 * s3) / 2 ^ r % 18446744073709551616 = v4 s0 s1 s2 s3 / 2 ^ n % 18446744073709551616 from by rw [v4_div 2 n hnr, hv])))
  clear hv hnr hw
  go_enter Try.func58, Try.ntmps58
  go_wp2_with fail
  go_ret
  exact ⟨by rw [hx.out]; rfl, rfl⟩
theorem c58_3 {w : World} {p1 p2 s0 s1 s2 s3 n r : Nat} (hw : W4 w p1 p2 s0 s1 s2 s3) (hnr : n = 64 * 3 + r) (hr : r < 64) :
    Calls Try.prog 58 #[pt p1 p2, .int .i64 (n : Int)] w fun e w' => e = .returned (.int .u64 ((v4 s0 s1 s2 s3 / 2 ^ n % 18446744073709551616 : Nat) : Int)) ∧ w' = w := by
  have e0 := hw.c3.1
  have d1 : (n : Int).tdiv 64 = 3 := by rw [Int.tdiv_eq_ediv_of_nonneg (by omega)]; omega
  have d2 : (n : Int).tmod 64 = (r : Int) := by rw [Int.tmod_eq_emod_of_nonneg (by omega)]; omega
  have d3 : (0 : Int) ≤ (r : Int) := by omega
  have d4 : (r : Int) < 64 := by omega
  have hv : v4 s0 s1 s2 s3 / 2 ^ (64 * 3) = s3 := by
    have l0 := hw.l0
    have l1 := hw.l1
    have l2 := hw.l2
    simp only [v4, two64] at *
    omega
  have hx := Lib.hid ((shr_lt s3 r hw.l3).trans (congrArg (fun x : Nat => (x : Int)) (show s3 / 2 ^ r % 18446744073709551616 = v4 s0 s1 s2 s3 / 2 ^ n % 18446744073709551616 from by rw [v4_div 3 n hnr, hv])))
  clear hv hnr hw
  go_enter Try.func58, Try.ntmps58
  go_wp2_with fail
  go_ret
  exact ⟨by rw [hx.out]; rfl, rfl⟩
theorem c58 {w : World} {p1 p2 s0 s1 s2 s3 n : Nat} (hw : W4 w p1 p2 s0 s1 s2 s3) (hn : n < 256) :
    Calls Try.prog 58 #[pt p1 p2, .int .i64 (n : Int)] w fun e w' => e = .returned (.int .u64 ((v4 s0 s1 s2 s3 / 2 ^ n % 18446744073709551616 : Nat) : Int)) ∧ w' = w := by
  have h : n / 64 = 0 ∨ n / 64 = 1 ∨ n / 64 = 2 ∨ n / 64 = 3 := by omega
  rcases h with h | h | h | h
  · exact c58_0 (r := n % 64) hw (by omega) (by omega)
  · exact c58_1 (r := n % 64) hw (by omega) (by omega)
  · exact c58_2 (r := n % 64) hw (by omega) (by omega)
  · exact c58_3 (r := n % 64) hw (by omega) (by omega)
end Go.Proofs.Ytjdjhccefnffmaa
set_option maxRecDepth 100000
set_option maxHeartbeats 400000
namespace Go.Proofs.Ytjdjhccefnffmaa
open Go LX Go.RowKit
/-- The digit of six bits, and whether it is below 0. -/
def bd (n : Nat) : Nat := if n < 32 then (n + 1) / 2 else (64 - n) / 2
def bs (n : Nat) : Nat := n / 32
theorem two_eq {a b c d : Int} (h1 : a = c) (h2 : b = d) : Ending.returned (.tuple #[.int .u8 a, .int .i64 b]) = Ending.returned (.tuple #[.int .u8 c, .int .i64 d]) := by rw [h1, h2]
theorem c57 {w : World} {n : Nat} (hn : n < 64) :
    Calls Try.prog 57 #[.int .u64 (n : Int)] w fun e w' => e = .returned (.tuple #[.int .u8 (bd n : Nat), .int .i64 (bs n : Nat)]) ∧ w' = w := by
  have d3 : (0 : Int) ≤ (n : Int) := by omega
  have d4 : (n : Int) < 64 := by omega
  go_enter Try.func57, Try.ntmps57
  go_wp2_with fail
  · go_ret2
    refine ⟨two_eq ?_ ?_, rfl⟩
    · clear d3 d4 h
      revert n
      decide +kernel
    · clear d3 d4 h
      revert n
      decide +kernel
end Go.Proofs.Ytjdjhccefnffmaa
set_option maxRecDepth 100000
set_option maxHeartbeats 400000
namespace Go.Proofs.Ytjdjhccefnffmaa
open Go LX Go.RowKit
theorem selF_1 (x y : EC.F) : selF 1 x y = x := rfl
theorem selF_0 (x y : EC.F) : selF 0 x y = y := rfl
/-- Sixteen points on end. -/
def Tab (w : World) (b m : Nat) (T : Nat → EC.Pt) : Prop := ∀ i, i < m → PtAt w b (i * 12) (T i)
theorem Tab.kp {w w' : World} {b m : Nat} {T : Nat → EC.Pt} {S : Nat → Nat → Prop} (h : Tab w b m T) (hk : Kp S w w') (hS : ∀ o, ¬ S b o) : Tab w' b m T := fun i hi => (h i hi).kp hk fun _ _ => hS _
/-- The point of so many, of those below k. -/
def selT (T : Nat → EC.Pt) (n k : Nat) : EC.Pt := if 1 ≤ n ∧ n < k then T (n - 1) else .far
theorem selT_step {T : Nat → EC.Pt} {n k : Nat} (h : k ≠ n) : selT T n (k + 1) = selT T n k := by
  unfold selT
  by_cases h1 : 1 ≤ n ∧ n < k
  · rw [if_pos h1, if_pos ⟨h1.1, by omega⟩]
  · rw [if_neg h1, if_neg (by omega)]
theorem selT_hit {T : Nat → EC.Pt} {k : Nat} (h : 1 ≤ k) : selT T k (k + 1) = T (k - 1) := if_pos ⟨h, by omega⟩
theorem c60 {w : World} {tb p1 p2 n : Nat} {T : Nat → EC.Pt} (ht : Tab w tb 16 T) (hs : S3 w p1 p2) (hne : p1 ≠ tb) (hn : n ≤ 16) :
    Calls Try.prog 60 #[pt tb 0, pt p1 p2, .int .u8 (n : Nat)] w fun e w' => e = .returned (.tuple #[]) ∧ Kp (at_ p1 p2 12) w w' ∧ PtAt w' p1 p2 (selT T n 17) := by
  have g1 : (n : Int) ≤ 16 := by omega
  have hlt := hs.lt
  go_enter Try.func60, Try.ntmps60
  go_wp2_with fail
  refine (c44 w).mono ?_
  rintro e w1 ⟨rfl, hk, hp⟩
  replace hs := hs.kp hk fun _ _ h => h
  go_wp2_with fail
  refine (c75 hs hp (.inl (by omega))).mono ?_
  rintro e w2 ⟨rfl, hk2, hp2⟩
  replace hk := (hk.wide (T := at_ p1 p2 12) fun _ _ _ h => h.elim).trans hk2 (fun _ _ _ h => h) (fun _ _ _ h => h)
  have h0 : PtAt w2 p1 p2 (selT T n 1) := by
    have : selT T n 1 = .far := if_neg (by omega)
    rw [this]
    exact ⟨trivial, _, _, _, hp2, rfl, rfl, EC.one_ne⟩
  clear hp2 hk2 hp hs
  go_wp2_with fail
  go_loopw [6] (fun i wr => ∃ k : Nat, 1 ≤ k ∧ k ≤ 17 ∧ i = .int .u8 (k : Int) ∧ Kp (at_ p1 p2 12) w wr ∧ PtAt wr p1 p2 (selT T n k)) (fun i _ => 17 - (intOf i).toNat)
  case atStart => exact ⟨1, by omega, by omega, rfl, hk, h0⟩
  case round =>
    clear hk h0
    obtain ⟨k, hk1, hk2, rfl, hkp, hpt⟩ := hrel
    by_cases hlt2 : k ≤ 16
    · have a1 : (k : Int) ≤ 16 := by omega
      have a2 : (0 : Int) ≤ (k : Int) - 1 := by omega
      have a3 : ((k : Int) - 1).toNat = k - 1 := by omega
      have a4 : (k : Int) - 1 < 16 := by omega
      have a5 : IntKind.u8.wrap ((k : Int) - 1) = (k : Int) - 1 := by rw [wrap_u8]; omega
      have a6 : IntKind.u8.wrap ((k : Int) + 1) = (k : Int) + 1 := by rw [wrap_u8]; omega
      have htk := (ht.kp hkp fun o h => hne h.1.symm) (k - 1) (by omega)
      go_wp2_with fail
      refine (c84 k n (by omega) (by omega) wr).mono ?_
      rintro e w3 ⟨rfl, rfl⟩
      by_cases hkn : k = n
      · subst hkn
        simp only [if_true]
        obtain ⟨-, X, Y, Z, h1, h2⟩ := hpt
        obtain ⟨o1, X2, Y2, Z2, h3, h4⟩ := htk
        go_wp2_with fail
        refine (c85 (c := 1) (by omega) h1 h3 (.inl hne)).mono ?_
        rintro e w4 ⟨rfl, hk5, hp5⟩
        rw [selF_1, selF_1, selF_1] at hp5
        have hn' : PtAt w4 p1 p2 (selT T k (k + 1)) := by rw [selT_hit hk1]; exact ⟨o1, _, _, _, hp5, h4⟩
        have hkk := hkp.trans hk5 (fun _ _ _ h => h) (fun _ _ _ h => h)
        clear hkp hk5 hp5 h1 h2 h3 h4
        go_wp2_with fail
        go_roundw
        case rel => exact ⟨k + 1, by omega, by omega, by go_num, hkk, hn'⟩
        case measure => simp [intOf]; omega
      · simp only [if_neg hkn]
        obtain ⟨o1, X, Y, Z, h1, h2⟩ := hpt
        obtain ⟨-, X2, Y2, Z2, h3, h4⟩ := htk
        go_wp2_with fail
        refine (c85 (c := 0) (by omega) h1 h3 (.inl hne)).mono ?_
        rintro e w4 ⟨rfl, hk5, hp5⟩
        rw [selF_0, selF_0, selF_0] at hp5
        have hn' : PtAt w4 p1 p2 (selT T n (k + 1)) := by rw [selT_step hkn]; exact ⟨o1, _, _, _, hp5, h2⟩
        have hkk := hkp.trans hk5 (fun _ _ _ h => h) (fun _ _ _ h => h)
        clear hkp hk5 hp5 h1 h2 h3 h4
        go_wp2_with fail
        go_roundw
        case rel => exact ⟨k + 1, by omega, by omega, by go_num, hkk, hn'⟩
        case measure => simp [intOf]; omega
    · have hk16 : k = 17 := by omega
      subst hk16
      go_wp2_with fail
      go_end0
      exact ⟨rfl, hkp, hpt⟩
end Go.Proofs.Ytjdjhccefnffmaa
set_option maxRecDepth 100000
set_option maxHeartbeats 400000
namespace Go.Proofs.Ytjdjhccefnffmaa
open Go LX Go.RowKit
theorem S3.drew {w : World} {b o : Nat} (h : S3 w b o) : S3 w.drew b o := ⟨h.x.drew, h.y.drew, h.z.drew⟩
/-- Room for sixteen points. -/
def STab (w : World) (b : Nat) : Prop := ∀ i, i < 16 → S3 w b (i * 12)


theorem Tab.push {w w' : World} {b k : Nat} {T : Nat → EC.Pt} (h : Tab w b k T) (hk : Kp (at_ b (k * 12) 12) w w') (hn : PtAt w' b (k * 12) (T k)) : Tab w' b (k + 1) T := fun i hi => by
  by_cases h1 : i = k
  · subst h1; exact hn
  · exact (h i (by omega)).kp hk fun j hj h => by have := h.2.1; omega
/-- Room from the k-th point on. -/
def SFrom (w : World) (b k : Nat) : Prop := ∀ i, k ≤ i → i < 16 → S3 w b (i * 12)
theorem SFrom.push {w w' : World} {b k : Nat} (h : SFrom w b k) (hk : Kp (at_ b (k * 12) 12) w w') : SFrom w' b (k + 1) := fun i hi h2 =>
  (h i (by omega) h2).kp hk fun j hj h => by have := h.2.2; omega
theorem mulT_dbl {Q : EC.Pt} (hQ : Q.Ok) (k : Nat) : (EC.Pt.mul (k + 1) Q).sum (EC.Pt.mul (k + 1) Q) = EC.Pt.mul (2 * k + 1 + 1) Q := by
  rw [← EC.Pt.mul_add hQ]; congr 1; omega
theorem c59 {w : World} {tb q1 q2 : Nat} {Q : EC.Pt} (hs : SFrom w tb 0) (hq : PtAt w q1 q2 Q) (hne : q1 ≠ tb) :
    Calls Try.prog 59 #[pt tb 0, pt q1 q2] w fun e w' => e = .returned (pt tb 0) ∧ Kp (at_ tb 0 192) w w' ∧ Tab w' tb 16 fun i => EC.Pt.mul (i + 1) Q := by
  have hQ := hq.1
  have s0 := hs 0 (by omega) (by omega)
  go_enter Try.func59, Try.ntmps59
  go_wp2_with fail
  obtain ⟨-, X, Y, Z, h1, h2⟩ := id hq
  refine (c75 s0 h1 (.inl (Ne.symm hne))).mono ?_
  rintro e w1 ⟨rfl, hk, h3⟩
  have t1 : Tab w1 tb (0 + 1) fun i => EC.Pt.mul (i + 1) Q := Tab.push (fun i hi => by omega) hk ⟨hQ, X, Y, Z, h3, h2⟩
  have s1 := hs.push hk
  have q1' := hq.kp hk fun i hi h => hne h.1
  have k1 : Kp (at_ tb 0 192) w w1 := hk.wide fun _ _ _ h => ⟨h.1, by omega, by have := h.2.2; omega⟩
  clear hs hq s0 h1 h2 h3 hk
  go_wp2_with fail
  go_loopw [5] (fun i wr => ∃ k : Nat, k ≤ 8 ∧ i = .int .i64 ((2 * k + 1 : Nat) : Int) ∧ Kp (at_ tb 0 192) w wr ∧ PtAt wr q1 q2 Q ∧ SFrom wr tb (2 * k + 1) ∧ Tab wr tb (if k = 8 then 16 else 2 * k + 1) fun i => EC.Pt.mul (i + 1) Q) (fun i _ => 18 - (intOf i).toNat)
  case atStart => exact ⟨0, by omega, rfl, k1, q1', s1, t1⟩
  case round =>
    clear k1 q1' s1 t1
    obtain ⟨k, hk8, rfl, hkp, hq, hsf, ht⟩ := hrel
    by_cases hlt : k < 8
    · rw [if_neg (by omega)] at ht
      have a1 : ((2 * k + 1 : Nat) : Int) < 16 := by omega
      have a2 : (0 : Int) ≤ ((2 * k + 1 : Nat) : Int) := by omega
      have a3 : ((2 * k + 1 : Nat) : Int).tdiv 2 = (k : Int) := by rw [Int.tdiv_eq_ediv_of_nonneg (by omega)]; omega
      have a4 : (k : Int) < 16 := by omega
      have a4' : k < 16 := by omega
      have a9 : IntKind.i64.wrap (k : Int) = (k : Int) := by rw [IntKind.wrap_i64]; omega
      have a4'' : 0 ≤ (k : Int) := by omega
      generalize hi : 2 * k + 1 = i at *
      have a8 : i < 16 := by omega
      have hs2 := (hsf i (by omega) (by omega)).drew
      have hd2 := (ht k (by omega)).drew
      have hqd := hq.drew
      go_wp2_with fail
      go_still_tail 9, (by kernel_rfl)
      go_wp2_with fail
      refine (cDbl (w := wr.drew) hs2 hd2).mono ?_
      rintro e w2 ⟨rfl, hk2, hn2⟩
      rw [mulT_dbl hQ, hi] at hn2
      replace hk2 := Kp.of_drew hk2
      replace ht := ht.push hk2 hn2
      replace hsf := hsf.push hk2
      replace hq := hq.kp hk2 fun i hi h => hne h.1
      replace hkp := hkp.trans hk2 (fun _ _ _ h => h) (fun _ _ _ h => ⟨h.1, by omega, by have := h.2.2; omega⟩)
      clear hk2 hn2 hs2 hd2 hqd
      by_cases h7 : k = 7
      · subst h7
        obtain rfl : i = 15 := by omega
        go_wp2_with fail
        go_roundw
        case rel => exact ⟨8, by omega, by go_num, hkp, hq, fun i hi h2 => by omega, ht⟩
        case measure => simp [intOf]
      · have a5 : ((i : Nat) : Int) + 1 < 16 := by omega
        have a6 : (0 : Int) ≤ ((i : Nat) : Int) + 1 := by omega
        have a7 : (((i : Nat) : Int) + 1).toNat = i + 1 := by omega
        have a9 : IntKind.i64.wrap ((i : Int) + 1) = (i : Int) + 1 := by rw [IntKind.wrap_i64]; omega
        have hs2 := (hsf (i + 1) (by omega) (by omega)).drew
        have hd2 := (ht i (by omega)).drew
        have hqd := hq.drew
        go_wp2_with fail
        go_still_tail 10, (by kernel_rfl)
        go_wp2_with fail
        refine (cAdd (w := w2.drew) hs2 hd2 hqd).mono ?_
        rintro e w3 ⟨rfl, hk2, hn2⟩
        replace hk2 := Kp.of_drew hk2
        replace ht := ht.push hk2 hn2
        replace hsf := hsf.push hk2
        replace hq := hq.kp hk2 fun i hi h => hne h.1
        replace hkp := hkp.trans hk2 (fun _ _ _ h => h) (fun _ _ _ h => ⟨h.1, by omega, by have := h.2.2; omega⟩)
        clear hk2 hn2 hs2 hd2 hqd
        go_wp2_with fail
        go_roundw
        case rel => exact ⟨k + 1, by omega, by go_num, hkp, hq, fun j hj h2 => hsf j (by omega) h2, by rw [if_neg (by omega), show 2 * (k + 1) + 1 = i + 1 + 1 by omega]; exact ht⟩
        case measure => simp [intOf]; omega
    · obtain rfl : k = 8 := by omega
      simp only [if_true] at ht
      go_wp2_with fail
      go_ret
      exact ⟨rfl, hkp, ht⟩
end Go.Proofs.Ytjdjhccefnffmaa
