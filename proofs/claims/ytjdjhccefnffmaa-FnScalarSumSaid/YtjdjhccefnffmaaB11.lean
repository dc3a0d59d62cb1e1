import Derived.Test.YtjdjhccefnffmaaB05
import Derived.Test.YtjdjhccefnffmaaB07
import Derived.Test.YtjdjhccefnffmaaB08
import Derived.Test.YtjdjhccefnffmaaB09
import Derived.Test.YtjdjhccefnffmaaB10
import Derived.Lib.Hide
import Derived.WalkKit
import Derived.RegionTactic
import Derived.Outline
import Derived.ChangeAlike
import Derived.WalkLawsBesides
import Derived.WalkSpells
import Derived.StillTailTactics
set_option linter.unusedVariables false
set_option linter.unusedSimpArgs false
namespace Go.Proofs.Ytjdjhccefnffmaa
open Go LX
/-- p256Square. -/
theorem c89 {w : World} {p q : Nat × Nat} {z0 z1 z2 z3 : Nat} {x : EC.F} (wz : W4 w p.1 p.2 z0 z1 z2 z3) (hx : El w q.1 q.2 x) :
    Calls Try.prog 89 #[ptr p, ptr q] w fun e w' => e = .returned (.tuple #[]) ∧ Kp (at_ p.1 p.2 4) w w' ∧ El w' p.1 p.2 (x * x) := by
  obtain ⟨x0, x1, x2, x3, wx, lx, vx⟩ := hx
  refine (leaf2 (b := b89) Try.func89 (by kernel_rfl) (by kernel_rfl) Try.ntmps89 (by omega) run89 ord89 sgl89 wz wx rfl rfl rfl rfl).mono ?_
  rintro e w' ⟨rfl, ρ, hρ, hk, hw, h0, h1, h2, h3⟩
  refine ⟨rfl, hk, _, _, _, _, hw, ?_⟩
  obtain ⟨g0, g1, g2, g3⟩ := w4_le wx
  subst h0 h1 h2 h3
  obtain ⟨m, ⟨k, l, hm⟩, -⟩ := ar89 hρ g0 g1 g2 g3 lx
  exact ⟨m, mont_mul hm vx vx⟩

/-- p256FromMontgomery. -/
theorem c105 {w : World} {p q : Nat × Nat} {z0 z1 z2 z3 : Nat} {x : EC.F} (wz : W4 w p.1 p.2 z0 z1 z2 z3) (hx : El w q.1 q.2 x) :
    Calls Try.prog 105 #[ptr p, ptr q] w fun e w' => e = .returned (.tuple #[]) ∧ Kp (at_ p.1 p.2 4) w w' ∧ ∃ r0 r1 r2 r3, W4 w' p.1 p.2 r0 r1 r2 r3 ∧ v4 r0 r1 r2 r3 = x.val := by
  obtain ⟨x0, x1, x2, x3, wx, lx, vx⟩ := hx
  refine (leaf2 (b := b105) Try.func105 (by kernel_rfl) (by kernel_rfl) Try.ntmps105 (by omega) run105 ord105 sgl105 wz wx rfl rfl rfl rfl).mono ?_
  rintro e w' ⟨rfl, ρ, hρ, hk, hw, h0, h1, h2, h3⟩
  refine ⟨rfl, hk, _, _, _, _, hw, ?_⟩
  obtain ⟨g0, g1, g2, g3⟩ := w4_le wx
  subst h0 h1 h2 h3
  obtain ⟨m, ⟨k, l, hm⟩, -⟩ := ar105 hρ g0 g1 g2 g3 lx
  have h := mont_F hm
  refine nF_inj m (Nat.lt_of_lt_of_eq x.isLt PN_eq) ?_
  rw [nF_of]
  refine EC.Pt.mul_cancel Rm_ne ?_
  rw [mul_comm_, h, vx, nF_one, mul_one_]

/-- p256ToMontgomery. -/
theorem c96 {w : World} {p q : Nat × Nat} {z0 z1 z2 z3 x0 x1 x2 x3 : Nat} (wz : W4 w p.1 p.2 z0 z1 z2 z3) (wx : W4 w q.1 q.2 x0 x1 x2 x3) (lx : v4 x0 x1 x2 x3 < PN) :
    Calls Try.prog 96 #[ptr p, ptr q] w fun e w' => e = .returned (.tuple #[]) ∧ Kp (at_ p.1 p.2 4) w w' ∧ El w' p.1 p.2 (nF (v4 x0 x1 x2 x3)) := by
  refine (leaf2 (b := b96) Try.func96 (by kernel_rfl) (by kernel_rfl) Try.ntmps96 (by omega) run96 ord96 sgl96 wz wx rfl rfl rfl rfl).mono ?_
  rintro e w' ⟨rfl, ρ, hρ, hk, hw, h0, h1, h2, h3⟩
  refine ⟨rfl, hk, _, _, _, _, hw, ?_⟩
  obtain ⟨g0, g1, g2, g3⟩ := w4_le wx
  subst h0 h1 h2 h3
  obtain ⟨m, ⟨k, l, hm⟩, -⟩ := ar96 hρ g0 g1 g2 g3 lx
  refine ⟨m, ?_⟩
  have h := mont_F hm
  refine EC.Pt.mul_cancel Rm_ne ?_
  rw [mul_comm_, h, show nF (v4 3 18446744056529682431 18446744073709551614 21474836477) = Rm * Rm by decide +kernel]
  exact (mul_assoc_ _ _ _).symm
end Go.Proofs.Ytjdjhccefnffmaa
namespace Go.Proofs.Ytjdjhccefnffmaa
open Go LX

/-- n bytes. -/
def By (w : World) (b o n : Nat) (f : Nat → Nat) : Prop := ∀ i, i < n → Cel w b (o + i) (.int .u8 (f i : Int)) ∧ f i < 256

/-- The number of bytes, the lowest first. -/
def num8 (f : Nat → Nat) : Nat → Nat
  | 0 => 0
  | n + 1 => f 0 + 256 * num8 (fun i => f (i + 1)) n

def m32 (r n : Nat) : List ((Nat × Nat) × SV) := (List.range 32).map fun i => ((r, i), .s .u8 (n + i))

theorem m32_mem {w : World} {ρ : Nat → Nat} {ext : Nat → Nat × Nat} {f : Nat → Nat} {B : Nat → Nat × Nat} {r n r' o : Nat} {v : SV} (h : ((r', o), v) ∈ m32 r n) (hw : By w (ext r).1 (ext r).2 32 f)
    (h0 : ∀ i, i < 32 → ρ (n + i) = f i) : r' = r ∧ Cel w (ext r').1 ((ext r').2 + o) (den B ρ v) ∧ ok ρ v := by
  simp only [m32, List.mem_map, List.mem_range, Prod.mk.injEq] at h
  obtain ⟨i, hi, ⟨rfl, rfl⟩, rfl⟩ := h
  obtain ⟨h1, h2⟩ := hw i hi
  exact ⟨rfl, by rw [den, h0 i hi]; exact h1, by rw [ok, h0 i hi]; exact h2⟩

def stTo : St := { tm := [(0, .p 0 0), (1, .p 1 0)], nx := 36, defs := [], mem := m32 0 4 ++ m4 1 0, nl := 0, bits := [] }
def stFrom : St := { tm := [(0, .p 0 0), (1, .p 1 0)], nx := 36, defs := [], mem := m4 0 32 ++ m32 1 0, nl := 0, bits := [] }
def stOne : St := { tm := [(0, .p 0 0)], nx := 4, defs := [], mem := m4 0 0, nl := 0, bits := [] }

def inT (x0 x1 x2 x3 : Nat) (f : Nat → Nat) (e : Nat) : Nat := match e with
  | 0 => x0 | 1 => x1 | 2 => x2 | 3 => x3 | k + 4 => f k
def inF (z0 z1 z2 z3 : Nat) (f : Nat → Nat) (e : Nat) : Nat := if e < 32 then f e else match e with
  | 32 => z0 | 33 => z1 | 34 => z2 | _ => z3

theorem relT {w : World} {ρ : Nat → Nat} {nt : Nat} {p q : Nat × Nat} {x0 x1 x2 x3 : Nat} {f : Nat → Nat} (hnt : 2 ≤ nt) (hz : By w p.1 p.2 32 f) (hx : W4 w q.1 q.2 x0 x1 x2 x3)
    (h : ∀ e, e < 36 → ρ e = inT x0 x1 x2 x3 f e) :
    LX.Rel ⟨2, 32, nt⟩ w ρ (ext2 p q) stTo { tmps := #[ptr p, ptr q] ++ Array.replicate (nt - 2) undef, defers := [] } w := by
  refine rel_init (by simp; omega) rfl (fun t v h => ?_) (fun r' o v h' => ?_) rfl (fun e h => by cases h) (fun r' hr => ?_)
  · simp only [stTo, List.mem_cons, Prod.mk.injEq, List.not_mem_nil, or_false] at h
    rcases h with ⟨rfl, rfl⟩ | ⟨rfl, rfl⟩
    · exact ⟨by rw [getD_front (by show _ < 2; omega)]; simp [den, base, ext2, ptr], trivial⟩
    · exact ⟨by rw [getD_front (by show _ < 2; omega)]; simp [den, base, ext2, ptr], trivial⟩
  · simp only [stTo, List.mem_append] at h'
    rcases h' with h' | h'
    · obtain ⟨rfl, h2⟩ := m32_mem (ρ := ρ) (B := base (ext2 p q) 2 w.heap.size) (ext := ext2 p q) h' hz (fun i hi => by rw [h (4 + i) (by omega), Nat.add_comm]; rfl)
      exact ⟨by show 0 < 2; omega, h2⟩
    · obtain ⟨rfl, h2⟩ := m4_mem (B := base (ext2 p q) 2 w.heap.size) (ext := ext2 p q) h' hx (h 0 (by omega)) (h 1 (by omega)) (h 2 (by omega)) (h 3 (by omega))
      exact ⟨by show 1 < 2; omega, h2⟩
  · have : r' = 0 ∨ r' = 1 := by have : r' < 2 := hr; omega
    rcases this with rfl | rfl
    · exact (hz 0 (by omega)).1.lt
    · exact hx.c0.lt

theorem relF {w : World} {ρ : Nat → Nat} {nt : Nat} {p q : Nat × Nat} {x0 x1 x2 x3 : Nat} {f : Nat → Nat} (hnt : 2 ≤ nt) (hz : W4 w p.1 p.2 x0 x1 x2 x3) (hx : By w q.1 q.2 32 f)
    (h : ∀ e, e < 36 → ρ e = inF x0 x1 x2 x3 f e) :
    LX.Rel ⟨2, 4, nt⟩ w ρ (ext2 p q) stFrom { tmps := #[ptr p, ptr q] ++ Array.replicate (nt - 2) undef, defers := [] } w := by
  refine rel_init (by simp; omega) rfl (fun t v h => ?_) (fun r' o v h' => ?_) rfl (fun e h => by cases h) (fun r' hr => ?_)
  · simp only [stFrom, List.mem_cons, Prod.mk.injEq, List.not_mem_nil, or_false] at h
    rcases h with ⟨rfl, rfl⟩ | ⟨rfl, rfl⟩
    · exact ⟨by rw [getD_front (by show _ < 2; omega)]; simp [den, base, ext2, ptr], trivial⟩
    · exact ⟨by rw [getD_front (by show _ < 2; omega)]; simp [den, base, ext2, ptr], trivial⟩
  · simp only [stFrom, List.mem_append] at h'
    rcases h' with h' | h'
    · obtain ⟨rfl, h2⟩ := m4_mem (B := base (ext2 p q) 2 w.heap.size) (ext := ext2 p q) h' hz (h 32 (by omega)) (h 33 (by omega)) (h 34 (by omega)) (h 35 (by omega))
      exact ⟨by show 0 < 2; omega, h2⟩
    · obtain ⟨rfl, h2⟩ := m32_mem (ρ := ρ) (B := base (ext2 p q) 2 w.heap.size) (ext := ext2 p q) h' hx (fun i hi => by rw [Nat.zero_add, h i (by omega)]; unfold inF; rw [if_pos hi])
      exact ⟨by show 1 < 2; omega, h2⟩
  · have : r' = 0 ∨ r' = 1 := by have : r' < 2 := hr; omega
    rcases this with rfl | rfl
    · exact hz.c0.lt
    · exact (hx 0 (by omega)).1.lt

def ext1 (p : Nat × Nat) : Nat → Nat × Nat := fun _ => p
theorem relO {w : World} {ρ : Nat → Nat} {nt : Nat} {p : Nat × Nat} {x0 x1 x2 x3 : Nat} (hnt : 1 ≤ nt) (hz : W4 w p.1 p.2 x0 x1 x2 x3) (h0 : ρ 0 = x0) (h1 : ρ 1 = x1) (h2 : ρ 2 = x2) (h3 : ρ 3 = x3) :
    LX.Rel ⟨1, 4, nt⟩ w ρ (ext1 p) stOne { tmps := #[ptr p] ++ Array.replicate (nt - 1) undef, defers := [] } w := by
  refine rel_init (by simp; omega) rfl (fun t v h => ?_) (fun r' o v h' => ?_) rfl (fun e h => by cases h) (fun r' hr => ?_)
  · simp only [stOne, List.mem_cons, Prod.mk.injEq, List.not_mem_nil, or_false] at h
    obtain ⟨rfl, rfl⟩ := h
    exact ⟨by rw [getD_front (by show _ < 1; omega)]; simp [den, base, ext1, ptr], trivial⟩
  · simp only [stOne] at h'
    obtain ⟨rfl, g⟩ := m4_mem (B := base (ext1 p) 1 w.heap.size) (ext := ext1 p) h' hz h0 h1 h2 h3
    exact ⟨by show 0 < 1; omega, g⟩
  · exact hz.c0.lt
theorem num8_32 {g : Nat → Nat} {x0 x1 x2 x3 : Nat}
    (h0 : g 0 + 256 * (g 1 + 256 * (g 2 + 256 * (g 3 + 256 * (g 4 + 256 * (g 5 + 256 * (g 6 + 256 * (g 7))))))) = x0)
    (h1 : g 8 + 256 * (g 9 + 256 * (g 10 + 256 * (g 11 + 256 * (g 12 + 256 * (g 13 + 256 * (g 14 + 256 * (g 15))))))) = x1)
    (h2 : g 16 + 256 * (g 17 + 256 * (g 18 + 256 * (g 19 + 256 * (g 20 + 256 * (g 21 + 256 * (g 22 + 256 * (g 23))))))) = x2)
    (h3 : g 24 + 256 * (g 25 + 256 * (g 26 + 256 * (g 27 + 256 * (g 28 + 256 * (g 29 + 256 * (g 30 + 256 * (g 31))))))) = x3) : num8 g 32 = v4 x0 x1 x2 x3 := by
  rw [show num8 g 32 = g 0 + 256 * (g 1 + 256 * (g 2 + 256 * (g 3 + 256 * (g 4 + 256 * (g 5 + 256 * (g 6 + 256 * (g 7 + 256 * (g 8 + 256 * (g 9 + 256 * (g 10 + 256 * (g 11 + 256 * (g 12 + 256 * (g 13 + 256 * (g 14 + 256 * (g 15 + 256 * (g 16 + 256 * (g 17 + 256 * (g 18 + 256 * (g 19 + 256 * (g 20 + 256 * (g 21 + 256 * (g 22 + 256 * (g 23 + 256 * (g 24 + 256 * (g 25 + 256 * (g 26 + 256 * (g 27 + 256 * (g 28 + 256 * (g 29 + 256 * (g 30 + 256 * (g 31 + 256 * 0))))))))))))))))))))))))))))))) from rfl]
  simp only [v4]
  subst h0 h1 h2 h3
  omega
theorem horner8 (a0 a1 a2 a3 a4 a5 a6 a7 : Nat) : a0 + 256 * (a1 + 256 * (a2 + 256 * (a3 + 256 * (a4 + 256 * (a5 + 256 * (a6 + 256 * a7)))))) =
    72057594037927936 * a7 + (281474976710656 * a6 + (1099511627776 * a5 + (4294967296 * a4 + (16777216 * a3 + (65536 * a2 + (256 * a1 + a0)))))) := by omega
theorem num8_congr {f g : Nat → Nat} : ∀ {n : Nat}, (∀ i, i < n → f i = g i) → num8 f n = num8 g n := by
  intro n
  induction n generalizing f g with
  | zero => intro _; rfl
  | succ n ih => intro h; simp only [num8]; rw [h 0 (by omega), ih fun i hi => h (i + 1) (by omega)]
theorem shl_u64 (x k n : Nat) (hx : x < 256) (hk : 256 * 2 ^ k ≤ two64) (hn : 2 ^ k = n) : x * 2 ^ k % 2 ^ Go.IntKind.u64.bits = n * x := by
  subst hn
  have h1 : (2 : Nat) ^ Go.IntKind.u64.bits = two64 := rfl
  rw [h1, Nat.mod_eq_of_lt, Nat.mul_comm]
  exact Nat.lt_of_lt_of_le (Nat.mul_lt_mul_of_pos_right hx (Nat.pow_pos (by omega))) hk
end Go.Proofs.Ytjdjhccefnffmaa
set_option maxRecDepth 100000
set_option maxHeartbeats 0
namespace Go.Proofs.Ytjdjhccefnffmaa
open Go LX
noncomputable def b88 : Code := match Try.f88.body with | some c => c | none => .skip
def d88 : List (Nat × FnS) := []
def o88 : List (Option SV) := [some (.k .u64 1), some (.k .u64 18446744069414584320), some (.k .u64 18446744073709551615), some (.k .u64 4294967294)]
theorem run88 : outcome ⟨1, 4, 14⟩ (exec env ⟨1, 4, 14⟩ b88 stOne) = some (d88, o88) := by kernel_rfl
theorem ord88 : orderly 4 d88 d88 = true := by decide +kernel
theorem sgl88 : single d88 = true := by decide +kernel
/-- p256SetOne. -/
theorem c88 {w : World} {p : Nat × Nat} {z0 z1 z2 z3 : Nat} (wz : W4 w p.1 p.2 z0 z1 z2 z3) :
    Calls Try.prog 88 #[ptr p] w fun e w' => e = .returned (.tuple #[]) ∧ Kp (at_ p.1 p.2 4) w w' ∧ El w' p.1 p.2 1 := by
  refine (leaf_call (E := env) (c := ⟨1, 4, 14⟩) (ext := ext1 p) (ρ0 := fun e => match e with | 0 => z0 | 1 => z1 | 2 => z2 | _ => z3) (n := 4) env_holds (by show 0 < 1; omega) Try.func88 (b := b88) (by kernel_rfl) (by kernel_rfl) run88 ord88 sgl88 (fun ρ h => ?_)).mono ?_
  · rw [Try.ntmps88]
    exact relO (by omega) wz (h 0 (by omega)) (h 1 (by omega)) (h 2 (by omega)) (h 3 (by omega))
  · rintro e w' ⟨rfl, ρ, h1, h2, hk, hv⟩
    refine ⟨rfl, hk, 1, 18446744069414584320, 18446744073709551615, 4294967294, ⟨(hv 0 (.k .u64 1) (by decide) rfl).1, (hv 1 (.k .u64 18446744069414584320) (by decide) rfl).1, (hv 2 (.k .u64 18446744073709551615) (by decide) rfl).1, (hv 3 (.k .u64 4294967294) (by decide) rfl).1, by decide, by decide, by decide, by decide⟩, by decide +kernel, by decide +kernel⟩

end Go.Proofs.Ytjdjhccefnffmaa
set_option maxRecDepth 100000
set_option maxHeartbeats 0
namespace Go.Proofs.Ytjdjhccefnffmaa
open Go LX
noncomputable def b91 : Code := match Try.f91.body with | some c => c | none => .skip
def d91 : List (Nat × FnS) := [(33, .cmov (.s .u64 29) (.s .u64 26) (.s .u64 18)), (32, .cmov (.s .u64 29) (.s .u64 24) (.s .u64 16)), (31, .cmov (.s .u64 29) (.s .u64 22) (.s .u64 14)), (30, .cmov (.s .u64 29) (.s .u64 20) (.s .u64 12)), (28, .sublo (.s .u64 19) (.k .u64 0) (.s .u64 27)), (29, .subb (.s .u64 19) (.k .u64 0) (.s .u64 27)), (26, .sublo (.s .u64 18) (.k .u64 18446744069414584321) (.s .u64 25)), (27, .subb (.s .u64 18) (.k .u64 18446744069414584321) (.s .u64 25)), (24, .sublo (.s .u64 16) (.k .u64 0) (.s .u64 23)), (25, .subb (.s .u64 16) (.k .u64 0) (.s .u64 23)), (22, .sublo (.s .u64 14) (.k .u64 4294967295) (.s .u64 21)), (23, .subb (.s .u64 14) (.k .u64 4294967295) (.s .u64 21)), (20, .sublo (.s .u64 12) (.k .u64 18446744073709551615) (.k .u64 0)), (21, .subb (.s .u64 12) (.k .u64 18446744073709551615) (.k .u64 0)), (18, .addlo (.s .u64 3) (.s .u64 7) (.s .u64 17)), (19, .addc (.s .u64 3) (.s .u64 7) (.s .u64 17)), (16, .addlo (.s .u64 2) (.s .u64 6) (.s .u64 15)), (17, .addc (.s .u64 2) (.s .u64 6) (.s .u64 15)), (14, .addlo (.s .u64 1) (.s .u64 5) (.s .u64 13)), (15, .addc (.s .u64 1) (.s .u64 5) (.s .u64 13)), (12, .addlo (.s .u64 0) (.s .u64 4) (.k .u64 0)), (13, .addc (.s .u64 0) (.s .u64 4) (.k .u64 0))]
def o91 : List (Option SV) := [some (.s .u64 30), some (.s .u64 31), some (.s .u64 32), some (.s .u64 33)]
theorem run91 : outcome ⟨3, 4, 139⟩ (exec env ⟨3, 4, 139⟩ b91 stIn3) = some (d91, o91) := by kernel_rfl
theorem ord91 : orderly 12 d91 d91 = true := by decide +kernel
theorem sgl91 : single d91 = true := by decide +kernel
theorem ar91 {ρ : Nat → Nat} (hρ : Hold ρ d91) (b0 : ρ 0 ≤ 18446744073709551615) (b1 : ρ 1 ≤ 18446744073709551615) (b2 : ρ 2 ≤ 18446744073709551615) (b3 : ρ 3 ≤ 18446744073709551615) (b4 : ρ 4 ≤ 18446744073709551615) (b5 : ρ 5 ≤ 18446744073709551615) (b6 : ρ 6 ≤ 18446744073709551615) (b7 : ρ 7 ≤ 18446744073709551615) (hA : v4 (ρ 0) (ρ 1) (ρ 2) (ρ 3) < PN) (hB : v4 (ρ 4) (ρ 5) (ρ 6) (ρ 7) < PN) : v4 (ρ 30) (ρ 31) (ρ 32) (ρ 33) < PN ∧ (v4 (ρ 30) (ρ 31) (ρ 32) (ρ 33) = v4 (ρ 0) (ρ 1) (ρ 2) (ρ 3) + v4 (ρ 4) (ρ 5) (ρ 6) (ρ 7) ∨ v4 (ρ 30) (ρ 31) (ρ 32) (ρ 33) + PN = v4 (ρ 0) (ρ 1) (ρ 2) (ρ 3) + v4 (ρ 4) (ρ 5) (ρ 6) (ρ 7)) := by
  have h33 := hρ.1; replace hρ := hρ.2
  have h32 := hρ.1; replace hρ := hρ.2
  have h31 := hρ.1; replace hρ := hρ.2
  have h30 := hρ.1; replace hρ := hρ.2
  have h28 := hρ.1; replace hρ := hρ.2
  have h29 := hρ.1; replace hρ := hρ.2
  have h26 := hρ.1; replace hρ := hρ.2
  have h27 := hρ.1; replace hρ := hρ.2
  have h24 := hρ.1; replace hρ := hρ.2
  have h25 := hρ.1; replace hρ := hρ.2
  have h22 := hρ.1; replace hρ := hρ.2
  have h23 := hρ.1; replace hρ := hρ.2
  have h20 := hρ.1; replace hρ := hρ.2
  have h21 := hρ.1; replace hρ := hρ.2
  have h18 := hρ.1; replace hρ := hρ.2
  have h19 := hρ.1; replace hρ := hρ.2
  have h16 := hρ.1; replace hρ := hρ.2
  have h17 := hρ.1; replace hρ := hρ.2
  have h14 := hρ.1; replace hρ := hρ.2
  have h15 := hρ.1; replace hρ := hρ.2
  have h12 := hρ.1; replace hρ := hρ.2
  have h13 := hρ.1; replace hρ := hρ.2
  clear hρ
  have e12 : ρ 12 + 18446744073709551616 * ρ 13 = ρ 0 + ρ 4 + 0 := addE h12 h13
  have b12 : ρ 12 ≤ 18446744073709551615 := addB h12
  have b13 : ρ 13 ≤ 1 := addC h13 b0 b4 (Nat.le_refl 0) 1 (by decide)
  have e14 : ρ 14 + 18446744073709551616 * ρ 15 = ρ 1 + ρ 5 + ρ 13 := addE h14 h15
  have b14 : ρ 14 ≤ 18446744073709551615 := addB h14
  have b15 : ρ 15 ≤ 1 := addC h15 b1 b5 b13 1 (by decide)
  have e16 : ρ 16 + 18446744073709551616 * ρ 17 = ρ 2 + ρ 6 + ρ 15 := addE h16 h17
  have b16 : ρ 16 ≤ 18446744073709551615 := addB h16
  have b17 : ρ 17 ≤ 1 := addC h17 b2 b6 b15 1 (by decide)
  have e18 : ρ 18 + 18446744073709551616 * ρ 19 = ρ 3 + ρ 7 + ρ 17 := addE h18 h19
  have b18 : ρ 18 ≤ 18446744073709551615 := addB h18
  have b19 : ρ 19 ≤ 1 := addC h19 b3 b7 b17 1 (by decide)
  have hs : v4 (ρ 12) (ρ 14) (ρ 16) (ρ 18) + RN * ρ 19 = v4 (ρ 0) (ρ 1) (ρ 2) (ρ 3) + v4 (ρ 4) (ρ 5) (ρ 6) (ρ 7) := sum4 e12 e14 e16 e18
  have hc := csub (a0 := ρ 12) (a1 := ρ 14) (a2 := ρ 16) (a3 := ρ 18) (a4 := ρ 19) (s0 := ρ 20) (t0 := ρ 21) (s1 := ρ 22) (t1 := ρ 23) (s2 := ρ 24) (t2 := ρ 25) (s3 := ρ 26) (t3 := ρ 27) (s4 := ρ 28) (t4 := ρ 29) (r0 := ρ 30) (r1 := ρ 31) (r2 := ρ 32) (r3 := ρ 33)
    b12 b14 b16 b18 (Nat.le_trans b19 (by decide)) h20 h21 h22 h23 h24 h25 h26 h27 h28 h29 h30 h31 h32 h33 (by rw [hs]; omega)
  rw [hs] at hc
  exact ⟨hc.1, hc.2.1⟩
theorem c91 {w : World} {p q r : Nat × Nat} {z0 z1 z2 z3 : Nat} {x y : EC.F} (wz : W4 w p.1 p.2 z0 z1 z2 z3) (hx : El w q.1 q.2 x) (hy : El w r.1 r.2 y) :
    Calls Try.prog 91 #[ptr p, ptr q, ptr r] w fun e w' => e = .returned (.tuple #[]) ∧ Kp (at_ p.1 p.2 4) w w' ∧ El w' p.1 p.2 (x + y) := by
  obtain ⟨x0, x1, x2, x3, wx, lx, vx⟩ := hx
  obtain ⟨y0, y1, y2, y3, wy, ly, vy⟩ := hy
  refine (leaf3 (b := b91) Try.func91 (by kernel_rfl) (by kernel_rfl) Try.ntmps91 (by omega) run91 ord91 sgl91 wz wx wy rfl rfl rfl rfl).mono ?_
  rintro e w' ⟨rfl, ρ, hρ, hk, hw, h0, h1, h2, h3, h4, h5, h6, h7⟩
  refine ⟨rfl, hk, _, _, _, _, hw, ?_⟩
  obtain ⟨g0, g1, g2, g3⟩ := w4_le wx
  obtain ⟨g4, g5, g6, g7⟩ := w4_le wy
  subst h0 h1 h2 h3 h4 h5 h6 h7
  obtain ⟨m, hm⟩ := ar91 hρ g0 g1 g2 g3 g4 g5 g6 g7 lx ly
  refine ⟨m, ?_⟩
  have hq : nF (v4 (ρ 30) (ρ 31) (ρ 32) (ρ 33)) = nF (v4 (ρ 0) (ρ 1) (ρ 2) (ρ 3)) + nF (v4 (ρ 4) (ρ 5) (ρ 6) (ρ 7)) := by
    rcases hm with hm | hm
    · rw [hm, nF_add]
    · have := congrArg nF hm
      rw [nF_add, nF_add, nF_P, EC.f_az] at this
      exact this
  rw [hq, vx, vy]
  grind -lia -linarith

end Go.Proofs.Ytjdjhccefnffmaa
set_option maxRecDepth 100000
set_option maxHeartbeats 0
namespace Go.Proofs.Ytjdjhccefnffmaa
open Go LX
noncomputable def b92 : Code := match Try.f92.body with | some c => c | none => .skip
def d92 : List (Nat × FnS) := [(29, .addlo (.s .u64 18) (.s .u64 28) (.s .u64 27)), (30, .addc (.s .u64 18) (.s .u64 28) (.s .u64 27)), (28, .bin .and .u64 (.s .u64 20) (.k .u64 18446744069414584321)), (26, .addlo (.s .u64 16) (.k .u64 0) (.s .u64 25)), (27, .addc (.s .u64 16) (.k .u64 0) (.s .u64 25)), (24, .addlo (.s .u64 14) (.s .u64 23) (.s .u64 22)), (25, .addc (.s .u64 14) (.s .u64 23) (.s .u64 22)), (23, .bin .and .u64 (.s .u64 20) (.k .u64 4294967295)), (21, .addlo (.s .u64 12) (.s .u64 20) (.k .u64 0)), (22, .addc (.s .u64 12) (.s .u64 20) (.k .u64 0)), (20, .cmov (.s .u64 19) (.k .u64 0) (.k .u64 18446744073709551615)), (18, .sublo (.s .u64 3) (.s .u64 7) (.s .u64 17)), (19, .subb (.s .u64 3) (.s .u64 7) (.s .u64 17)), (16, .sublo (.s .u64 2) (.s .u64 6) (.s .u64 15)), (17, .subb (.s .u64 2) (.s .u64 6) (.s .u64 15)), (14, .sublo (.s .u64 1) (.s .u64 5) (.s .u64 13)), (15, .subb (.s .u64 1) (.s .u64 5) (.s .u64 13)), (12, .sublo (.s .u64 0) (.s .u64 4) (.k .u64 0)), (13, .subb (.s .u64 0) (.s .u64 4) (.k .u64 0))]
def o92 : List (Option SV) := [some (.s .u64 21), some (.s .u64 24), some (.s .u64 26), some (.s .u64 29)]
theorem run92 : outcome ⟨3, 4, 119⟩ (exec env ⟨3, 4, 119⟩ b92 stIn3) = some (d92, o92) := by kernel_rfl
theorem ord92 : orderly 12 d92 d92 = true := by decide +kernel
theorem sgl92 : single d92 = true := by decide +kernel
theorem ar92 {ρ : Nat → Nat} (hρ : Hold ρ d92) (b0 : ρ 0 ≤ 18446744073709551615) (b1 : ρ 1 ≤ 18446744073709551615) (b2 : ρ 2 ≤ 18446744073709551615) (b3 : ρ 3 ≤ 18446744073709551615) (b4 : ρ 4 ≤ 18446744073709551615) (b5 : ρ 5 ≤ 18446744073709551615) (b6 : ρ 6 ≤ 18446744073709551615) (b7 : ρ 7 ≤ 18446744073709551615) (hA : v4 (ρ 0) (ρ 1) (ρ 2) (ρ 3) < PN) (hB : v4 (ρ 4) (ρ 5) (ρ 6) (ρ 7) < PN) : v4 (ρ 21) (ρ 24) (ρ 26) (ρ 29) < PN ∧ (v4 (ρ 21) (ρ 24) (ρ 26) (ρ 29) + v4 (ρ 4) (ρ 5) (ρ 6) (ρ 7) = v4 (ρ 0) (ρ 1) (ρ 2) (ρ 3) ∨ v4 (ρ 21) (ρ 24) (ρ 26) (ρ 29) + v4 (ρ 4) (ρ 5) (ρ 6) (ρ 7) = v4 (ρ 0) (ρ 1) (ρ 2) (ρ 3) + PN) := by
  have h29 := hρ.1; replace hρ := hρ.2
  have h30 := hρ.1; replace hρ := hρ.2
  have h28 := hρ.1; replace hρ := hρ.2
  have h26 := hρ.1; replace hρ := hρ.2
  have h27 := hρ.1; replace hρ := hρ.2
  have h24 := hρ.1; replace hρ := hρ.2
  have h25 := hρ.1; replace hρ := hρ.2
  have h23 := hρ.1; replace hρ := hρ.2
  have h21 := hρ.1; replace hρ := hρ.2
  have h22 := hρ.1; replace hρ := hρ.2
  have h20 := hρ.1; replace hρ := hρ.2
  have h18 := hρ.1; replace hρ := hρ.2
  have h19 := hρ.1; replace hρ := hρ.2
  have h16 := hρ.1; replace hρ := hρ.2
  have h17 := hρ.1; replace hρ := hρ.2
  have h14 := hρ.1; replace hρ := hρ.2
  have h15 := hρ.1; replace hρ := hρ.2
  have h12 := hρ.1; replace hρ := hρ.2
  have h13 := hρ.1; replace hρ := hρ.2
  clear hρ
  obtain ⟨e12, b13, b12⟩ := subE (lo := ρ 12) (x := ρ 0) (y := ρ 4) (c := 0) (hi := ρ 13) h12 h13 b0 b4 (by decide)
  obtain ⟨e14, b15, b14⟩ := subE (lo := ρ 14) (x := ρ 1) (y := ρ 5) (c := ρ 13) (hi := ρ 15) h14 h15 b1 b5 b13
  obtain ⟨e16, b17, b16⟩ := subE (lo := ρ 16) (x := ρ 2) (y := ρ 6) (c := ρ 15) (hi := ρ 17) h16 h17 b2 b6 b15
  obtain ⟨e18, b19, b18⟩ := subE (lo := ρ 18) (x := ρ 3) (y := ρ 7) (c := ρ 17) (hi := ρ 19) h18 h19 b3 b7 b17
  have hx : (ρ 19 = 0 ∧ ρ 20 = 0 ∧ ρ 23 = 0 ∧ ρ 28 = 0) ∨ (ρ 19 = 1 ∧ ρ 20 = 18446744073709551615 ∧ ρ 23 = 4294967295 ∧ ρ 28 = 18446744069414584321) := by
    replace h20 : ρ 20 = if ρ 19 = 0 then 0 else 18446744073709551615 := h20
    replace h23 : ρ 23 = ρ 20 &&& 4294967295 := h23
    replace h28 : ρ 28 = ρ 20 &&& 18446744069414584321 := h28
    have : ρ 19 = 0 ∨ ρ 19 = 1 := by omega
    rcases this with h | h <;> rw [h] at h20 <;> simp at h20 <;> rw [h20] at h23 h28
    · exact .inl ⟨h, h20, by rw [h23]; decide, by rw [h28]; decide⟩
    · exact .inr ⟨h, h20, by rw [h23]; decide, by rw [h28]; decide⟩
  have e21 : ρ 21 + 18446744073709551616 * ρ 22 = ρ 12 + ρ 20 + 0 := addE h21 h22
  have e24 : ρ 24 + 18446744073709551616 * ρ 25 = ρ 14 + ρ 23 + ρ 22 := addE h24 h25
  have e26 : ρ 26 + 18446744073709551616 * ρ 27 = ρ 16 + 0 + ρ 25 := addE h26 h27
  have e29 : ρ 29 + 18446744073709551616 * ρ 30 = ρ 18 + ρ 28 + ρ 27 := addE h29 h30
  have l21 : ρ 21 ≤ 18446744073709551615 := addB h21
  have l24 : ρ 24 ≤ 18446744073709551615 := addB h24
  have l26 : ρ 26 ≤ 18446744073709551615 := addB h26
  have l29 : ρ 29 ≤ 18446744073709551615 := addB h29
  have s1 : v4 (ρ 12) (ρ 14) (ρ 16) (ρ 18) + v4 (ρ 4) (ρ 5) (ρ 6) (ρ 7) = v4 (ρ 0) (ρ 1) (ρ 2) (ρ 3) + RN * ρ 19 := dif4 e12 e14 e16 e18
  have s2 : v4 (ρ 21) (ρ 24) (ρ 26) (ρ 29) + RN * ρ 30 = v4 (ρ 12) (ρ 14) (ρ 16) (ρ 18) + v4 (ρ 20) (ρ 23) 0 (ρ 28) := sum4 e21 e24 e26 e29
  have l1 : v4 (ρ 12) (ρ 14) (ρ 16) (ρ 18) < RN := v4_lt b12 b14 b16 b18
  have l2 : v4 (ρ 21) (ρ 24) (ρ 26) (ρ 29) < RN := v4_lt l21 l24 l26 l29
  have hm : v4 (ρ 20) (ρ 23) 0 (ρ 28) = PN * ρ 19 := by
    rcases hx with ⟨x1, x2, x3, x4⟩ | ⟨x1, x2, x3, x4⟩ <;> rw [x1, x2, x3, x4] <;> decide +kernel
  rw [hm] at s2
  exact sub_fin hA hB s1 s2 l1 l2 (by rcases hx with ⟨x1, -⟩ | ⟨x1, -⟩ <;> omega)
theorem c92 {w : World} {p q r : Nat × Nat} {z0 z1 z2 z3 : Nat} {x y : EC.F} (wz : W4 w p.1 p.2 z0 z1 z2 z3) (hx : El w q.1 q.2 x) (hy : El w r.1 r.2 y) :
    Calls Try.prog 92 #[ptr p, ptr q, ptr r] w fun e w' => e = .returned (.tuple #[]) ∧ Kp (at_ p.1 p.2 4) w w' ∧ El w' p.1 p.2 (x - y) := by
  obtain ⟨x0, x1, x2, x3, wx, lx, vx⟩ := hx
  obtain ⟨y0, y1, y2, y3, wy, ly, vy⟩ := hy
  refine (leaf3 (b := b92) Try.func92 (by kernel_rfl) (by kernel_rfl) Try.ntmps92 (by omega) run92 ord92 sgl92 wz wx wy rfl rfl rfl rfl).mono ?_
  rintro e w' ⟨rfl, ρ, hρ, hk, hw, h0, h1, h2, h3, h4, h5, h6, h7⟩
  refine ⟨rfl, hk, _, _, _, _, hw, ?_⟩
  obtain ⟨g0, g1, g2, g3⟩ := w4_le wx
  obtain ⟨g4, g5, g6, g7⟩ := w4_le wy
  subst h0 h1 h2 h3 h4 h5 h6 h7
  obtain ⟨m, hm⟩ := ar92 hρ g0 g1 g2 g3 g4 g5 g6 g7 lx ly
  refine ⟨m, ?_⟩
  have hq : nF (v4 (ρ 21) (ρ 24) (ρ 26) (ρ 29)) + nF (v4 (ρ 4) (ρ 5) (ρ 6) (ρ 7)) = nF (v4 (ρ 0) (ρ 1) (ρ 2) (ρ 3)) := by
    rcases hm with hm | hm
    · rw [← nF_add, hm]
    · rw [← nF_add, hm, nF_add, nF_P, EC.f_az]
  rw [vx, vy] at hq
  grind -lia -linarith

end Go.Proofs.Ytjdjhccefnffmaa
set_option maxRecDepth 100000
set_option maxHeartbeats 0
namespace Go.Proofs.Ytjdjhccefnffmaa
open Go LX
def stSel : St := { tm := [(0, .p 0 0), (1, .s .u64 12), (2, .p 1 0), (3, .p 2 0)], nx := 13, defs := [], mem := m4 0 8 ++ (m4 1 0 ++ m4 2 4), nl := 0, bits := [12] }
def inS (c z0 z1 z2 z3 x0 x1 x2 x3 y0 y1 y2 y3 : Nat) : Nat → Nat
  | 0 => x0 | 1 => x1 | 2 => x2 | 3 => x3 | 4 => y0 | 5 => y1 | 6 => y2 | 7 => y3 | 8 => z0 | 9 => z1 | 10 => z2 | 11 => z3 | _ => c
theorem relS {w : World} {ρ : Nat → Nat} {nt c : Nat} {p q r : Nat × Nat} {z0 z1 z2 z3 x0 x1 x2 x3 y0 y1 y2 y3 : Nat} (hnt : 4 ≤ nt) (hc : c ≤ 1) (hz : W4 w p.1 p.2 z0 z1 z2 z3) (hx : W4 w q.1 q.2 x0 x1 x2 x3) (hy : W4 w r.1 r.2 y0 y1 y2 y3)
    (e0 : ρ 0 = x0) (e1 : ρ 1 = x1) (e2 : ρ 2 = x2) (e3 : ρ 3 = x3) (e4 : ρ 4 = y0) (e5 : ρ 5 = y1) (e6 : ρ 6 = y2) (e7 : ρ 7 = y3) (e8 : ρ 8 = z0) (e9 : ρ 9 = z1) (e10 : ρ 10 = z2) (e11 : ρ 11 = z3) (e12 : ρ 12 = c) :
    LX.Rel ⟨3, 4, nt⟩ w ρ (ext3 p q r) stSel { tmps := #[ptr p, .int .u64 (c : Int), ptr q, ptr r] ++ Array.replicate (nt - 4) undef, defers := [] } w := by
  refine rel_init (by simp; omega) rfl (fun t v h => ?_) (fun r' o v h => ?_) rfl (fun e h => ?_) (fun r' hr => ?_)
  · simp only [stSel, List.mem_cons, Prod.mk.injEq, List.not_mem_nil, or_false] at h
    rcases h with ⟨rfl, rfl⟩ | ⟨rfl, rfl⟩ | ⟨rfl, rfl⟩ | ⟨rfl, rfl⟩
    · exact ⟨by rw [getD_front (by show _ < 4; omega)]; simp [den, base, ext3, ptr], trivial⟩
    · exact ⟨by rw [getD_front (by show _ < 4; omega)]; simp [den, e12], by rw [ok, e12, pow_u64]; simp only [two64]; omega⟩
    · exact ⟨by rw [getD_front (by show _ < 4; omega)]; simp [den, base, ext3, ptr], trivial⟩
    · exact ⟨by rw [getD_front (by show _ < 4; omega)]; simp [den, base, ext3, ptr], trivial⟩
  · simp only [stSel, List.mem_append] at h
    rcases h with h | h | h
    · obtain ⟨rfl, h2⟩ := m4_mem (B := base (ext3 p q r) 3 w.heap.size) (ext := ext3 p q r) h hz e8 e9 e10 e11
      exact ⟨by show 0 < 3; omega, h2⟩
    · obtain ⟨rfl, h2⟩ := m4_mem (B := base (ext3 p q r) 3 w.heap.size) (ext := ext3 p q r) h hx e0 e1 e2 e3
      exact ⟨by show 1 < 3; omega, h2⟩
    · obtain ⟨rfl, h2⟩ := m4_mem (B := base (ext3 p q r) 3 w.heap.size) (ext := ext3 p q r) h hy e4 e5 e6 e7
      exact ⟨by show 2 < 3; omega, h2⟩
  · have : e = 12 := by
      simp only [stSel, mem1, Bool.or_false] at h
      exact (beq_eq h).symm
    subst this; rw [e12]; exact hc
  · have : r' = 0 ∨ r' = 1 ∨ r' = 2 := by have : r' < 3 := hr; omega
    rcases this with rfl | rfl | rfl
    · exact hz.c0.lt
    · exact hx.c0.lt
    · exact hy.c0.lt

noncomputable def b100 : Code := match Try.f100.body with | some c => c | none => .skip
def d100 : List (Nat × FnS) := [(16, .cmov (.s .u64 12) (.s .u64 3) (.s .u64 7)), (15, .cmov (.s .u64 12) (.s .u64 2) (.s .u64 6)), (14, .cmov (.s .u64 12) (.s .u64 1) (.s .u64 5)), (13, .cmov (.s .u64 12) (.s .u64 0) (.s .u64 4))]
def o100 : List (Option SV) := [some (.s .u64 13), some (.s .u64 14), some (.s .u64 15), some (.s .u64 16)]
theorem run100 : outcome ⟨3, 4, 68⟩ (exec env ⟨3, 4, 68⟩ b100 stSel) = some (d100, o100) := by kernel_rfl
theorem ord100 : orderly 13 d100 d100 = true := by decide +kernel
theorem sgl100 : single d100 = true := by decide +kernel
/-- p256Selectznz. -/
theorem c100 {w : World} {p q r : Nat × Nat} {z0 z1 z2 z3 c : Nat} {x y : EC.F} (hc : c ≤ 1) (wz : W4 w p.1 p.2 z0 z1 z2 z3) (hx : El w q.1 q.2 x) (hy : El w r.1 r.2 y) :
    Calls Try.prog 100 #[ptr p, .int .u64 (c : Int), ptr q, ptr r] w fun e w' => e = .returned (.tuple #[]) ∧ Kp (at_ p.1 p.2 4) w w' ∧ El w' p.1 p.2 (if c = 0 then x else y) := by
  obtain ⟨x0, x1, x2, x3, wx, lx, vx⟩ := hx
  obtain ⟨y0, y1, y2, y3, wy, ly, vy⟩ := hy
  refine (leaf_call (E := env) (c := ⟨3, 4, 68⟩) (ext := ext3 p q r) (ρ0 := inS c z0 z1 z2 z3 x0 x1 x2 x3 y0 y1 y2 y3) (n := 13) env_holds (by show 0 < 3; omega) Try.func100 (b := b100) (by kernel_rfl) (by kernel_rfl) run100 ord100 sgl100 (fun ρ h => ?_)).mono ?_
  · rw [Try.ntmps100]
    exact relS (by omega) hc wz wx wy (h 0 (by omega)) (h 1 (by omega)) (h 2 (by omega)) (h 3 (by omega)) (h 4 (by omega)) (h 5 (by omega)) (h 6 (by omega)) (h 7 (by omega)) (h 8 (by omega)) (h 9 (by omega)) (h 10 (by omega)) (h 11 (by omega)) (h 12 (by omega))
  · rintro e w' ⟨rfl, ρ, h1, h2, hk, hv⟩
    refine ⟨rfl, hk, _, _, _, _, w4_out hv rfl rfl rfl rfl, ?_⟩
    have hρ := h2.hold
    have g0 : ρ 0 = x0 := h1 0 (by omega)
    have g1 : ρ 1 = x1 := h1 1 (by omega)
    have g2 : ρ 2 = x2 := h1 2 (by omega)
    have g3 : ρ 3 = x3 := h1 3 (by omega)
    have g4 : ρ 4 = y0 := h1 4 (by omega)
    have g5 : ρ 5 = y1 := h1 5 (by omega)
    have g6 : ρ 6 = y2 := h1 6 (by omega)
    have g7 : ρ 7 = y3 := h1 7 (by omega)
    have g12 : ρ 12 = c := h1 12 (by omega)
    have k16 : ρ 16 = if ρ 12 = 0 then ρ 3 else ρ 7 := hρ.1
    have k15 : ρ 15 = if ρ 12 = 0 then ρ 2 else ρ 6 := hρ.2.1
    have k14 : ρ 14 = if ρ 12 = 0 then ρ 1 else ρ 5 := hρ.2.2.1
    have k13 : ρ 13 = if ρ 12 = 0 then ρ 0 else ρ 4 := hρ.2.2.2.1
    rw [k13, k14, k15, k16, g0, g1, g2, g3, g4, g5, g6, g7, g12]
    by_cases h : c = 0
    · simp only [h, if_true]; exact ⟨lx, vx⟩
    · simp only [h, if_false]; exact ⟨ly, vy⟩

end Go.Proofs.Ytjdjhccefnffmaa
set_option maxRecDepth 100000
set_option maxHeartbeats 1000000
namespace Go.Proofs.Ytjdjhccefnffmaa
open Go LX Go.RowKit
theorem LX.W4.kp {w w' : World} {b o x0 x1 x2 x3 : Nat} {S : Nat → Nat → Prop} (h : W4 w b o x0 x1 x2 x3) (hk : Kp S w w') (hS : ∀ i, i < 4 → ¬ S b (o + i)) : W4 w' b o x0 x1 x2 x3 :=
  ⟨h.c0.kp hk (hS 0 (by omega)), h.c1.kp hk (hS 1 (by omega)), h.c2.kp hk (hS 2 (by omega)), h.c3.kp hk (hS 3 (by omega)), h.l0, h.l1, h.l2, h.l3⟩
theorem LX.W4.drew {w : World} {b o x0 x1 x2 x3 : Nat} (h : W4 w b o x0 x1 x2 x3) : W4 w.drew b o x0 x1 x2 x3 := ⟨h.c0, h.c1, h.c2, h.c3, h.l0, h.l1, h.l2, h.l3⟩
theorem El.kp {w w' : World} {b o : Nat} {x : EC.F} {S : Nat → Nat → Prop} (h : El w b o x) (hk : Kp S w w') (hS : ∀ i, i < 4 → ¬ S b (o + i)) : El w' b o x := by
  obtain ⟨a0, a1, a2, a3, h1, h2⟩ := h
  exact ⟨a0, a1, a2, a3, h1.kp hk hS, h2⟩
theorem El.drew {w : World} {b o : Nat} {x : EC.F} (h : El w b o x) : El w.drew b o x := by
  obtain ⟨a0, a1, a2, a3, h1, h2⟩ := h
  exact ⟨a0, a1, a2, a3, h1.drew, h2⟩
/-- Four words that may be written. -/
def Sp (w : World) (b o : Nat) : Prop := ∃ x0 x1 x2 x3, W4 w b o x0 x1 x2 x3
theorem El.sp {w : World} {b o : Nat} {x : EC.F} (h : El w b o x) : Sp w b o := by
  obtain ⟨a0, a1, a2, a3, h1, h2⟩ := h
  exact ⟨a0, a1, a2, a3, h1⟩
theorem Kp.of_drew {S : Nat → Nat → Prop} {w w' : World} (h : Kp S w.drew w') : Kp S w w' := ⟨h.os, h.tape, h.output, h.size, h.block, h.cell, h.frozen, h.shape⟩
theorem c67 {w : World} {p q r : Nat × Nat} {x y : EC.F} (wz : Sp w p.1 p.2) (hq : El w q.1 q.2 x) (hr : El w r.1 r.2 y) :
    Calls Try.prog 67 #[ptr p, ptr q, ptr r] w fun e w' => e = .returned (ptr p) ∧ Kp (at_ p.1 p.2 4) w w' ∧ El w' p.1 p.2 (x * y) := by
  obtain ⟨p1, p2⟩ := p; obtain ⟨q1, q2⟩ := q; obtain ⟨r1, r2⟩ := r
  obtain ⟨z0, z1, z2, z3, wz⟩ := wz
  simp only [ptr] at *
  go_enter Try.func67, Try.ntmps67
  go_wp2_with fail
  go_still_tail 9, (by kernel_rfl)
  go_wp2_with fail
  refine (c90 (p := (p1, p2)) (q := (q1, q2)) (r := (r1, r2)) (w := w.drew) wz.drew hq.drew hr.drew).mono ?_
  rintro e w' ⟨rfl, hk, he⟩
  go_wp2_with fail
  go_ret
  exact ⟨rfl, Kp.of_drew hk, he⟩
theorem c68 {w : World} {p q r : Nat × Nat} {x y : EC.F} (wz : Sp w p.1 p.2) (hq : El w q.1 q.2 x) (hr : El w r.1 r.2 y) :
    Calls Try.prog 68 #[ptr p, ptr q, ptr r] w fun e w' => e = .returned (ptr p) ∧ Kp (at_ p.1 p.2 4) w w' ∧ El w' p.1 p.2 (x + y) := by
  obtain ⟨p1, p2⟩ := p; obtain ⟨q1, q2⟩ := q; obtain ⟨r1, r2⟩ := r
  obtain ⟨z0, z1, z2, z3, wz⟩ := wz
  simp only [ptr] at *
  go_enter Try.func68, Try.ntmps68
  go_wp2_with fail
  go_still_tail 9, (by kernel_rfl)
  go_wp2_with fail
  refine (c91 (p := (p1, p2)) (q := (q1, q2)) (r := (r1, r2)) (w := w.drew) wz.drew hq.drew hr.drew).mono ?_
  rintro e w' ⟨rfl, hk, he⟩
  go_wp2_with fail
  go_ret
  exact ⟨rfl, Kp.of_drew hk, he⟩
theorem c70 {w : World} {p q r : Nat × Nat} {x y : EC.F} (wz : Sp w p.1 p.2) (hq : El w q.1 q.2 x) (hr : El w r.1 r.2 y) :
    Calls Try.prog 70 #[ptr p, ptr q, ptr r] w fun e w' => e = .returned (ptr p) ∧ Kp (at_ p.1 p.2 4) w w' ∧ El w' p.1 p.2 (x - y) := by
  obtain ⟨p1, p2⟩ := p; obtain ⟨q1, q2⟩ := q; obtain ⟨r1, r2⟩ := r
  obtain ⟨z0, z1, z2, z3, wz⟩ := wz
  simp only [ptr] at *
  go_enter Try.func70, Try.ntmps70
  go_wp2_with fail
  go_still_tail 9, (by kernel_rfl)
  go_wp2_with fail
  refine (c92 (p := (p1, p2)) (q := (q1, q2)) (r := (r1, r2)) (w := w.drew) wz.drew hq.drew hr.drew).mono ?_
  rintro e w' ⟨rfl, hk, he⟩
  go_wp2_with fail
  go_ret
  exact ⟨rfl, Kp.of_drew hk, he⟩
theorem c66 {w : World} {p q : Nat × Nat} {x : EC.F} (wz : Sp w p.1 p.2) (hq : El w q.1 q.2 x) :
    Calls Try.prog 66 #[ptr p, ptr q] w fun e w' => e = .returned (ptr p) ∧ Kp (at_ p.1 p.2 4) w w' ∧ El w' p.1 p.2 (x * x) := by
  obtain ⟨p1, p2⟩ := p; obtain ⟨q1, q2⟩ := q
  obtain ⟨z0, z1, z2, z3, wz⟩ := wz
  simp only [ptr] at *
  go_enter Try.func66, Try.ntmps66
  go_wp2_with fail
  go_still_tail 6, (by kernel_rfl)
  go_wp2_with fail
  refine (c89 (p := (p1, p2)) (q := (q1, q2)) (w := w.drew) wz.drew hq.drew).mono ?_
  rintro e w' ⟨rfl, hk, he⟩
  go_wp2_with fail
  go_ret
  exact ⟨rfl, Kp.of_drew hk, he⟩
theorem c65 {w : World} {p : Nat × Nat} (wz : Sp w p.1 p.2)  :
    Calls Try.prog 65 #[ptr p] w fun e w' => e = .returned (ptr p) ∧ Kp (at_ p.1 p.2 4) w w' ∧ El w' p.1 p.2 (1) := by
  obtain ⟨p1, p2⟩ := p
  obtain ⟨z0, z1, z2, z3, wz⟩ := wz
  simp only [ptr] at *
  go_enter Try.func65, Try.ntmps65
  go_wp2_with fail
  refine (c88 (p := (p1, p2)) (w := w) wz ).mono ?_
  rintro e w' ⟨rfl, hk, he⟩
  go_wp2_with fail
  go_ret
  exact ⟨rfl, hk, he⟩
/-- The one or the other. -/
def selF (c : Nat) (x y : EC.F) : EC.F := if c = 0 then y else x
theorem c81 {w : World} {p q r : Nat × Nat} {c : Nat} {x y : EC.F} (hc : c ≤ 1) (wz : Sp w p.1 p.2) (hx : El w q.1 q.2 x) (hy : El w r.1 r.2 y) :
    Calls Try.prog 81 #[ptr p, ptr q, ptr r, .int .i64 (c : Int)] w fun e w' => e = .returned (ptr p) ∧ Kp (at_ p.1 p.2 4) w w' ∧ El w' p.1 p.2 (selF c x y) := by
  obtain ⟨p1, p2⟩ := p; obtain ⟨q1, q2⟩ := q; obtain ⟨r1, r2⟩ := r
  obtain ⟨z0, z1, z2, z3, wz⟩ := wz
  have h0 : (0 : Int) ≤ (c : Int) := by omega
  have h1 : (c : Int) ≤ 1 := by omega
  simp only [ptr] at *
  go_enter Try.func81, Try.ntmps81
  go_wp2_with fail
  go_still_tail 11, (by kernel_rfl)
  go_wp2_with fail
  refine (c100 (p := (p1, p2)) (q := (r1, r2)) (r := (q1, q2)) (w := w.drew) hc wz.drew hy.drew hx.drew).mono ?_
  rintro e w' ⟨rfl, hk, he⟩
  go_wp2_with fail
  go_ret
  exact ⟨rfl, Kp.of_drew hk, he⟩
theorem c71 {w : World} {p q : Nat × Nat} {x : EC.F} (wz : Sp w p.1 p.2) (hx : El w q.1 q.2 x) :
    Calls Try.prog 71 #[ptr p, ptr q] w fun e w' => e = .returned (ptr p) ∧ Kp (at_ p.1 p.2 4) w w' ∧ El w' p.1 p.2 x := by
  obtain ⟨p1, p2⟩ := p; obtain ⟨q1, q2⟩ := q
  obtain ⟨z0, z1, z2, z3, wz⟩ := wz
  obtain ⟨x0, x1, x2, x3, hw, hl, hv⟩ := hx
  obtain ⟨cq0, -⟩ := hw.c0; obtain ⟨cq1, -⟩ := hw.c1; obtain ⟨cq2, -⟩ := hw.c2; obtain ⟨cq3, -⟩ := hw.c3
  obtain ⟨cp0, fp0⟩ := wz.c0; obtain ⟨cp1, fp1⟩ := wz.c1; obtain ⟨cp2, fp2⟩ := wz.c2; obtain ⟨cp3, fp3⟩ := wz.c3
  have hz := Lib.hid wz
  have hh := Lib.hid hw
  clear wz hw
  simp only [ptr] at *
  go_enter Try.func71, Try.ntmps71
  go_wp2_with fail
  go_ret
  have wz := hz.out
  have hw := hh.out
  refine ⟨rfl, ?_, ?_⟩
  · exact (((Kp.refl _ w).setCell _ fun _ => ⟨rfl, Nat.le_refl _, by omega⟩).setCell _ fun _ => ⟨rfl, by omega, by omega⟩).setCell _ (fun _ => ⟨rfl, by omega, by omega⟩) |>.setCell _ fun _ => ⟨rfl, by omega, by omega⟩
  · refine ⟨x0, x1, x2, x3, ⟨?_, ?_, ?_, ?_, hw.l0, hw.l1, hw.l2, hw.l3⟩, hl, hv⟩
    · exact (((wz.c0.set_same _).set_other (.inr (by omega)) _).set_other (.inr (by omega)) _).set_other (.inr (by omega)) _
    · exact (((wz.c1.set_other (.inr (by omega)) _).set_same _).set_other (.inr (by omega)) _).set_other (.inr (by omega)) _
    · exact (((wz.c2.set_other (.inr (by omega)) _).set_other (.inr (by omega)) _).set_same _).set_other (.inr (by omega)) _
    · exact (((wz.c3.set_other (.inr (by omega)) _).set_other (.inr (by omega)) _).set_other (.inr (by omega)) _).set_same _
end Go.Proofs.Ytjdjhccefnffmaa
