import Derived.Test.YtjdjhccefnffmaaB05
import Derived.Test.YtjdjhccefnffmaaB06
set_option linter.unusedVariables false
set_option linter.unusedSimpArgs false
namespace Go.Proofs.Ytjdjhccefnffmaa
open Go LX
/-- p256Mul. -/
theorem c90 {w : World} {p q r : Nat × Nat} {z0 z1 z2 z3 : Nat} {x y : EC.F} (wz : W4 w p.1 p.2 z0 z1 z2 z3) (hx : El w q.1 q.2 x) (hy : El w r.1 r.2 y) :
    Calls Try.prog 90 #[ptr p, ptr q, ptr r] w fun e w' => e = .returned (.tuple #[]) ∧ Kp (at_ p.1 p.2 4) w w' ∧ El w' p.1 p.2 (x * y) := by
  obtain ⟨x0, x1, x2, x3, wx, lx, vx⟩ := hx
  obtain ⟨y0, y1, y2, y3, wy, ly, vy⟩ := hy
  refine (leaf3 (b := b90) Try.func90 (by kernel_rfl) (by kernel_rfl) Try.ntmps90 (by omega) run90 ord90 sgl90 wz wx wy rfl rfl rfl rfl).mono ?_
  rintro e w' ⟨rfl, ρ, hρ, hk, hw, h0, h1, h2, h3, h4, h5, h6, h7⟩
  refine ⟨rfl, hk, _, _, _, _, hw, ?_⟩
  obtain ⟨g0, g1, g2, g3⟩ := w4_le wx
  obtain ⟨g4, g5, g6, g7⟩ := w4_le wy
  subst h0 h1 h2 h3 h4 h5 h6 h7
  obtain ⟨m, ⟨k, l, hm⟩, -⟩ := ar90 hρ g0 g1 g2 g3 g4 g5 g6 g7 lx ly
  exact ⟨m, mont_mul hm vx vy⟩
end Go.Proofs.Ytjdjhccefnffmaa
