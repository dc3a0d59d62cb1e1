import Derived.Test.YtjdjhccefnffmaaFB
set_option linter.unusedVariables false
set_option linter.unusedSimpArgs false
set_option maxRecDepth 100000
set_option maxHeartbeats 1000000
namespace Go.Proofs.Ytjdjhccefnffmaa
open Go LX Go.RowKit
theorem c15w {w : World} {v : Value} {P : EC.Pt} {fr : Bool} {x y : Nat → Int} (hv : PtS w v P) (e : pl fr x y = pvL P) : Calls Try.prog 15 #[v, .agg (pl fr x y).toArray] w (Tru w) := by
  rw [e]; exact c15t hv
theorem c15far {w : World} {v : Value} (hv : PtS w v .far) : Calls Try.prog 15 #[v, .agg (pl true (fun _ => 0) fun _ => 0).toArray] w (Tru w) := c15w hv rfl
theorem c21v {w : World} {P : EC.Pt} {fr : Bool} {x y : Nat → Int} (e : pl fr x y = pvL P) : Calls Try.prog 21 #[.agg (pl fr x y).toArray] w (Pv01 (negP P) w) := by
  rw [e]; exact c21
theorem hi8_0 : hi8 (fun _ => 0) 32 = 0 := by decide
theorem N_lt : EC.N < 256 ^ 32 := by decide +kernel
theorem N1_lt : EC.N - 1 < 256 ^ 32 := by decide +kernel
theorem N_one : EC.N - 1 + 1 = EC.N := by decide +kernel
theorem beN31 : be EC.N 31 = 81 := by decide +kernel
theorem beN1 : ∀ i, i < 31 → be (EC.N - 1) i = be EC.N i := by decide +kernel
theorem beN1_31 : be (EC.N - 1) 31 = 80 := by decide +kernel
theorem beNr : ∀ r, r < 4 → (∀ i, i < 31 → be (EC.N + r) i = be EC.N i) ∧ be (EC.N + r) 31 = 81 + r ∧ EC.N + r < 256 ^ 32 := by decide +kernel
theorem be_lt (n i : Nat) : be n i < 256 := by unfold be; omega
/-- The last byte is written anew. -/
theorem by_last {w : World} {b v : Nat} {f g : Nat → Nat} (h : By w b 0 32 f) (h1 : ∀ i, i < 31 → g i = f i) (h2 : g 31 = v) (hv : v < 256) : By (w.setCell ⟨b, 31, none⟩ (.int .u8 (v : Nat))) b 0 32 g := fun i hi => by
  have h0 := h i hi
  rw [Nat.zero_add] at h0 ⊢
  by_cases e : i = 31
  · subst e
    rw [h2]
    exact ⟨h0.1.set_same _, hv⟩
  · rw [h1 i (by omega)]
    exact ⟨h0.1.set_other (.inr fun h => e h.symm) _, h0.2⟩
theorem kp_last (w : World) (b : Nat) (v : Value) : Kp (at_ b 0 32) w (w.setCell ⟨b, 31, none⟩ v) := (Kp.refl _ w).setCell v fun _ => ⟨rfl, by omega, by omega⟩
theorem mul_Nr (r : Nat) : EC.Pt.mul (EC.N + r) EC.Pt.G = EC.Pt.mul r EC.Pt.G := by
  rw [EC.Pt.mul_add EC.Pt.G_ok, EC.Pt.order EC.Pt.G_ok EC.N rfl]
  rfl
theorem c28v {w : World} {fr : Bool} {x y : Nat → Int} (e : pvL EC.Pt.G = pl fr x y) : Calls Try.prog 28 #[] w fun e w' => e = .returned (.agg (pl fr x y).toArray) ∧ Kp non w w' := c28.mono fun _ _ h => ⟨by rw [h.1, e], h.2⟩
end Go.Proofs.Ytjdjhccefnffmaa
