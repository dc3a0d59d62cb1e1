/- The base point is told; the number of points and up to three more times the base point are as many times it; for every byte. There is no condition beside those that the statement itself bears. -/
import Derived.Test.YtjdjhccefnffmaaB27
import Derived.Test.YtjdjhccefnffmaaF12
import Derived.Test.YtjdjhccefnffmaaRows
set_option linter.unusedVariables false
set_option linter.unusedSimpArgs false
set_option maxRecDepth 100000
set_option maxHeartbeats 1000000
namespace Go.Proofs.Ytjdjhccefnffmaa
open Go LX Go.ChangeShapes Go.WideShapes Go.ChangeAt Go.RowKit
theorem FnGenerator_lifted (os : Os) (started : os.Started) (H : Type) (enc : TypeId × Value → H) :
    ReturnsInHanded {} Try.checked os 12 .any (Rows.fnGeneratorSpec.pre6 enc Try.prog Try.f12 Rows.fnGeneratorRow.domain false) (Rows.fnGeneratorSpec.post enc Try.prog Try.f12 false true false false) := by
  refine returnsInHanded_of_change (C := Try.checked) ownKnob0 started (by kernel_rfl) Try.func12
    (ChangeSpec.witness6 (enc := enc) (C := Try.checked) false ⟨#[], #[.int .u8 0], []⟩ 8 (by kernel_rfl) (by kernel_rfl) (by kernel_rfl) (by kernel_rfl)) ?_
  intro W base args ds gs before hval0 hW hcnd _
  have hval : ∀ (j : Nat) t v, Try.f12.params[j]? = some t → args[j]? = some v → Value.okWide Try.prog W .any base t v := hval0
  have hW' := hW
  obtain ⟨p, q, hA0, hV, rfl, hfz, hnd⟩ := hW
  have hA : DataW.TrodAll enc Try.prog W 0 (fun _ => true) true Try.f12.params.toList args.toList ds p := hA0
  rw [Try.params12] at hA hval
  obtain ⟨v0, vs0, d0, ds0, p0, q0, hargs, rfl, rfl, h0, r0⟩ := trodAll_cons hA
  obtain ⟨rfl, rfl, rfl⟩ := trodAll_nil r0
  obtain rfl : args = #[v0] := by cases args; simp_all
  obtain ⟨rfl, rfl⟩ := trodVars_none hV
  obtain ⟨a0, rfl, rfl, rfl, w0⟩ := open_int Try.underlying5 (hval 0 5 v0 rfl rfl) h0
  have bd := bounds_u8 w0
  obtain ⟨k, rfl⟩ : ∃ k : Nat, a0 = (k : Int) := ⟨a0.toNat, by omega⟩
  have k0 : DataW.Trod enc Try.prog W 0 (fun _ => true) true 5 (.int .u8 (k : Int)) _ _ := shut_int Try.underlying5 w0
  clear hA0 hval0
  refine (f12 (w := W) (k := k) (by omega)).mono fun e W' ⟨he, hk⟩ => ?_
  have bel := below_of hk
  subst he
  exact ⟨_, rfl, _, _, _, [], _, [], hW', trodAll_mk1 (shut_bool Try.underlying4 _), (trodAll_cons_mk (Below.trod laidOut0 (by kernel_rfl) (of_decide_eq_true (by kernel_rfl)) k0 bel (fun x hx => by cases hx)) trodAll_mk0), rfl, bel.frame _, fun h => by cases h⟩
theorem FnGenerator_over : Rows.fnGeneratorRow.holds Try.pinned (OpenSpec.ofChange Rows.fnGeneratorSpec) :=
  OpenClaim.holds_of_wide 12 Try.f12 rfl rfl rfl rfl rfl rfl rfl ⟨rfl, rfl, rfl, rfl, rfl⟩ rfl rfl rfl rfl rfl (by kernel_rfl) Try.func12 (by kernel_rfl)
    (of_decide_eq_true (by kernel_rfl)) (by unfold Func.isWrapper; first | (rw [if_pos (by decide +kernel)]; kernel_rfl) | (rw [if_neg (by decide +kernel)]; exact ⟨rfl, rfl⟩))
    (fun os started H enc _ => FnGenerator_lifted os started H enc)
theorem FnGenerator_holds : Rows.FnGeneratorSaid := FnGenerator_over
#print axioms FnGenerator_holds
end Go.Proofs.Ytjdjhccefnffmaa
