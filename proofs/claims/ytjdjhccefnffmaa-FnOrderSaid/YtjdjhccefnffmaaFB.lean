import Derived.Test.YtjdjhccefnffmaaB27
import Derived.Test.YtjdjhccefnffmaaB25
set_option linter.unusedVariables false
set_option linter.unusedSimpArgs false
set_option maxRecDepth 100000
set_option maxHeartbeats 1000000
namespace Go.Proofs.Ytjdjhccefnffmaa
open Go LX Go.RowKit
section
variable {ops : Array Oper} {Q : Exit → Act → World → Prop} {md : Region.Mode} {S : World → Prop} {fuel : Nat} {listed : Array Bool} {a : Act} {w : World}
/-- A slice of one cell is built: the world after it by name. -/
theorem stepSl1 {i : Nat} {rs : List Nat} {oi : Oper} (v : Value) (t : TypeId) (d : Option Tmp) (hi : ops[i]? = some oi) (hd : oi.dst = d)
    (hw : Region.wanted oi (yielded ops a.tmps) = true) (he : (execOp a.eval oi).run Try.prog w = .ok (.value (.slice (some ⟨w.heap.size, 0, none⟩) 1 1)) (w.alloc (.cells #[v] t)))
    (hk : ∀ B W, Kp non w W → Cel W B 0 v → S W ∧ wpAnyH Try.prog md ops Q S fuel (listed.setIfInBounds i true) (a.put d (.slice (some ⟨B, 0, none⟩) 1 1)) W)
    (more : AllReadyH Try.prog md ops Q S fuel listed a w rs) : AllReadyH Try.prog md ops Q S fuel listed a w (i :: rs) :=
  stepVal _ _ d hi hd hw he (hk _ _ ((Kp.refl _ _).alloc _) (Cel.new _ _ _ 0 _ rfl)) more
/-- A slice of two cells is built: the world after it by name. -/
theorem stepSl2 {i : Nat} {rs : List Nat} {oi : Oper} (v u : Value) (t : TypeId) (d : Option Tmp) (hi : ops[i]? = some oi) (hd : oi.dst = d)
    (hw : Region.wanted oi (yielded ops a.tmps) = true) (he : (execOp a.eval oi).run Try.prog w = .ok (.value (.slice (some ⟨w.heap.size, 0, none⟩) 2 2)) (w.alloc (.cells #[v, u] t)))
    (hk : ∀ B W, Kp non w W → Cel W B 0 v → Cel W B 1 u → S W ∧ wpAnyH Try.prog md ops Q S fuel (listed.setIfInBounds i true) (a.put d (.slice (some ⟨B, 0, none⟩) 2 2)) W)
    (more : AllReadyH Try.prog md ops Q S fuel listed a w rs) : AllReadyH Try.prog md ops Q S fuel listed a w (i :: rs) :=
  stepVal _ _ d hi hd hw he (hk _ _ ((Kp.refl _ _).alloc _) (Cel.new _ _ _ 0 _ rfl) (Cel.new _ _ _ 1 _ rfl)) more
end
/-- False comes back, and nothing that was there has turned. -/
def Fls (w : World) (e : Ending) (w' : World) : Prop := e = .returned (.bool false) ∧ Kp non w w'
theorem c23t {w : World} {b n c : Nat} {v : Value} {f : Nat → Nat} {P : EC.Pt} (hb : Cel w b 0 v) (hv : In w v n f) (hP : rd n f = some P) : Calls Try.prog 23 #[.slice (some ⟨b, 0, none⟩) 1 c] w (Tru w) := by
  refine (c23 (m := 1) (vs := fun _ => v) (ns := fun _ => n) (fs := fun _ => f) (fun i hi => by cases Nat.lt_one_iff.1 hi; exact hb.1) (fun i _ => hv) (by omega)).mono ?_
  rintro e w' ⟨t, rfl, ht, hk⟩
  rw [ht.2 fun i _ => by rw [hP]; rfl]
  exact ⟨rfl, hk⟩
theorem c23f {w : World} {b n c : Nat} {v : Value} {f : Nat → Nat} (hb : Cel w b 0 v) (hv : In w v n f) (hP : rd n f = none) : Calls Try.prog 23 #[.slice (some ⟨b, 0, none⟩) 1 c] w (Fls w) := by
  refine (c23 (m := 1) (vs := fun _ => v) (ns := fun _ => n) (fs := fun _ => f) (fun i hi => by cases Nat.lt_one_iff.1 hi; exact hb.1) (fun i _ => hv) (by omega)).mono ?_
  rintro e w' ⟨t, rfl, ht, hk⟩
  cases t with
  | false => exact ⟨rfl, hk⟩
  | true =>
    have := ht.1 rfl 0 (by omega)
    rw [hP] at this
    cases this
theorem c23two {w : World} {b n m c : Nat} {v u : Value} {f g : Nat → Nat} (hb : Cel w b 0 v) (hb1 : Cel w b 1 u) (hv : In w v n f) (hu : In w u m g) :
    Calls Try.prog 23 #[.slice (some ⟨b, 0, none⟩) 2 c] w (Bo1 ((rd n f).isSome = true ∧ (rd m g).isSome = true) w) := by
  refine (c23 (m := 2) (vs := fun i => if i = 0 then v else u) (ns := fun i => if i = 0 then n else m) (fs := fun i => if i = 0 then f else g) (fun i hi => by
      by_cases h : i = 0
      · subst h; exact hb.1
      · obtain rfl : i = 1 := by omega
        exact hb1.1) (fun i hi => by
      by_cases h : i = 0
      · subst h; exact hv
      · obtain rfl : i = 1 := by omega
        exact hu) (by omega)).mono ?_
  rintro e w' ⟨t, rfl, ht, hk⟩
  refine ⟨t, rfl, ht.trans ⟨fun h => ⟨h 0 (by omega), h 1 (by omega)⟩, fun h i hi => ?_⟩, hk⟩
  by_cases h0 : i = 0
  · subst h0; exact h.1
  · obtain rfl : i = 1 := by omega
    exact h.2
theorem c23tt {w : World} {b n m c : Nat} {v u : Value} {f g : Nat → Nat} {P R : EC.Pt} (hb : Cel w b 0 v) (hb1 : Cel w b 1 u) (hv : In w v n f) (hu : In w u m g) (hP : rd n f = some P) (hR : rd m g = some R) :
    Calls Try.prog 23 #[.slice (some ⟨b, 0, none⟩) 2 c] w (Tru w) := by
  refine (c23two hb hb1 hv hu).mono ?_
  rintro e w' ⟨t, rfl, ht, hk⟩
  rw [ht.2 ⟨by rw [hP]; rfl, by rw [hR]; rfl⟩]
  exact ⟨rfl, hk⟩
theorem c23ff {w : World} {b n m c : Nat} {v u : Value} {f g : Nat → Nat} (hb : Cel w b 0 v) (hb1 : Cel w b 1 u) (hv : In w v n f) (hu : In w u m g) (h : rd n f = none ∨ rd m g = none) :
    Calls Try.prog 23 #[.slice (some ⟨b, 0, none⟩) 2 c] w (Fls w) := by
  refine (c23two hb hb1 hv hu).mono ?_
  rintro e w' ⟨t, rfl, ht, hk⟩
  cases t with
  | false => exact ⟨rfl, hk⟩
  | true =>
    have := ht.1 rfl
    rcases h with h | h
    · rw [h] at this; cases this.1
    · rw [h] at this; cases this.2
/-- One byte 0 is the far point. -/
theorem far_one {w : World} {b : Nat} (h : Cel w b 0 (.int .u8 0)) : PtS w (.slice (some ⟨b, 0, none⟩) 1 1) .far := ⟨b, 1, rfl, Nat.le_refl _, fun i hi => by
  obtain rfl : i = 0 := by simp only [ptN] at hi; omega
  exact ⟨h, by simp [ptF]⟩⟩
/-- A store of 32 bytes: the world after it by name. -/
theorem wpList_store32n {ops : Array Oper} {rest : List Oper} {op : Oper} {a : Act} {w : World} {Q : Exit → Act → World → Prop} (hgd : op.guard = none) (x y : Operand) (ho : op.op = .store 23 x y)
    (b : Nat) (f : Nat → Nat) (hx : a.eval x = .pointer (some ⟨b, 0, none⟩)) (hy : a.eval y = .agg (bys f 32)) {g : Nat → Nat} (ht : By w b 0 32 g) (hf : ∀ i, i < 32 → f i < 256)
    (h : ∀ W, Kp (at_ b 0 32) w W → By W b 0 32 f → wpList Try.prog ops Q rest (a.put op.dst undef) W) : wpList Try.prog ops Q (op :: rest) a w :=
  wpList_store32 hgd x y ho b f hx hy g ht (h _ (Kp.byl w b 0 32 f) (By.set ht.room0 hf))
theorem z23 : ∀ W, (zeroValue 23).run Try.prog W = .ok (.agg (bys (fun _ => 0) 32)) W := fun W => by kernel_rfl
/-- The last byte alone. -/
def lst (k i : Nat) : Nat := if i = 31 then k else 0
theorem lst_num (k : Nat) : hi8 (lst k) 32 = k := by
  rw [show (32 : Nat) = 31 + 1 from rfl]
  show 256 * hi8 (lst k) 31 + lst k 31 = k
  rw [hi8_eq (f := lst k) (g := fun _ => 0) 31 fun i hi => if_neg (by omega)]
  have : hi8 (fun _ => 0) 31 = 0 := by decide
  rw [this]
  simp [lst]
theorem lst_lt {k : Nat} (h : k < 256) : ∀ i, i < 32 → lst k i < 256 := fun i _ => by unfold lst; split <;> omega
theorem neg_mul {P : EC.Pt} (hP : P.Ok) {n : Nat} (h : n + 1 = EC.N) : EC.Pt.mul n P = negP P := by
  have e : negP P = P.neg := by
    cases P with
    | far => rfl
    | aff x y =>
      show EC.Pt.aff x (0 - y) = .aff x (-y)
      have : 0 - y = -y := by grind -lia -linarith
      rw [this]
  rw [e]
  refine EC.Pt.cancel (EC.Pt.Ok.mul hP n) (EC.Pt.Ok.neg hP) hP ?_
  have h1 : (EC.Pt.mul n P).sum P = EC.Pt.mul (n + 1) P := rfl
  rw [h1, EC.Pt.order hP (n + 1) h, EC.Pt.sum_comm (EC.Pt.Ok.neg hP) hP, EC.Pt.neg_sum hP]
theorem mul_two (P : EC.Pt) : EC.Pt.mul 2 P = P.sum P := rfl
theorem mul_one' (P : EC.Pt) : EC.Pt.mul 1 P = P := rfl
end Go.Proofs.Ytjdjhccefnffmaa
