import Derived.Test.YtjdjhccefnffmaaB20
import Derived.Laws.StructEq
import Derived.Deep.CutRange
set_option linter.unusedVariables false
set_option linter.unusedSimpArgs false
set_option maxRecDepth 100000
set_option maxHeartbeats 1000000
namespace Go.Proofs.Ytjdjhccefnffmaa
open Go LX Go.RowKit
theorem c52 {w : World} {n : Int} : Calls Try.prog 52 #[.int .i64 n] w fun e w' => e = .returned (.agg #[.int .i64 n, .int .i64 0, .int .i64 0, .int .i64 0, .int .i64 0, .int .i64 0, .int .i64 0, .int .i64 0]) ∧ Kp non w w' := by
  go_enter Try.func52, Try.ntmps52
  go_wp2_with fail
  refine bodyPost_ret (v := .agg #[.int .i64 n, .int .i64 0, .int .i64 0, .int .i64 0, .int .i64 0, .int .i64 0, .int .i64 0, .int .i64 0]) (by simp [results, Try.results52, go_sem]) rfl ?_
  exact ⟨rfl, (Kp.refl _ w).alloc _⟩
theorem ew_1 : Ev 1 = .agg #[.int .i64 1, .int .i64 0, .int .i64 0, .int .i64 0, .int .i64 0, .int .i64 0, .int .i64 0, .int .i64 0] := by kernel_rfl
theorem ew_3 : Ev 3 = .agg #[.int .i64 3, .int .i64 0, .int .i64 0, .int .i64 0, .int .i64 0, .int .i64 0, .int .i64 0, .int .i64 0] := by kernel_rfl
theorem c52_1 {w : World} : Calls Try.prog 52 #[.int .i64 1] w (Ev01 1 w) := c52.mono fun e w' h => ⟨by rw [h.1, ew_1], h.2⟩
theorem c52_3 {w : World} : Calls Try.prog 52 #[.int .i64 3] w (Ev01 3 w) := c52.mono fun e w' h => ⟨by rw [h.1, ew_3], h.2⟩
theorem ew_B : Ev EC.B = .agg #[.int .i64 668098635, .int .i64 1003371582, .int .i64 3428036854, .int .i64 1696401072, .int .i64 1989707452, .int .i64 3018571093, .int .i64 2855965671, .int .i64 1522939352] := by kernel_rfl
theorem c53 {w : World} : Calls Try.prog 53 #[] w (Ev01 EC.B w) := by
  unfold Ev01
  rw [ew_B]
  go_enter Try.func53, Try.ntmps53
  go_wp2_with fail
  refine bodyPost_ret (v := .agg #[.int .i64 668098635, .int .i64 1003371582, .int .i64 3428036854, .int .i64 1696401072, .int .i64 1989707452, .int .i64 3018571093, .int .i64 2855965671, .int .i64 1522939352]) (by simp [results, Try.results53, go_sem]) rfl ?_
  exact ⟨rfl, (Kp.refl _ w).alloc _⟩
theorem and1 (x : Int) : bits .and .i64 x 1 = x % 2 := by
  have h2 : (BitVec.ofInt 64 1).toNat = 2 ^ 1 - 1 := by decide
  show IntKind.i64.wrap ((BitVec.ofInt 64 x &&& BitVec.ofInt 64 1).toNat : Int) = _
  rw [BitVec.toNat_and, h2, Nat.and_two_pow_sub_one_eq_mod, BitVec.toNat_ofInt, IntKind.wrap_i64]
  omega
/-- Word i of a number. -/
def nw (n : Nat) (i : Nat) : Int := ((n / 4294967296 ^ i % 4294967296 : Nat) : Int)
theorem nw_bit (n q r i : Nat) (hi : i = 32 * q + r) (hr : r < 32) : (nw n q / 2 ^ r) % 2 = ((n / 2 ^ i % 2 : Nat) : Int) := by
  have h1 : n / 2 ^ i = n / 4294967296 ^ q / 2 ^ r := by
    rw [Nat.div_div_eq_div_mul, hi, Nat.pow_add, Nat.pow_mul]
  have h2 : ∀ m : Nat, m % 4294967296 / 2 ^ r % 2 = m / 2 ^ r % 2 := by
    intro m
    obtain ⟨s, hs⟩ : ∃ s, 32 = r + (s + 1) := ⟨31 - r, by omega⟩
    have e : (4294967296 : Nat) = 2 ^ r * (2 * 2 ^ s) := by
      rw [← Nat.pow_succ', ← Nat.pow_add, ← hs]
    rw [e, Nat.mod_mul_right_div_self, Nat.mod_mul_right_mod]
  rw [h1, ← h2]
  unfold nw
  generalize n / 4294967296 ^ q % 4294967296 = m
  rw [Int.natCast_emod, Int.natCast_ediv, Int.natCast_pow]
  rfl
theorem pow_step (a z : EC.F) (E i : Nat) (hz : z = EC.fpow a (E / 2 ^ (i + 1))) : (E / 2 ^ i % 2 = 0 → z * z = EC.fpow a (E / 2 ^ i)) ∧ (E / 2 ^ i % 2 = 1 → z * z * a = EC.fpow a (E / 2 ^ i)) := by
  have e1 : E / 2 ^ (i + 1) = E / 2 ^ i / 2 := by rw [Nat.pow_succ, Nat.div_div_eq_div_mul]
  rw [e1] at hz
  generalize E / 2 ^ i = x at *
  have e2 : z * z = EC.fpow a (2 * (x / 2)) := by rw [hz, ← EC.fpow_add]; congr 1; omega
  constructor
  · intro h; rw [e2]; congr 1; omega
  · intro h
    rw [e2]
    show EC.fpow a (2 * (x / 2) + 1) = _
    congr 1; omega
theorem c50 {w : World} {a : EC.F} {E : Nat} (hE : E < 2 ^ 256) : Calls Try.prog 50 #[Ev a, .agg (a8 (nw E))] w (Ev01 (EC.fpow a E) w) := by
  have k0 : Kp non w (((w.alloc (.cells (a8 (ew a)) 25)).alloc (.cells (a8 (nw E)) 25)).alloc (.cells (a8 fun _ => 0) 25)) := (((Kp.refl _ w).alloc _).alloc _).alloc _
  have h0 := ((Ws.new8 w 25 (ew a)).kp ((Kp.refl non _).alloc (.cells (a8 (nw E)) 25)) fun _ _ h => h).kp ((Kp.refl non _).alloc (.cells (a8 fun _ => 0) 25)) fun _ _ h => h
  have h1 := (Ws.new8 (w.alloc (.cells (a8 (ew a)) 25)) 25 (nw E)).kp ((Kp.refl non _).alloc (.cells (a8 fun _ => 0) 25)) fun _ _ h => h
  have h2 := Ws.new8 ((w.alloc (.cells (a8 (ew a)) 25)).alloc (.cells (a8 (nw E)) 25)) 25 fun _ => 0
  simp only [size1] at h1 h2
  have hlt2 := (h2 0 (by omega)).lt
  show Calls Try.prog 50 #[.agg (a8 (ew a)), .agg (a8 (nw E))] w _
  go_enter Try.func50, Try.ntmps50
  go_wp2_with fail
  refine c52_1.mono ?_
  rintro e w1 ⟨rfl, hk⟩
  replace k0 := k0.non hk
  replace h0 := h0.kp hk fun _ _ h => h
  replace h1 := h1.kp hk fun _ _ h => h
  replace h2 := h2.kp hk fun _ _ h => h
  have hsz := hk.size
  clear hk
  have k1 : Kp non w (w1.alloc (.cells (a8 (ew 1)) 25)) := k0.alloc _
  have h3 := Ws.new8 w1 25 (ew 1)
  replace h0 := h0.kp ((Kp.refl non w1).alloc (.cells (a8 (ew 1)) 25)) fun _ _ h => h
  replace h1 := h1.kp ((Kp.refl non w1).alloc (.cells (a8 (ew 1)) 25)) fun _ _ h => h
  replace h2 := h2.kp ((Kp.refl non w1).alloc (.cells (a8 (ew 1)) 25)) fun _ _ h => h
  have hO : w.heap.size + 1 + 1 < w1.heap.size := Nat.lt_of_lt_of_le hlt2 hsz
  clear k0 hsz hlt2
  have hp0 : Hid ((1 : EC.F) = EC.fpow a (E / 2 ^ (255 + 1))) := Lib.hid (by rw [Nat.div_eq_of_lt hE]; rfl)
  go_wp2_with fail
  generalize hHH : w.heap.size = H at *
  generalize hOO : w1.heap.size = O at *
  go_loopw [6] (fun i wr => ∃ z : EC.F, ((∃ m : Nat, m ≤ 255 ∧ i = .int .i64 (m : Int) ∧ Hid (z = EC.fpow a (E / 2 ^ (m + 1)))) ∨ (i = .int .i64 (-1) ∧ Hid (z = EC.fpow a E))) ∧ Kp non w wr ∧ Ws wr H 8 (ew a) ∧ Ws wr (H + 1) 8 (nw E) ∧ Ws wr (H + 1 + 1) 8 (fun _ => 0) ∧ Ws wr O 8 (ew z)) (fun i _ => (intOf i + 1).toNat)
  case atStart => exact ⟨1, .inl ⟨255, by omega, rfl, hp0⟩, k1, h0, h1, h2, h3⟩
  case round =>
    clear k1 h0 h1 h2 h3 hp0
    obtain ⟨z, ⟨m, hm, rfl, hz⟩ | ⟨rfl, hz⟩, hkp, h0, h1, h2, h3⟩ := hrel
    · have a1 : (0 : Int) ≤ (m : Int) := by omega
      obtain ⟨d0, d1, d2, d3, d4, d5, d6, d7⟩ := ws8 h3 (by omega)
      go_wp2_with fail
      refine (c48 (a := z) (b := z)).mono ?_
      rintro e w2 ⟨rfl, hk⟩
      replace hkp := hkp.non hk
      replace h0 := h0.kp hk fun _ _ h => h
      replace h1 := h1.kp hk fun _ _ h => h
      replace h2 := h2.kp hk fun _ _ h => h
      replace h3 := h3.kp hk fun _ _ h => h
      clear hk d0 d1 d2 d3 d4 d5 d6 d7
      obtain ⟨hs0, hs1⟩ := pow_step a z E m hz.out
      obtain ⟨q, hq⟩ : ∃ q, q = m / 32 := ⟨_, rfl⟩
      obtain ⟨r, hr⟩ : ∃ r, r = m % 32 := ⟨_, rfl⟩
      have hbit := nw_bit E q r m (by omega) (by omega)
      have a2 : (m : Int).tdiv 32 = (q : Int) := by rw [Int.tdiv_eq_ediv_of_nonneg (by omega)]; omega
      have a3 : (m : Int).tmod 32 = (r : Int) := by rw [Int.tmod_eq_emod_of_nonneg (by omega)]; omega
      have a4 : (q : Int) < 8 := by omega
      have a5 : (r : Int) < 32 := by omega
      have a6 : (0 : Int) ≤ (r : Int) := by omega
      have a7 := and1 (nw E q / 2 ^ r)
      rw [hbit] at a7
      have cq := (h1 q (by omega)).1
      obtain ⟨d0, d1, d2, d3, d4, d5, d6, d7⟩ := ws8 h3 (by omega)
      obtain ⟨f0, f1, f2, f3, f4, f5, f6, f7⟩ := wf8 h3 (by omega)
      have n1 : ¬ O = H + 1 := by omega
      have n2 : ¬ H + 1 = O := by omega
      have n3 : ¬ O = H := by omega
      have n4 : ¬ H = O := by omega
      have ha8 := ws8 h0 (by omega)
      replace hkp := kp_st8 hkp (b := O) (by omega) (ew (z * z))
      replace h0 := h0.st8o (ew (z * z)) (b := O) (by omega)
      replace h1 := h1.st8o (ew (z * z)) (b := O) (by omega)
      replace h2 := h2.st8o (ew (z * z)) (b := O) (by omega)
      replace h3 := h3.st8 (ew (z * z))
      clear hq hr hbit
      have hbb : E / 2 ^ m % 2 = 0 ∨ E / 2 ^ m % 2 = 1 := by omega
      rcases hbb with hb | hb
      · have hz2 := Lib.hid (hs0 hb)
        rw [hb] at a7
        clear hs0 hs1 hb ha8
        go_wp2_with fail
        go_roundw
        case rel =>
          refine ⟨z * z, ?_, hkp, h0, h1, h2, h3⟩
          by_cases hm0 : m = 0
          · subst hm0
            exact .inr ⟨by go_num, Lib.hid (by rw [hz2.out, Nat.pow_zero, Nat.div_one])⟩
          · exact .inl ⟨m - 1, by omega, by go_num, Lib.hid (by rw [hz2.out, show m - 1 + 1 = m by omega])⟩
        case measure => simp [intOf]
      · have hz2 := Lib.hid (hs1 hb)
        rw [hb] at a7
        clear hs0 hs1 hb
        obtain ⟨g0, g1, g2, g3, g4, g5, g6, g7⟩ := ha8
        go_wp2_with fail
        refine (c48 (a := z * z) (b := a)).mono ?_
        rintro e w3 ⟨rfl, hk⟩
        replace hkp := hkp.non hk
        replace h0 := h0.kp hk fun _ _ h => h
        replace h1 := h1.kp hk fun _ _ h => h
        replace h2 := h2.kp hk fun _ _ h => h
        replace h3 := h3.kp hk fun _ _ h => h
        clear hk cq d0 d1 d2 d3 d4 d5 d6 d7 f0 f1 f2 f3 f4 f5 f6 f7 g0 g1 g2 g3 g4 g5 g6 g7
        obtain ⟨d0, d1, d2, d3, d4, d5, d6, d7⟩ := ws8 h3 (by omega)
        obtain ⟨f0, f1, f2, f3, f4, f5, f6, f7⟩ := wf8 h3 (by omega)
        replace hkp := kp_st8 hkp (b := O) (by omega) (ew (z * z * a))
        replace h0 := h0.st8o (ew (z * z * a)) (b := O) (by omega)
        replace h1 := h1.st8o (ew (z * z * a)) (b := O) (by omega)
        replace h2 := h2.st8o (ew (z * z * a)) (b := O) (by omega)
        replace h3 := h3.st8 (ew (z * z * a))
        go_wp2_with fail
        go_roundw
        case rel =>
          refine ⟨z * z * a, ?_, hkp, h0, h1, h2, h3⟩
          by_cases hm0 : m = 0
          · subst hm0
            exact .inr ⟨by go_num, Lib.hid (by rw [hz2.out, Nat.pow_zero, Nat.div_one])⟩
          · exact .inl ⟨m - 1, by omega, by go_num, Lib.hid (by rw [hz2.out, show m - 1 + 1 = m by omega])⟩
        case measure => simp [intOf]
    · obtain ⟨d0, d1, d2, d3, d4, d5, d6, d7⟩ := ws8 h3 (by omega)
      obtain ⟨n0, n1, n2, n3, n4, n5, n6, n7⟩ := ws8 h2 (by omega)
      obtain ⟨o0, o1, o2, o3, o4, o5, o6, o7⟩ := wf8 h2 (by omega)
      clear h0 h1 h2 h3
      go_wp2_with fail
      refine bodyPost_ret (v := .agg (a8 (ew z))) (by simp [results, Try.results50, go_sem, *]) rfl ?_
      exact ⟨by rw [hz.out], kp_fresh8 hkp (by omega) _ _ _ _ _ _ _ _⟩
end Go.Proofs.Ytjdjhccefnffmaa
set_option maxRecDepth 100000
set_option maxHeartbeats 1000000
namespace Go.Proofs.Ytjdjhccefnffmaa
open Go LX Go.RowKit
theorem a8_get (g : Nat → Int) (i : Nat) (h : i < 8) : (a8 g)[i]? = some (.int .i64 (g i)) := by
  have : i = 0 ∨ i = 1 ∨ i = 2 ∨ i = 3 ∨ i = 4 ∨ i = 5 ∨ i = 6 ∨ i = 7 := by omega
  rcases this with rfl | rfl | rfl | rfl | rfl | rfl | rfl | rfl <;> rfl
theorem size2 (w : World) : (sizeOf 2).run Try.prog w = .ok 1 w := by kernel_rfl
theorem agg2 (w : World) : (isAgg 2).run Try.prog w = .ok false w := by kernel_rfl
theorem equal8 (d : Nat) (g f : Nat → Int) (w : World) : (Op.equalIn (d + 2) 25 (.agg (a8 g)) (.agg (a8 f))).run Try.prog w = .ok ((List.range 8).all fun i => g i == f i) w := by
  have ht : Try.prog.underlying 25 = some (.array 8 2) := by kernel_rfl
  have he : Try.prog.underlying 2 = some (.int .i64) := by kernel_rfl
  rw [List.range_eq_range', Op.equalIn]
  simp only [Sem.run_bind, run_underlying ht, Result.andThen_ok, size2, Std.Legacy.Range.forIn_eq_forIn_range', Std.Legacy.Range.size, Nat.sub_zero, Nat.add_sub_cancel, Nat.div_one]
  have hl : ∀ i ∈ List.range' 0 8 1, i < 8 := fun i hi => by simpa using (List.mem_range'_1.1 hi).2
  generalize List.range' 0 8 1 = l at hl ⊢
  induction l with
  | nil => simp
  | cons i l ih =>
    have hi : i < 8 := hl i (by simp)
    have px : ∀ g : Nat → Int, (part 2 (a8 g) (i * 1)).run Try.prog w = .ok (.int .i64 (g i)) w := fun g => by
      have := a8_get g i hi
      simp [part, this]
    have pe : (Op.equalIn (d + 1) 2 (.int .i64 (g i)) (.int .i64 (f i))).run Try.prog w = .ok (g i == f i) w := run_equalIn_int w d 2 .i64 .i64 _ _ he
    simp only [List.forIn_cons, Sem.run_bind, px, pe, Result.andThen_ok, List.all_cons]
    cases hb : (g i == f i)
    · simp
    · simp only [Bool.not_true, Bool.false_eq_true, if_false, Sem.run_pure, Result.andThen_ok, Bool.true_and]
      exact ih fun j hj => hl j (by simp [hj])
theorem all8 (x y : EC.F) : ((List.range 8).all fun i => ew x i == ew y i) = decide (x = y) := by
  rw [Bool.eq_iff_iff, decide_eq_true_eq, List.all_eq_true]
  constructor
  · intro h
    have h2 : val8 (ew x) = val8 (ew y) := val8_eq fun j hj => by
      have := h j (List.mem_range.2 hj)
      simpa using this
    rw [ew_val, ew_val] at h2
    exact Fin.ext (by omega)
  · rintro rfl i _; simp
theorem eqlEv (x y : EC.F) (w : World) : (binOp .eql 25 (.agg (a8 (ew x))) (.agg (a8 (ew y)))).run Try.prog w = .ok (.bool (decide (x = y))) w := by
  rw [run_eql_struct, equal8 9998, all8]; rfl
theorem neqEv (x y : EC.F) (w : World) : (binOp .neq 25 (.agg (a8 (ew x))) (.agg (a8 (ew y)))).run Try.prog w = .ok (.bool (!decide (x = y))) w := by
  rw [run_neq_struct, equal8 9998, all8]; rfl
end Go.Proofs.Ytjdjhccefnffmaa
set_option maxRecDepth 100000
set_option maxHeartbeats 1000000
namespace Go.Proofs.Ytjdjhccefnffmaa
open Go LX Go.RowKit
theorem cellT {T : Nat → Nat → Prop} {W0 W : World} {b j : Nat} {v : Value} (h : W0.cell? ⟨b, j, none⟩ = some v) (hT : ¬ T b j) (hk : Kp T W0 W) : W.cell? ⟨b, j, none⟩ = some v := (hk.cell b j (World.block_lt_of_cell? _ ⟨b, j, none⟩ h) hT).trans h
theorem cellK {W0 W : World} {b j : Nat} {v : Value} (h : W0.cell? ⟨b, j, none⟩ = some v) (hk : Kp non W0 W) : W.cell? ⟨b, j, none⟩ = some v := cellT h (fun h => h) hk
theorem newK {V W : World} (j : Nat) (hj : j < 8) (hk : Kp non (V.alloc (.cells (a8 fun _ => 0) 25)) W) : W.cell? ⟨V.heap.size, j, none⟩ = some (.int .i64 0) := cellK ((Ws.new8 V 25 fun _ => 0) j hj).1 hk
theorem newF {V W : World} (j : Nat) (hj : j < 8) (hk : Kp non (V.alloc (.cells (a8 fun _ => 0) 25)) W) : W.frozen? ⟨V.heap.size, j, none⟩ = false := by
  have := (Ws.new8 V 25 fun _ => 0) j hj
  exact (this.kp hk fun h => h).2
theorem kpT8 {W0 W : World} {b : Nat} (h : Kp (at_ b 0 8) W0 W) (v0 v1 v2 v3 v4 v5 v6 v7 : Value) : Kp (at_ b 0 8) W0 ((((((((W.setCell ⟨b, 0, none⟩ v0).setCell ⟨b, 1, none⟩ v1).setCell ⟨b, 2, none⟩ v2).setCell ⟨b, 3, none⟩ v3).setCell ⟨b, 4, none⟩ v4).setCell ⟨b, 5, none⟩ v5).setCell ⟨b, 6, none⟩ v6).setCell ⟨b, 7, none⟩ v7) :=
  (((((((h.setCell v0 fun _ => ⟨rfl, by omega, by omega⟩).setCell v1 fun _ => ⟨rfl, by omega, by omega⟩).setCell v2 fun _ => ⟨rfl, by omega, by omega⟩).setCell v3 fun _ => ⟨rfl, by omega, by omega⟩).setCell v4 fun _ => ⟨rfl, by omega, by omega⟩).setCell v5 fun _ => ⟨rfl, by omega, by omega⟩).setCell v6 fun _ => ⟨rfl, by omega, by omega⟩).setCell v7 fun _ => ⟨rfl, by omega, by omega⟩
theorem kpW {T : Nat → Nat → Prop} {W0 W : World} (h : Kp non W0 W) : Kp T W0 W := h.wide fun _ _ _ h => h.elim
theorem eq8 : ∀ (x y : EC.F) (W : World), (Op.equalIn 10000 25 (.agg (a8 (ew x))) (.agg (a8 (ew y)))).run Try.prog W = .ok (decide (x = y)) W := fun x y W => by rw [equal8 9998, all8]
/-- A residue comes back, by name. -/
def Ex01 (y : EC.F) (w : World) (e : Ending) (w' : World) : Prop := ∃ z, Hid (z = y) ∧ e = .returned (Ev z) ∧ Kp non w w'
theorem Ev01.ex {y : EC.F} {w : World} (e : Ending) (w' : World) (h : Ev01 y w e w') : Ex01 y w e w' := ⟨y, Lib.hid rfl, h⟩
theorem e48 {w : World} {a b : EC.F} : Calls Try.prog 48 #[Ev a, Ev b] w (Ex01 (a * b) w) := c48.mono Ev01.ex
theorem e51 {w : World} {a b : EC.F} : Calls Try.prog 51 #[Ev a, Ev b] w (Ex01 (a + b) w) := c51.mono Ev01.ex
theorem e37 {w : World} {a b : EC.F} : Calls Try.prog 37 #[Ev a, Ev b] w (Ex01 (a - b) w) := c37.mono Ev01.ex
theorem e52 {w : World} : Calls Try.prog 52 #[.int .i64 3] w (Ex01 3 w) := c52_3.mono Ev01.ex
theorem e53 {w : World} : Calls Try.prog 53 #[] w (Ex01 EC.B w) := c53.mono Ev01.ex
theorem poly_eq (x : EC.F) : x * x * x - 3 * x + EC.B = poly x := by
  unfold poly
  generalize EC.B = b
  grind -lia -linarith
theorem c36 {w : World} {x : EC.F} : Calls Try.prog 36 #[Ev x] w (Ev01 (poly x) w) := by
  have k0 : Kp non w ((w.alloc (.cells (a8 (ew x)) 25)).alloc (.cells (a8 fun _ => 0) 25)) := ((Kp.refl _ w).alloc _).alloc _
  have h0 := (Ws.new8 w 25 (ew x)).kp ((Kp.refl non _).alloc (.cells (a8 fun _ => 0) 25)) fun _ _ h => h
  have h1 := Ws.new8 (w.alloc (.cells (a8 (ew x)) 25)) 25 fun _ => 0
  simp only [size1] at h1
  have hlt := (h1 0 (by omega)).lt
  show Calls Try.prog 36 #[.agg (a8 (ew x))] w _
  go_enter Try.func36, Try.ntmps36
  go_wp2_with fail
  generalize hHH : w.heap.size = H at *
  generalize ((w.alloc (.cells (a8 (ew x)) 25)).alloc (.cells (a8 fun _ => 0) 25)) = W0 at *
  have p0 : ∀ W, Kp non W0 W → W.cell? ⟨H, 0, none⟩ = some (.int .i64 (ew x 0)) := fun W => cellT (h0 0 (by omega)).1 (fun h => h)
  have p1 : ∀ W, Kp non W0 W → W.cell? ⟨H, 1, none⟩ = some (.int .i64 (ew x 1)) := fun W => cellT (h0 1 (by omega)).1 (fun h => h)
  have p2 : ∀ W, Kp non W0 W → W.cell? ⟨H, 2, none⟩ = some (.int .i64 (ew x 2)) := fun W => cellT (h0 2 (by omega)).1 (fun h => h)
  have p3 : ∀ W, Kp non W0 W → W.cell? ⟨H, 3, none⟩ = some (.int .i64 (ew x 3)) := fun W => cellT (h0 3 (by omega)).1 (fun h => h)
  have p4 : ∀ W, Kp non W0 W → W.cell? ⟨H, 4, none⟩ = some (.int .i64 (ew x 4)) := fun W => cellT (h0 4 (by omega)).1 (fun h => h)
  have p5 : ∀ W, Kp non W0 W → W.cell? ⟨H, 5, none⟩ = some (.int .i64 (ew x 5)) := fun W => cellT (h0 5 (by omega)).1 (fun h => h)
  have p6 : ∀ W, Kp non W0 W → W.cell? ⟨H, 6, none⟩ = some (.int .i64 (ew x 6)) := fun W => cellT (h0 6 (by omega)).1 (fun h => h)
  have p7 : ∀ W, Kp non W0 W → W.cell? ⟨H, 7, none⟩ = some (.int .i64 (ew x 7)) := fun W => cellT (h0 7 (by omega)).1 (fun h => h)
  have bb0 : ∀ (V W : World), Kp non (V.alloc (.cells (a8 fun _ => 0) 25)) W → W.cell? ⟨V.heap.size, 0, none⟩ = some (.int .i64 0) := fun V W => newK 0 (by omega)
  have bf0 : ∀ (V W : World), Kp non (V.alloc (.cells (a8 fun _ => 0) 25)) W → W.frozen? ⟨V.heap.size, 0, none⟩ = false := fun V W => newF 0 (by omega)
  have bb1 : ∀ (V W : World), Kp non (V.alloc (.cells (a8 fun _ => 0) 25)) W → W.cell? ⟨V.heap.size, 1, none⟩ = some (.int .i64 0) := fun V W => newK 1 (by omega)
  have bf1 : ∀ (V W : World), Kp non (V.alloc (.cells (a8 fun _ => 0) 25)) W → W.frozen? ⟨V.heap.size, 1, none⟩ = false := fun V W => newF 1 (by omega)
  have bb2 : ∀ (V W : World), Kp non (V.alloc (.cells (a8 fun _ => 0) 25)) W → W.cell? ⟨V.heap.size, 2, none⟩ = some (.int .i64 0) := fun V W => newK 2 (by omega)
  have bf2 : ∀ (V W : World), Kp non (V.alloc (.cells (a8 fun _ => 0) 25)) W → W.frozen? ⟨V.heap.size, 2, none⟩ = false := fun V W => newF 2 (by omega)
  have bb3 : ∀ (V W : World), Kp non (V.alloc (.cells (a8 fun _ => 0) 25)) W → W.cell? ⟨V.heap.size, 3, none⟩ = some (.int .i64 0) := fun V W => newK 3 (by omega)
  have bf3 : ∀ (V W : World), Kp non (V.alloc (.cells (a8 fun _ => 0) 25)) W → W.frozen? ⟨V.heap.size, 3, none⟩ = false := fun V W => newF 3 (by omega)
  have bb4 : ∀ (V W : World), Kp non (V.alloc (.cells (a8 fun _ => 0) 25)) W → W.cell? ⟨V.heap.size, 4, none⟩ = some (.int .i64 0) := fun V W => newK 4 (by omega)
  have bf4 : ∀ (V W : World), Kp non (V.alloc (.cells (a8 fun _ => 0) 25)) W → W.frozen? ⟨V.heap.size, 4, none⟩ = false := fun V W => newF 4 (by omega)
  have bb5 : ∀ (V W : World), Kp non (V.alloc (.cells (a8 fun _ => 0) 25)) W → W.cell? ⟨V.heap.size, 5, none⟩ = some (.int .i64 0) := fun V W => newK 5 (by omega)
  have bf5 : ∀ (V W : World), Kp non (V.alloc (.cells (a8 fun _ => 0) 25)) W → W.frozen? ⟨V.heap.size, 5, none⟩ = false := fun V W => newF 5 (by omega)
  have bb6 : ∀ (V W : World), Kp non (V.alloc (.cells (a8 fun _ => 0) 25)) W → W.cell? ⟨V.heap.size, 6, none⟩ = some (.int .i64 0) := fun V W => newK 6 (by omega)
  have bf6 : ∀ (V W : World), Kp non (V.alloc (.cells (a8 fun _ => 0) 25)) W → W.frozen? ⟨V.heap.size, 6, none⟩ = false := fun V W => newF 6 (by omega)
  have bb7 : ∀ (V W : World), Kp non (V.alloc (.cells (a8 fun _ => 0) 25)) W → W.cell? ⟨V.heap.size, 7, none⟩ = some (.int .i64 0) := fun V W => newK 7 (by omega)
  have bf7 : ∀ (V W : World), Kp non (V.alloc (.cells (a8 fun _ => 0) 25)) W → W.frozen? ⟨V.heap.size, 7, none⟩ = false := fun V W => newF 7 (by omega)
  have hs : Kp non W0 W0.drew := (Kp.refl _ _).drew
  have hsa : Kp non W0 ((W0.alloc (.cells (a8 fun _ => 0) 25)).drew) := ((Kp.refl _ _).alloc _).drew
  go_cut [3] from 4 to 8 (fun t3 wx => ∃ b z, t3 = pt b 0 ∧ Hid (z = x * x * x ∧ Kp non W0 wx ∧ W0.heap.size ≤ b ∧ Ws wx b 8 (ew z)))
  case first =>
    go_region_held3 (fun w' => Kp non W0 w') (with_reducible first | assumption | exact LX.Kp.alloc (by assumption) _ | (refine kp_fresh8 ?_ ?_ _ _ _ _ _ _ _ _ <;> first | assumption | exact Nat.le_refl _))
      ((go_at_call 48; (refine (e48).mono ?_); rintro e y ⟨z, hz, rfl, hk⟩; with_reducible first
        | (have hk3 := LX.Kp.non hk1 hk; have hkd2 := LX.Kp.non hkd hk; have hz3 := hk3.size)
        | (have hk3 := LX.Kp.non (LX.Kp.alloc hk1 (.cells (a8 fun _ => 0) 25)) hk; have hkd2 := hk)
        | (have hk1 := LX.Kp.non hs hk; have hkd := Kp.of_drew hk; have hz1 := hk1.size; have hz0 := hz)
        | (have hk1 := LX.Kp.non hsa hk; have hkd := Kp.of_drew hk; have hz1 := hk1.size; have hz0 := hz)))
    · go_wp2_with fail
      go_meet
      case rel => exact ⟨_, z, rfl, Lib.hid ⟨by rw [hz.out, hz0.out], LX.Kp.alloc hk3 _, hz3, Ws.new8 _ 25 (ew z)⟩⟩
    · go_wp2_with fail
      go_meet
      case rel => exact ⟨_, z, rfl, Lib.hid ⟨by rw [hz.out, hz0.out], kp_fresh8 hk3 hz1 _ _ _ _ _ _ _ _, hz1, ((Ws.new8 _ 25 fun _ => 0).kp hkd2 fun _ _ h => h).st8 (ew z)⟩⟩
    · go_wp2_with fail
      go_meet
      case rel => exact ⟨_, z, rfl, Lib.hid ⟨by rw [hz.out, hz0.out], kp_fresh8 hk3 (Nat.le_refl _) _ _ _ _ _ _ _ _, Nat.le_refl _, ((Ws.new8 _ 25 fun _ => 0).kp hkd2 fun _ _ h => h).st8 (ew z)⟩⟩
  case rest =>
    obtain ⟨b, z, rfl, hcut⟩ := hcut
    obtain ⟨hz, hk0, hb, hB⟩ := hcut.out
    replace hz := Lib.hid hz
    have hA := h0.kp hk0 fun _ _ h => h
    have hR := h1.kp hk0 fun _ _ h => h
    have kw := k0.non hk0
    clear hcut bb0 bf0 p0 bb1 bf1 p1 bb2 bf2 p2 bb3 bf3 p3 bb4 bf4 p4 bb5 bf5 p5 bb6 bf6 p6 bb7 bf7 p7 hs hsa h0 h1 k0 hk0
    have p0 : ∀ W, Kp (at_ (H + 1) 0 8) wc W → W.cell? ⟨H, 0, none⟩ = some (.int .i64 (ew x 0)) := fun W => cellT (hA 0 (by omega)).1 (by intro h; have := h.1; omega)
    have q0 : ∀ W, Kp (at_ (H + 1) 0 8) wc W → W.cell? ⟨b, 0, none⟩ = some (.int .i64 (ew z 0)) := fun W => cellT (hB 0 (by omega)).1 (by intro h; have := h.1; omega)
    have p1 : ∀ W, Kp (at_ (H + 1) 0 8) wc W → W.cell? ⟨H, 1, none⟩ = some (.int .i64 (ew x 1)) := fun W => cellT (hA 1 (by omega)).1 (by intro h; have := h.1; omega)
    have q1 : ∀ W, Kp (at_ (H + 1) 0 8) wc W → W.cell? ⟨b, 1, none⟩ = some (.int .i64 (ew z 1)) := fun W => cellT (hB 1 (by omega)).1 (by intro h; have := h.1; omega)
    have p2 : ∀ W, Kp (at_ (H + 1) 0 8) wc W → W.cell? ⟨H, 2, none⟩ = some (.int .i64 (ew x 2)) := fun W => cellT (hA 2 (by omega)).1 (by intro h; have := h.1; omega)
    have q2 : ∀ W, Kp (at_ (H + 1) 0 8) wc W → W.cell? ⟨b, 2, none⟩ = some (.int .i64 (ew z 2)) := fun W => cellT (hB 2 (by omega)).1 (by intro h; have := h.1; omega)
    have p3 : ∀ W, Kp (at_ (H + 1) 0 8) wc W → W.cell? ⟨H, 3, none⟩ = some (.int .i64 (ew x 3)) := fun W => cellT (hA 3 (by omega)).1 (by intro h; have := h.1; omega)
    have q3 : ∀ W, Kp (at_ (H + 1) 0 8) wc W → W.cell? ⟨b, 3, none⟩ = some (.int .i64 (ew z 3)) := fun W => cellT (hB 3 (by omega)).1 (by intro h; have := h.1; omega)
    have p4 : ∀ W, Kp (at_ (H + 1) 0 8) wc W → W.cell? ⟨H, 4, none⟩ = some (.int .i64 (ew x 4)) := fun W => cellT (hA 4 (by omega)).1 (by intro h; have := h.1; omega)
    have q4 : ∀ W, Kp (at_ (H + 1) 0 8) wc W → W.cell? ⟨b, 4, none⟩ = some (.int .i64 (ew z 4)) := fun W => cellT (hB 4 (by omega)).1 (by intro h; have := h.1; omega)
    have p5 : ∀ W, Kp (at_ (H + 1) 0 8) wc W → W.cell? ⟨H, 5, none⟩ = some (.int .i64 (ew x 5)) := fun W => cellT (hA 5 (by omega)).1 (by intro h; have := h.1; omega)
    have q5 : ∀ W, Kp (at_ (H + 1) 0 8) wc W → W.cell? ⟨b, 5, none⟩ = some (.int .i64 (ew z 5)) := fun W => cellT (hB 5 (by omega)).1 (by intro h; have := h.1; omega)
    have p6 : ∀ W, Kp (at_ (H + 1) 0 8) wc W → W.cell? ⟨H, 6, none⟩ = some (.int .i64 (ew x 6)) := fun W => cellT (hA 6 (by omega)).1 (by intro h; have := h.1; omega)
    have q6 : ∀ W, Kp (at_ (H + 1) 0 8) wc W → W.cell? ⟨b, 6, none⟩ = some (.int .i64 (ew z 6)) := fun W => cellT (hB 6 (by omega)).1 (by intro h; have := h.1; omega)
    have p7 : ∀ W, Kp (at_ (H + 1) 0 8) wc W → W.cell? ⟨H, 7, none⟩ = some (.int .i64 (ew x 7)) := fun W => cellT (hA 7 (by omega)).1 (by intro h; have := h.1; omega)
    have q7 : ∀ W, Kp (at_ (H + 1) 0 8) wc W → W.cell? ⟨b, 7, none⟩ = some (.int .i64 (ew z 7)) := fun W => cellT (hB 7 (by omega)).1 (by intro h; have := h.1; omega)
    have hn0 : Kp non wc wc.drew := (Kp.refl _ _).drew
    have ht0 : Kp (at_ (H + 1) 0 8) wc wc.drew := kpW hn0
    replace hR := Lib.hid hR
    clear hA hB
    go_wp2_with fail
    go_region_held3 (fun w' => Kp (at_ (H + 1) 0 8) wc w') (with_reducible first | assumption | exact kpT8 (by assumption) _ _ _ _ _ _ _ _)
      (first
        | (go_at_call 52; (refine (e52).mono ?_); rintro e y1 ⟨z1, hz1, rfl, hk1⟩; have hn1 := LX.Kp.non hn0 hk1; have ht1 : Kp (at_ (H + 1) 0 8) wc y1 := kpW hn1)
        | (go_at_call 48; (refine (e48).mono ?_); rintro e y2 ⟨z2, hz2, rfl, hk2⟩; have hn2 := LX.Kp.non hn1 hk2; have ht2 : Kp (at_ (H + 1) 0 8) wc y2 := kpW hn2)
        | (go_at_call 37; (refine (e37).mono ?_); rintro e y3 ⟨z3, hz3, rfl, hk3⟩; have hn3 := LX.Kp.non hn2 hk3; have ht3 : Kp (at_ (H + 1) 0 8) wc y3 := kpW hn3)
        | (go_at_call 53; (refine (e53).mono ?_); rintro e y4 ⟨z4, hz4, rfl, hk4⟩; have hn4 := LX.Kp.non hn3 hk4; have ht4 : Kp (at_ (H + 1) 0 8) wc y4 := kpW hn4)
        | (go_at_call 51; (refine (e51).mono ?_); rintro e y5 ⟨z5, hz5, rfl, hk5⟩; have hn5 := LX.Kp.non hn4 hk5; have ht5 : Kp (at_ (H + 1) 0 8) wc y5 := kpW hn5; obtain ⟨c0, c1, c2, c3, c4, c5, c6, c7⟩ := ws8 (hR.out.kp hn5 fun _ _ h => h) (Nat.le_refl 8); obtain ⟨f0, f1, f2, f3, f4, f5, f6, f7⟩ := wf8 (hR.out.kp hn5 fun _ _ h => h) (Nat.le_refl 8)))
    go_wp2_with fail
    have hv : z5 = poly x := by rw [hz5.out, hz4.out, hz3.out, hz2.out, hz1.out, hz.out]; exact poly_eq x
    refine bodyPost_ret (v := .agg (a8 (ew z5))) (by simp [results, Try.results36, go_sem, *]) rfl ?_
    exact ⟨by rw [hv], kp_fresh8 (kw.non hn5) (by omega) _ _ _ _ _ _ _ _⟩
end Go.Proofs.Ytjdjhccefnffmaa
set_option maxRecDepth 100000
set_option maxHeartbeats 1000000
namespace Go.Proofs.Ytjdjhccefnffmaa
open Go LX Go.RowKit
theorem e36 {w : World} {x : EC.F} : Calls Try.prog 36 #[Ev x] w (Ex01 (poly x) w) := c36.mono Ev01.ex
/-- A bool comes back. -/
def Bo1 (p : Prop) (w : World) (e : Ending) (w' : World) : Prop := ∃ b : Bool, e = .returned (.bool b) ∧ (b = true ↔ p) ∧ Kp non w w'
theorem c34 {w : World} {x y : EC.F} : Calls Try.prog 34 #[Ev x, Ev y] w (Bo1 (y * y = poly x) w) := by
  have k0 : Kp non w ((w.alloc (.cells (a8 (ew x)) 25)).alloc (.cells (a8 (ew y)) 25)) := ((Kp.refl _ w).alloc _).alloc _
  have h0 := (Ws.new8 w 25 (ew x)).kp ((Kp.refl non _).alloc (.cells (a8 (ew y)) 25)) fun _ _ h => h
  have h1 := Ws.new8 (w.alloc (.cells (a8 (ew x)) 25)) 25 (ew y)
  simp only [size1] at h1
  show Calls Try.prog 34 #[.agg (a8 (ew x)), .agg (a8 (ew y))] w _
  go_enter Try.func34, Try.ntmps34
  go_wp2_with fail
  generalize w.heap.size = H at *
  generalize ((w.alloc (.cells (a8 (ew x)) 25)).alloc (.cells (a8 (ew y)) 25)) = W0 at *
  have p0 : ∀ W, Kp non W0 W → W.cell? ⟨H, 0, none⟩ = some (.int .i64 (ew x 0)) := fun W => cellK (h0 0 (by omega)).1
  have q0 : ∀ W, Kp non W0 W → W.cell? ⟨H + 1, 0, none⟩ = some (.int .i64 (ew y 0)) := fun W => cellK (h1 0 (by omega)).1
  have p1 : ∀ W, Kp non W0 W → W.cell? ⟨H, 1, none⟩ = some (.int .i64 (ew x 1)) := fun W => cellK (h0 1 (by omega)).1
  have q1 : ∀ W, Kp non W0 W → W.cell? ⟨H + 1, 1, none⟩ = some (.int .i64 (ew y 1)) := fun W => cellK (h1 1 (by omega)).1
  have p2 : ∀ W, Kp non W0 W → W.cell? ⟨H, 2, none⟩ = some (.int .i64 (ew x 2)) := fun W => cellK (h0 2 (by omega)).1
  have q2 : ∀ W, Kp non W0 W → W.cell? ⟨H + 1, 2, none⟩ = some (.int .i64 (ew y 2)) := fun W => cellK (h1 2 (by omega)).1
  have p3 : ∀ W, Kp non W0 W → W.cell? ⟨H, 3, none⟩ = some (.int .i64 (ew x 3)) := fun W => cellK (h0 3 (by omega)).1
  have q3 : ∀ W, Kp non W0 W → W.cell? ⟨H + 1, 3, none⟩ = some (.int .i64 (ew y 3)) := fun W => cellK (h1 3 (by omega)).1
  have p4 : ∀ W, Kp non W0 W → W.cell? ⟨H, 4, none⟩ = some (.int .i64 (ew x 4)) := fun W => cellK (h0 4 (by omega)).1
  have q4 : ∀ W, Kp non W0 W → W.cell? ⟨H + 1, 4, none⟩ = some (.int .i64 (ew y 4)) := fun W => cellK (h1 4 (by omega)).1
  have p5 : ∀ W, Kp non W0 W → W.cell? ⟨H, 5, none⟩ = some (.int .i64 (ew x 5)) := fun W => cellK (h0 5 (by omega)).1
  have q5 : ∀ W, Kp non W0 W → W.cell? ⟨H + 1, 5, none⟩ = some (.int .i64 (ew y 5)) := fun W => cellK (h1 5 (by omega)).1
  have p6 : ∀ W, Kp non W0 W → W.cell? ⟨H, 6, none⟩ = some (.int .i64 (ew x 6)) := fun W => cellK (h0 6 (by omega)).1
  have q6 : ∀ W, Kp non W0 W → W.cell? ⟨H + 1, 6, none⟩ = some (.int .i64 (ew y 6)) := fun W => cellK (h1 6 (by omega)).1
  have p7 : ∀ W, Kp non W0 W → W.cell? ⟨H, 7, none⟩ = some (.int .i64 (ew x 7)) := fun W => cellK (h0 7 (by omega)).1
  have q7 : ∀ W, Kp non W0 W → W.cell? ⟨H + 1, 7, none⟩ = some (.int .i64 (ew y 7)) := fun W => cellK (h1 7 (by omega)).1
  have hs : Kp non W0 W0.drew := (Kp.refl _ _).drew
  have hq := eq8
  clear h0 h1
  go_region_held3 (fun w' => Kp non W0 w') (with_reducible first | assumption | exact LX.Kp.non (by assumption) (by assumption))
    (first
      | (go_at_call 48; (refine (e48).mono ?_); rintro e y1 ⟨z, hz, rfl, hk⟩; have hk1 := LX.Kp.non hs hk)
      | (go_at_call 36; (refine (e36).mono ?_); rintro e y2 ⟨z2, hz2, rfl, hk2⟩; have hk3 := LX.Kp.non hk1 hk2))
  have kk := k0.non hk3
  have hd := Lib.hid (show (decide (z = z2) = true ↔ y * y = poly x) by rw [decide_eq_true_eq, hz.out, hz2.out])
  clear p0 q0 p1 q1 p2 q2 p3 q3 p4 q4 p5 q5 p6 q6 p7 q7 hq hz hz2
  go_wp2_with fail
  go_ret
  exact ⟨_, rfl, hd.out, kk⟩
/-- The words of the prime less 2. -/
theorem inv_lit : a8 (nw (EC.P - 2)) = #[.int .i64 4294967293, .int .i64 4294967295, .int .i64 4294967295, .int .i64 0, .int .i64 0, .int .i64 0, .int .i64 1, .int .i64 4294967295] := by kernel_rfl
theorem pow_inv (x : EC.F) : EC.fpow x (EC.P - 2) = EC.inv x := Pw.inv (x := x) rfl rfl
theorem c33L {w : World} : Calls Try.prog 33 #[] w fun e w' => e = .returned (.agg #[.int .i64 4294967295, .int .i64 4294967295, .int .i64 4294967295, .int .i64 0, .int .i64 0, .int .i64 0, .int .i64 1, .int .i64 4294967295]) ∧ Kp non w w' := c33.mono fun _ _ h => ⟨h.1, h.2⟩
theorem cInv {w : World} {x : EC.F} : Calls Try.prog 50 #[Ev x, .agg #[.int .i64 4294967293, .int .i64 4294967295, .int .i64 4294967295, .int .i64 0, .int .i64 0, .int .i64 0, .int .i64 1, .int .i64 4294967295]] w (Ev01 (EC.inv x) w) := by
  rw [← inv_lit, ← pow_inv]
  exact c50 (by decide +kernel)
theorem c64 {w : World} {x : EC.F} : Calls Try.prog 64 #[Ev x] w (Ev01 (EC.inv x) w) := by
  have k0 : Kp non w ((w.alloc (.cells (a8 (ew x)) 25)).alloc (.cells (a8 fun _ => 0) 25)) := ((Kp.refl _ w).alloc _).alloc _
  have h0 := (Ws.new8 w 25 (ew x)).kp ((Kp.refl non _).alloc (.cells (a8 fun _ => 0) 25)) fun _ _ h => h
  have h1 := Ws.new8 (w.alloc (.cells (a8 (ew x)) 25)) 25 fun _ => 0
  simp only [size1] at h1
  have hlt := (h1 0 (by omega)).lt
  show Calls Try.prog 64 #[.agg (a8 (ew x))] w _
  go_enter Try.func64, Try.ntmps64
  go_wp2_with fail
  refine c33L.mono ?_
  rintro e w1 ⟨rfl, hk⟩
  replace k0 := k0.non hk
  replace h0 := h0.kp hk fun _ _ h => h
  replace h1 := h1.kp hk fun _ _ h => h
  have hsz := hk.size
  clear hk
  have ka : Kp non w1 (w1.alloc (.cells (a8 (nw (EC.P - 2))) 25)) := (Kp.refl _ _).alloc _
  rw [inv_lit] at ka
  have h2 := h0.kp ka fun _ _ h => h
  have h3 := h1.kp ka fun _ _ h => h
  obtain ⟨c0, c1, c2, c3, c4, c5, c6, c7⟩ := ws8 h2 (by omega)
  have k1 := k0.non ka
  replace h3 := Lib.hid h3
  clear h0 h1 k0 hlt hsz h2
  generalize hHH : w.heap.size = H at *
  go_wp2_with fail
  refine cInv.mono ?_
  rintro e w2 ⟨rfl, hk⟩
  have kk := k1.non hk
  obtain ⟨d0, d1, d2, d3, d4, d5, d6, d7⟩ := ws8 (h3.out.kp hk fun _ _ h => h) (by omega)
  obtain ⟨f0, f1, f2, f3, f4, f5, f6, f7⟩ := wf8 (h3.out.kp hk fun _ _ h => h) (by omega)
  clear c0 c1 c2 c3 c4 c5 c6 c7
  generalize hz : EC.inv x = z at *
  go_wp2_with fail
  refine bodyPost_ret (v := .agg (a8 (ew z))) (by simp [results, Try.results64, go_sem, *]) rfl ?_
  exact ⟨rfl, kp_fresh8 kk (by omega) _ _ _ _ _ _ _ _⟩
end Go.Proofs.Ytjdjhccefnffmaa
set_option maxRecDepth 100000
set_option maxHeartbeats 1000000
namespace Go.Proofs.Ytjdjhccefnffmaa
open Go LX Go.RowKit
/-- The prime's words, one more. -/
def gR (i : Nat) : Int := [4294967296, 4294967295, 4294967295, 0, 0, 0, 1, 4294967295].getD i 0
theorem gR_bd : ∀ i, i < 8 → -1152921504606846976 ≤ gR i ∧ gR i ≤ 1152921504606846976 := by decide
theorem gR_lit : a8 gR = #[.int .i64 4294967296, .int .i64 4294967295, .int .i64 4294967295, .int .i64 0, .int .i64 0, .int .i64 0, .int .i64 1, .int .i64 4294967295] := by kernel_rfl
theorem gR_cw : a8 (cw gR) = a8 (nw (EC.P + 1)) := by kernel_rfl
theorem gR_cc : cc gR 8 = 0 := by decide
theorem cCar {w : World} : Calls Try.prog 49 #[.agg #[.int .i64 4294967296, .int .i64 4294967295, .int .i64 4294967295, .int .i64 0, .int .i64 0, .int .i64 0, .int .i64 1, .int .i64 4294967295]] w fun e w' => e = .returned (.tuple #[.agg (a8 (nw (EC.P + 1))), .int .i64 0]) ∧ Kp non w w' := by
  have h := c49 (w := w) gR_bd
  rw [gR_lit, gR_cw, gR_cc] at h
  exact h
theorem and3 (x : Int) : bits .and .i64 x 3 = x % 4 := by
  have h2 : (BitVec.ofInt 64 3).toNat = 2 ^ 2 - 1 := by decide
  show IntKind.i64.wrap ((BitVec.ofInt 64 x &&& BitVec.ofInt 64 3).toNat : Int) = _
  rw [BitVec.toNat_and, h2, Nat.and_two_pow_sub_one_eq_mod, BitVec.toNat_ofInt, IntKind.wrap_i64]
  omega
theorem quarter : ∀ k, k < 7 → nw (EC.P + 1) k / 4 + nw (EC.P + 1) (k + 1) % 4 * 1073741824 = nw ((EC.P + 1) / 4) k := by decide +kernel
theorem quarter7 : nw (EC.P + 1) 7 / 4 = nw ((EC.P + 1) / 4) 7 := by decide +kernel
theorem nw_bd (n i : Nat) : 0 ≤ nw n i ∧ nw n i < 4294967296 := by unfold nw; omega
/-- The first k words done. -/
def qt (k j : Nat) : Int := if j < k then nw ((EC.P + 1) / 4) j else gR j
theorem qt_step (k j : Nat) : wset (qt k) k (nw ((EC.P + 1) / 4) k) j = qt (k + 1) j := by
  unfold wset qt
  by_cases e : j = k
  · subst e; rw [if_pos rfl, if_pos (by omega)]
  · rw [if_neg e]
    by_cases e2 : j < k
    · rw [if_pos e2, if_pos (by omega)]
    · rw [if_neg e2, if_neg (by omega)]
/-- The root, and whether it is one. -/
def Rt01 (a : EC.F) (w : World) (e : Ending) (w' : World) : Prop := ∃ b : Bool, e = .returned (.tuple #[Ev (rt a), .bool b]) ∧ (b = true ↔ rt a * rt a = a) ∧ Kp non w w'
theorem c35 {w : World} {a : EC.F} : Calls Try.prog 35 #[Ev a] w (Rt01 a w) := by
  have k0 : Kp non w ((w.alloc (.cells (a8 (ew a)) 25)).alloc (.cells (a8 fun _ => 0) 25)) := ((Kp.refl _ w).alloc _).alloc _
  have h0 := (Ws.new8 w 25 (ew a)).kp ((Kp.refl non _).alloc (.cells (a8 fun _ => 0) 25)) fun _ _ h => h
  have h1 := Ws.new8 (w.alloc (.cells (a8 (ew a)) 25)) 25 fun _ => 0
  simp only [size1] at h1
  have hlt := (h1 0 (by omega)).lt
  show Calls Try.prog 35 #[.agg (a8 (ew a))] w _
  go_enter Try.func35, Try.ntmps35
  go_wp2_with fail
  refine c33L.mono ?_
  rintro e w1 ⟨rfl, hk⟩
  replace k0 := k0.non hk
  replace h0 := h0.kp hk fun _ _ h => h
  replace h1 := h1.kp hk fun _ _ h => h
  have hsz := hk.size
  clear hk
  have ka : Kp non w1 (w1.alloc (.cells (a8 gR) 25)) := (Kp.refl _ _).alloc _
  have h2 := Ws.new8 w1 25 gR
  replace h0 := h0.kp ka fun _ _ h => h
  replace h1 := h1.kp ka fun _ _ h => h
  replace k0 := k0.non ka
  rw [gR_lit] at ka h2 h0 h1 k0
  have hE : w.heap.size + 1 < w1.heap.size := by have := hlt; simp only [size1] at this hsz; omega
  clear ka hsz hlt
  go_wp2_with fail
  refine cCar.mono ?_
  rintro e w2 ⟨rfl, hk⟩
  replace k0 := k0.non hk
  replace h0 := h0.kp hk fun _ _ h => h
  replace h1 := h1.kp hk fun _ _ h => h
  replace h2 := h2.kp hk fun _ _ h => h
  have hF : w1.heap.size < w2.heap.size := (h2 0 (by omega)).lt
  clear hk
  have ka : Kp non w2 (w2.alloc (.cells (a8 (nw (EC.P + 1))) 25)) := (Kp.refl _ _).alloc _
  have h3 := Ws.new8 w2 25 (nw (EC.P + 1))
  replace k0 := k0.non ka
  replace h0 := h0.kp ka fun _ _ h => h
  replace h1 := h1.kp ka fun _ _ h => h
  replace h2 := (h2.kp ka fun _ _ h => h).congr (f := qt 0) fun j _ => by unfold qt; rw [if_neg (by omega)]
  clear ka
  go_wp2_with fail
  generalize hHH : w.heap.size = H at *
  generalize hEE : w1.heap.size = E at *
  generalize hFF : w2.heap.size = F at *
  go_loopw [7] (fun i wr => ∃ k : Nat, k ≤ 8 ∧ i = .int .i64 (k : Int) ∧ Kp non w wr ∧ Ws wr H 8 (ew a) ∧ Ws wr (H + 1) 8 (fun _ => 0) ∧ Ws wr E 8 (qt k) ∧ Ws wr F 8 (nw (EC.P + 1))) (fun i _ => 8 - (intOf i).toNat)
  case atStart => exact ⟨0, by omega, rfl, k0, h0, h1, h2, h3⟩
  case round =>
    clear k0 h0 h1 h2 h3
    obtain ⟨k, hk, rfl, kx, h0, h1, h2, h3⟩ := hrel
    by_cases hlt : k < 8
    · have a1 : (k : Int) < 8 := by omega
      have c2 := (h2 k hlt).1
      have f2 := (h2 k hlt).2
      have c3 := (h3 k hlt).1
      by_cases h7 : k < 7
      · have a2 : (k : Int) < 7 := by omega
        have a3 : IntKind.i64.wrap ((k : Int) + 1) = (k : Int) + 1 := by rw [IntKind.wrap_i64]; omega
        have a4 : (k : Int) + 1 < 8 := by omega
        have a5 : (0 : Int) ≤ (k : Int) + 1 := by omega
        have a6 : ((k : Int) + 1).toNat = k + 1 := by omega
        have hq := quarter k h7
        have b1 := nw_bd (EC.P + 1) k
        have b2 := nw_bd (EC.P + 1) (k + 1)
        generalize nw (EC.P + 1) k = x at *
        generalize hy : nw (EC.P + 1) (k + 1) = y at *
        have e1 : ((wr.setCell ⟨E, k, none⟩ (.int .i64 (x / 4))).drew).cell? ⟨F, k + 1, none⟩ = some (.int .i64 y) := by rw [← hy]; exact ((h3.other (b' := E) (o' := k) (v := .int .i64 (x / 4)) (by omega) rfl) (k + 1) (by omega)).1
        have e2 : ((wr.setCell ⟨E, k, none⟩ (.int .i64 (x / 4))).drew).cell? ⟨E, k, none⟩ = some (.int .i64 (x / 4)) := ((h2 k hlt).set_same _).1
        have e3 : ((wr.setCell ⟨E, k, none⟩ (.int .i64 (x / 4))).drew).frozen? ⟨E, k, none⟩ = false := ((h2 k hlt).set_same (.int .i64 (x / 4))).2
        have m1 := and3 y
        have m2 : IntKind.i64.wrap (y % 4 * 1073741824) = y % 4 * 1073741824 := by rw [IntKind.wrap_i64]; omega
        have m3 : IntKind.i64.wrap (x / 4 + y % 4 * 1073741824) = x / 4 + y % 4 * 1073741824 := by rw [IntKind.wrap_i64]; omega
        go_wp2_with fail
        go_region
        have q2 := h2.set (n := k) (x / 4)
        have q2 := (q2.set (n := k) (nw ((EC.P + 1) / 4) k)).drew
        replace q2 := q2.congr (f := qt (k + 1)) fun j _ => by
          rw [← qt_step]
          unfold wset
          by_cases e : j = k
          · rw [if_pos e, if_pos e]
          · rw [if_neg e, if_neg e, if_neg e]
        replace h0 := ((h0.other (b' := E) (o' := k) (v := .int .i64 (x / 4)) (by omega) rfl).other (b' := E) (o' := k) (v := .int .i64 (nw ((EC.P + 1) / 4) k)) (by omega) rfl).drew
        replace h1 := ((h1.other (b' := E) (o' := k) (v := .int .i64 (x / 4)) (by omega) rfl).other (b' := E) (o' := k) (v := .int .i64 (nw ((EC.P + 1) / 4) k)) (by omega) rfl).drew
        replace h3 := ((h3.other (b' := E) (o' := k) (v := .int .i64 (x / 4)) (by omega) rfl).other (b' := E) (o' := k) (v := .int .i64 (nw ((EC.P + 1) / 4) k)) (by omega) rfl).drew
        replace kx := (kp_fresh (kp_fresh kx (b := E) (by omega) k (.int .i64 (x / 4))) (b := E) (by omega) k (.int .i64 (nw ((EC.P + 1) / 4) k))).drew
        clear e1 e2 e3 m1 m2 m3 c2 f2 c3
        go_wp2_with fail
        go_roundw
        case rel => exact ⟨k + 1, by omega, by go_num, kx, h0, h1, q2, h3⟩
        case measure => simp [intOf]; omega
      · obtain rfl : k = 7 := by omega
        have hq := quarter7
        have q2 := (h2.set (n := 7) (nw ((EC.P + 1) / 4) 7)).congr (f := qt 8) fun j _ => qt_step 7 j
        replace h0 := h0.other (b' := E) (o' := 7) (v := .int .i64 (nw ((EC.P + 1) / 4) 7)) (by omega) rfl
        replace h1 := h1.other (b' := E) (o' := 7) (v := .int .i64 (nw ((EC.P + 1) / 4) 7)) (by omega) rfl
        replace h3 := h3.other (b' := E) (o' := 7) (v := .int .i64 (nw ((EC.P + 1) / 4) 7)) (by omega) rfl
        replace kx := kp_fresh kx (b := E) (by omega) 7 (.int .i64 (nw ((EC.P + 1) / 4) 7))
        go_wp2_with fail
        clear c2 f2 c3 hq
        go_roundw
        case rel => exact ⟨8, by omega, by go_num, kx, h0, h1, q2, h3⟩
        case measure => simp [intOf]
    · obtain rfl : k = 8 := by omega
      replace h2 := h2.congr (f := nw ((EC.P + 1) / 4)) fun j hj => by unfold qt; rw [if_pos hj]
      obtain ⟨c0, c1, c2, c3, c4, c5, c6, c7⟩ := ws8 h0 (by omega)
      obtain ⟨d0, d1, d2, d3, d4, d5, d6, d7⟩ := ws8 h2 (by omega)
      clear h2 h3
      go_wp2_with fail
      refine (c50 (a := a) (E := (EC.P + 1) / 4) (by decide +kernel)).mono ?_
      rintro e w3 ⟨rfl, hk⟩
      replace kx := kx.non hk
      replace h0 := h0.kp hk fun _ _ h => h
      replace h1 := h1.kp hk fun _ _ h => h
      have hl1 := (h1 0 (by omega)).lt
      clear c0 c1 c2 c3 c4 c5 c6 c7 d0 d1 d2 d3 d4 d5 d6 d7 hk
      have hrt : EC.fpow a ((EC.P + 1) / 4) = rt a := rfl
      generalize EC.fpow a ((EC.P + 1) / 4) = z at *
      replace hrt := Lib.hid hrt
      have ka : Kp non w3 (w3.alloc (.cells (a8 (ew z)) 25)) := (Kp.refl _ _).alloc _
      have h4 := Ws.new8 w3 25 (ew z)
      replace kx := kx.non ka
      replace h0 := h0.kp ka fun _ _ h => h
      replace h1 := h1.kp ka fun _ _ h => h
      clear ka
      go_wp2_with fail
      generalize hRR : w3.heap.size = R at *
      generalize (w3.alloc (.cells (a8 (ew z)) 25)) = W0 at *
      have p0 : ∀ W, Kp (at_ (H + 1) 0 8) W0 W → W.cell? ⟨H, 0, none⟩ = some (.int .i64 (ew a 0)) := fun W => cellT (h0 0 (by omega)).1 (by intro h; have := h.1; omega)
      have q0 : ∀ W, Kp (at_ (H + 1) 0 8) W0 W → W.cell? ⟨R, 0, none⟩ = some (.int .i64 (ew z 0)) := fun W => cellT (h4 0 (by omega)).1 (by intro h; have := h.1; omega)
      have p1 : ∀ W, Kp (at_ (H + 1) 0 8) W0 W → W.cell? ⟨H, 1, none⟩ = some (.int .i64 (ew a 1)) := fun W => cellT (h0 1 (by omega)).1 (by intro h; have := h.1; omega)
      have q1 : ∀ W, Kp (at_ (H + 1) 0 8) W0 W → W.cell? ⟨R, 1, none⟩ = some (.int .i64 (ew z 1)) := fun W => cellT (h4 1 (by omega)).1 (by intro h; have := h.1; omega)
      have p2 : ∀ W, Kp (at_ (H + 1) 0 8) W0 W → W.cell? ⟨H, 2, none⟩ = some (.int .i64 (ew a 2)) := fun W => cellT (h0 2 (by omega)).1 (by intro h; have := h.1; omega)
      have q2 : ∀ W, Kp (at_ (H + 1) 0 8) W0 W → W.cell? ⟨R, 2, none⟩ = some (.int .i64 (ew z 2)) := fun W => cellT (h4 2 (by omega)).1 (by intro h; have := h.1; omega)
      have p3 : ∀ W, Kp (at_ (H + 1) 0 8) W0 W → W.cell? ⟨H, 3, none⟩ = some (.int .i64 (ew a 3)) := fun W => cellT (h0 3 (by omega)).1 (by intro h; have := h.1; omega)
      have q3 : ∀ W, Kp (at_ (H + 1) 0 8) W0 W → W.cell? ⟨R, 3, none⟩ = some (.int .i64 (ew z 3)) := fun W => cellT (h4 3 (by omega)).1 (by intro h; have := h.1; omega)
      have p4 : ∀ W, Kp (at_ (H + 1) 0 8) W0 W → W.cell? ⟨H, 4, none⟩ = some (.int .i64 (ew a 4)) := fun W => cellT (h0 4 (by omega)).1 (by intro h; have := h.1; omega)
      have q4 : ∀ W, Kp (at_ (H + 1) 0 8) W0 W → W.cell? ⟨R, 4, none⟩ = some (.int .i64 (ew z 4)) := fun W => cellT (h4 4 (by omega)).1 (by intro h; have := h.1; omega)
      have p5 : ∀ W, Kp (at_ (H + 1) 0 8) W0 W → W.cell? ⟨H, 5, none⟩ = some (.int .i64 (ew a 5)) := fun W => cellT (h0 5 (by omega)).1 (by intro h; have := h.1; omega)
      have q5 : ∀ W, Kp (at_ (H + 1) 0 8) W0 W → W.cell? ⟨R, 5, none⟩ = some (.int .i64 (ew z 5)) := fun W => cellT (h4 5 (by omega)).1 (by intro h; have := h.1; omega)
      have p6 : ∀ W, Kp (at_ (H + 1) 0 8) W0 W → W.cell? ⟨H, 6, none⟩ = some (.int .i64 (ew a 6)) := fun W => cellT (h0 6 (by omega)).1 (by intro h; have := h.1; omega)
      have q6 : ∀ W, Kp (at_ (H + 1) 0 8) W0 W → W.cell? ⟨R, 6, none⟩ = some (.int .i64 (ew z 6)) := fun W => cellT (h4 6 (by omega)).1 (by intro h; have := h.1; omega)
      have p7 : ∀ W, Kp (at_ (H + 1) 0 8) W0 W → W.cell? ⟨H, 7, none⟩ = some (.int .i64 (ew a 7)) := fun W => cellT (h0 7 (by omega)).1 (by intro h; have := h.1; omega)
      have q7 : ∀ W, Kp (at_ (H + 1) 0 8) W0 W → W.cell? ⟨R, 7, none⟩ = some (.int .i64 (ew z 7)) := fun W => cellT (h4 7 (by omega)).1 (by intro h; have := h.1; omega)
      have hn0 : Kp non W0 W0.drew := (Kp.refl _ _).drew
      have ht0 : Kp (at_ (H + 1) 0 8) W0 W0.drew := kpW hn0
      replace h1 := Lib.hid h1
      have hq := eq8
      clear h0 h4
      go_region_held3 (fun w' => Kp (at_ (H + 1) 0 8) W0 w') (with_reducible first | assumption | exact kpT8 (by assumption) _ _ _ _ _ _ _ _)
        ((go_at_call 48; (refine (e48).mono ?_); rintro e y1 ⟨z1, hz1, rfl, hk1⟩; have hn1 := LX.Kp.non hn0 hk1; have ht1 : Kp (at_ (H + 1) 0 8) W0 y1 := kpW hn1; obtain ⟨c0, c1, c2, c3, c4, c5, c6, c7⟩ := ws8 (h1.out.kp hn1 fun _ _ h => h) (Nat.le_refl 8); obtain ⟨f0, f1, f2, f3, f4, f5, f6, f7⟩ := wf8 (h1.out.kp hn1 fun _ _ h => h) (Nat.le_refl 8)))
      have hd := Lib.hid (show (decide (z1 = a) = true ↔ rt a * rt a = a) by rw [decide_eq_true_eq, hz1.out, hrt.out])
      have kk := kp_fresh8 (kx.non hn1) (b := H + 1) (by omega)
      clear p0 p1 p2 p3 p4 p5 p6 p7 q0 q1 q2 q3 q4 q5 q6 q7 hq hz1
      go_wp2_with fail
      refine bodyPost_ret (v := .tuple #[.agg (a8 (ew z)), .bool (decide (z1 = a))]) (by simp [results, Try.results35, go_sem, *]) rfl ?_
      exact ⟨_, by rw [← hrt.out], hd.out, kk _ _ _ _ _ _ _ _⟩
end Go.Proofs.Ytjdjhccefnffmaa
