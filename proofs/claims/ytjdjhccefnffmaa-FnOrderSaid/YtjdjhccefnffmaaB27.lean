import Derived.Test.YtjdjhccefnffmaaB25
import Derived.Test.YtjdjhccefnffmaaB26
import Derived.WalkKit
import Derived.ProofKit
import Derived.OpenShut
import Derived.ShutString
import Derived.ChangeOld
import Derived.Below
set_option linter.unusedVariables false
set_option linter.unusedSimpArgs false
set_option maxRecDepth 100000
set_option maxHeartbeats 1000000
namespace Go.Proofs.Ytjdjhccefnffmaa
open Go LX Go.RowKit
/-- The cells of a point of the curve. -/
def PA (w : World) (b : Nat) (P : EC.Pt) : Prop := ∃ fr x y, pvL P = pl fr x y ∧ Pl w b fr x y
theorem PA.kp {w w' : World} {b : Nat} {P : EC.Pt} {S : Nat → Nat → Prop} (h : PA w b P) (hk : Kp S w w') (hS : ∀ o, ¬ S b o) : PA w' b P := by
  obtain ⟨fr, x, y, e, h⟩ := h
  exact ⟨fr, x, y, e, h.kp hk hS⟩
theorem bit_byte (K k : Nat) (hk : k < 256) : K / 256 ^ (31 - k / 8) % 256 / 2 ^ (7 - k % 8) % 2 = K / 2 ^ (255 - k) % 2 := by
  have e1 : (256 : Nat) ^ (31 - k / 8) = 2 ^ (8 * (31 - k / 8)) := by rw [Nat.pow_mul]
  have e2 : (256 : Nat) = 2 ^ (7 - k % 8) * (2 * 2 ^ (k % 8)) := by
    rw [← Nat.pow_succ', ← Nat.pow_add, show 7 - k % 8 + (k % 8 + 1) = 8 by omega]
  have e3 : 255 - k = 8 * (31 - k / 8) + (7 - k % 8) := by omega
  rw [e1, e3, Nat.pow_add, ← Nat.div_div_eq_div_mul]
  generalize K / 2 ^ (8 * (31 - k / 8)) = m
  have e4 : m % 256 = m % (2 ^ (7 - k % 8) * (2 * 2 ^ (k % 8))) := by rw [← e2]
  rw [e4, Nat.mod_mul_right_div_self, Nat.mod_mul_right_mod]
theorem mul_dbl {P : EC.Pt} (hP : P.Ok) (n : Nat) : (EC.Pt.mul n P).sum (EC.Pt.mul n P) = EC.Pt.mul (2 * n) P := by
  rw [← EC.Pt.mul_add hP, Nat.two_mul]
theorem and1b (x : Nat) (h : x < 256) : bits .and .u8 (x : Int) 1 = ((x % 2 : Nat) : Int) := by
  rw [show (1 : Int) = ((1 : Nat) : Int) from rfl, bits_and_u8 x 1 h (by omega), Nat.and_one_is_mod]
/-- spec.Multiple. -/
theorem c16 {w : World} {f : Nat → Nat} {P : EC.Pt} (hf : ∀ i, i < 32 → f i < 256) (hP : P.Ok) : Calls Try.prog 16 #[.agg (bys f 32), .agg (pvL P).toArray] w (Pv01 (EC.Pt.mul (hi8 f 32) P) w) := by
  have hz := z27
  obtain ⟨fr, x, y, e⟩ := pvL_pl P
  rw [e]
  have k0 : Kp non w ((((w.alloc (.cells (bys f 32) 23)).alloc (.cells (pl fr x y).toArray 27)).alloc (.cells (pl false (fun _ => 0) fun _ => 0).toArray 27)).alloc (.cells (pl false (fun _ => 0) fun _ => 0).toArray 27)) := ((((Kp.refl _ w).alloc _).alloc _).alloc _).alloc _
  have h0 := (((By.new w 23 f 32 hf).kp ((Kp.refl non _).alloc (.cells (pl fr x y).toArray 27)) fun _ _ h => h).kp ((Kp.refl non _).alloc (.cells (pl false (fun _ => 0) fun _ => 0).toArray 27)) fun _ _ h => h).kp ((Kp.refl non _).alloc (.cells (pl false (fun _ => 0) fun _ => 0).toArray 27)) fun _ _ h => h
  have h1 := ((Pl.new (w.alloc (.cells (bys f 32) 23)) 27 fr x y).kp ((Kp.refl non _).alloc (.cells (pl false (fun _ => 0) fun _ => 0).toArray 27)) fun _ h => h).kp ((Kp.refl non _).alloc (.cells (pl false (fun _ => 0) fun _ => 0).toArray 27)) fun _ h => h
  have h2 := (Pl.new ((w.alloc (.cells (bys f 32) 23)).alloc (.cells (pl fr x y).toArray 27)) 27 false (fun _ => 0) (fun _ => 0)).kp ((Kp.refl non _).alloc (.cells (pl false (fun _ => 0) fun _ => 0).toArray 27)) fun _ h => h
  have h3 := Pl.new (((w.alloc (.cells (bys f 32) 23)).alloc (.cells (pl fr x y).toArray 27)).alloc (.cells (pl false (fun _ => 0) fun _ => 0).toArray 27)) 27 false (fun _ => 0) (fun _ => 0)
  simp only [size1] at h1 h2 h3
  have hpl : ¬ (pl false (fun _ => 0) fun _ => 0) = [] := by simp [pl]
  obtain ⟨K, hK⟩ : ∃ K, K = hi8 f 32 := ⟨_, rfl⟩
  rw [← hK]
  have hfK : ∀ j, j < 32 → f j = K / 256 ^ (31 - j) % 256 := fun j hj => by
    have := be_hi8 hf j hj
    rw [← hK] at this
    unfold be at this
    exact this.symm
  have hKl : K < 256 ^ 32 := hK ▸ hi8_ltp hf 32 (Nat.le_refl _)
  replace hfK := Lib.hid hfK
  replace hKl := Lib.hid hKl
  have he := Lib.hid e
  clear hK e
  go_enter Try.func16, Try.ntmps16
  go_wp2_with (refine wpList_storeP rfl _ _ rfl (w.heap.size + 1 + 1 + 1) true (fun _ => 0) (fun _ => 0) rfl rfl h3 ?_; intro W kW hW)
  have hx := Nat.le_refl w.heap.size
  have g0 := h0.kp kW fun i _ h => by have := h.1; omega
  have g1 := h1.kp kW fun i h => by have := h.1; omega
  have g2 := h2.kp kW fun i h => by have := h.1; omega
  have gk := kp_in k0 kW (by omega)
  have g3 : PA W (w.heap.size + 1 + 1 + 1) .far := ⟨true, fun _ => 0, fun _ => 0, rfl, hW⟩
  clear k0 h0 h1 h2 h3 kW hW hpl
  generalize hHH : w.heap.size = H at *
  go_loopw [6] (fun i wr => ∃ k : Nat, k ≤ 256 ∧ i = .int .i64 (k : Int) ∧ Kp non w wr ∧ By wr H 0 32 f ∧ Pl wr (H + 1) fr x y ∧ Pl wr (H + 1 + 1) false (fun _ => 0) (fun _ => 0) ∧ PA wr (H + 1 + 1 + 1) (EC.Pt.mul (K / 2 ^ (256 - k)) P)) (fun i _ => 256 - (intOf i).toNat)
  case atStart => exact ⟨0, by omega, rfl, gk, g0, g1, g2, by
    rw [Nat.div_eq_of_lt (show K < 2 ^ (256 - 0) from Nat.lt_of_lt_of_eq hKl.out (by decide +kernel))]; exact g3⟩
  case round =>
    clear gk g0 g1 g2 g3
    obtain ⟨k, hk, rfl, kx, h0, h1, h2, h3⟩ := hrel
    by_cases hlt : k < 256
    · have a1 : (k : Int) < 256 := by omega
      obtain ⟨s, hs⟩ : ∃ s, s = K / 2 ^ (256 - k) := ⟨_, rfl⟩
      rw [← hs] at h3
      obtain ⟨fr3, x3, y3, e3, h3⟩ := h3
      have hc := c43 (w := wr) (P := EC.Pt.mul s P) (Q := EC.Pt.mul s P)
      rw [e3, mul_dbl hP] at hc
      go_wp2_with (refine wpList_load27 rfl _ rfl (H + 1 + 1 + 1) rfl _ _ _ h3 ?_)
      refine hc.mono ?_
      clear hc e3
      rintro e w1 ⟨he1, hj⟩
      obtain ⟨fr4, x4, y4, e4⟩ := pvL_pl (EC.Pt.mul (2 * s) P)
      rw [e4] at he1
      subst he1
      replace e4 := Lib.hid e4
      replace h0 := h0.kp hj fun _ _ h => h
      replace h1 := h1.kp hj fun _ h => h
      replace h2 := h2.kp hj fun _ h => h
      replace h3 := h3.kp hj fun _ h => h
      replace kx := kx.non hj
      clear hj
      obtain ⟨q, hq⟩ : ∃ q, q = k / 8 := ⟨_, rfl⟩
      obtain ⟨r, hr⟩ : ∃ r, r = k % 8 := ⟨_, rfl⟩
      have hbit := bit_byte K k hlt
      rw [← hq, ← hr, ← hfK.out q (by omega)] at hbit
      have hq2 : q < 32 := by omega
      have hF := hf q hq2
      have a2 : (k : Int).tdiv 8 = (q : Int) := by rw [Int.tdiv_eq_ediv_of_nonneg (by omega)]; omega
      have a3 : (k : Int).tmod 8 = (r : Int) := by rw [Int.tmod_eq_emod_of_nonneg (by omega)]; omega
      have a4 : (q : Int) < 32 := by omega
      obtain ⟨t, ht⟩ : ∃ t, t = 7 - r := ⟨_, rfl⟩
      rw [← ht] at hbit
      have a5 : IntKind.i64.wrap (7 - (r : Int)) = (t : Int) := by rw [IntKind.wrap_i64]; omega
      have a6 : 7 - (r : Int) = (t : Int) := by omega
      have a7 : (t : Int) < 8 := by omega
      have a8 := and1b (f q / 2 ^ t) (Nat.lt_of_le_of_lt (Nat.div_le_self _ _) hF)
      rw [hbit, Int.natCast_ediv, Int.natCast_pow, show ((2 : Nat) : Int) = 2 from rfl] at a8
      have hnext : K / 2 ^ (256 - (k + 1)) = 2 * s + K / 2 ^ (255 - k) % 2 := by
        rw [hs, show 256 - k = (255 - k) + 1 by omega, Nat.pow_succ, ← Nat.div_div_eq_div_mul, show 256 - (k + 1) = 255 - k by omega]
        omega
      have hbb : K / 2 ^ (255 - k) % 2 = 0 ∨ K / 2 ^ (255 - k) % 2 = 1 := by omega
      replace hnext := Lib.hid hnext
      clear hs hq hr ht hbit
      rcases hbb with hb | hb
      · rw [hb] at a8
        replace hb := Lib.hid hb
        go_wp2_with (refine wpList_storeP rfl _ _ rfl (H + 1 + 1 + 1) fr4 x4 y4 rfl rfl h3 ?_; (intro W2 k2 h3; have h0 := h0.kp k2 (fun i _ h => by have := h.1; omega); have h1 := h1.kp k2 (fun i h => by have := h.1; omega); have h2 := h2.kp k2 (fun i h => by have := h.1; omega); have kx := kp_in kx k2 (by omega); have cq := (h0 q hq2).1.1; rw [Nat.zero_add] at cq))
        go_roundw
        case rel => exact ⟨k + 1, by omega, by go_num, kx, h0, h1, h2, fr4, x4, y4, by rw [hnext.out, hb.out, Nat.add_zero, e4.out], h3⟩
        case measure => simp [intOf]; omega
      · rw [hb] at a8
        replace hb := Lib.hid hb
        go_wp2_with (first | (refine wpList_storeP rfl _ _ rfl (H + 1 + 1 + 1) fr4 x4 y4 rfl rfl h3 ?_; (intro W2 k2 g3; have h0 := h0.kp k2 (fun i _ h => by have := h.1; omega); have h1 := h1.kp k2 (fun i h => by have := h.1; omega); have h2 := h2.kp k2 (fun i h => by have := h.1; omega); have kx := kp_in kx k2 (by omega); have cq := (h0 q hq2).1.1; rw [Nat.zero_add] at cq)) | (refine wpList_load27 rfl _ rfl (H + 1 + 1 + 1) rfl _ _ _ g3 ?_) | (refine wpList_load27 rfl _ rfl (H + 1) rfl _ _ _ h1 ?_))
        have hc := c43 (w := W2) (P := EC.Pt.mul (2 * s) P) (Q := P)
        rw [e4.out, he.out] at hc
        refine hc.mono ?_
        clear hc
        rintro e w3 ⟨he1, hj⟩
        obtain ⟨fr5, x5, y5, e5⟩ := pvL_pl ((EC.Pt.mul (2 * s) P).sum P)
        rw [e5] at he1
        subst he1
        replace e5 := Lib.hid e5
        replace h0 := h0.kp hj fun _ _ h => h
        replace h1 := h1.kp hj fun _ h => h
        replace h2 := h2.kp hj fun _ h => h
        replace g3 := g3.kp hj fun _ h => h
        replace kx := kx.non hj
        clear hj cq a8 h3
        go_wp2_with (refine wpList_storeP rfl _ _ rfl (H + 1 + 1 + 1) fr5 x5 y5 rfl rfl g3 ?_; (intro W4 k4 h3; have h0 := h0.kp k4 (fun i _ h => by have := h.1; omega); have h1 := h1.kp k4 (fun i h => by have := h.1; omega); have h2 := h2.kp k4 (fun i h => by have := h.1; omega); have kx := kp_in kx k4 (by omega)))
        go_roundw
        case rel => exact ⟨k + 1, by omega, by go_num, kx, h0, h1, h2, fr5, x5, y5, by rw [hnext.out, hb.out]; exact e5.out, h3⟩
        case measure => simp [intOf]; omega
    · obtain rfl : k = 256 := by omega
      obtain ⟨fr3, x3, y3, e3, h3⟩ := h3
      rw [Nat.sub_self, Nat.pow_zero, Nat.div_one] at e3
      replace e3 := Lib.hid e3
      go_wp2_with (first | (refine wpList_load27 rfl _ rfl (H + 1 + 1 + 1) rfl _ _ _ h3 ?_) | (refine wpList_storeP rfl _ _ rfl (H + 1 + 1) fr3 x3 y3 rfl rfl h2 ?_; intro W5 k5 hr))
      refine bodyPost_ret (results27 rfl rfl hr) rfl ?_
      rw [← e3.out]
      exact ⟨rfl, kp_in kx k5 (by omega)⟩
end Go.Proofs.Ytjdjhccefnffmaa
set_option maxRecDepth 100000
set_option maxHeartbeats 1000000
namespace Go.Proofs.Ytjdjhccefnffmaa
open Go LX Go.RowKit
section
variable {ops : Array Oper} {rest : List Oper} {op : Oper} {a : Act} {w : World} {Q : Exit → Act → World → Prop}
/-- A load of 32 bytes under a guard that is met. -/
theorem wpList_load23g (hw : Region.wanted op (yielded ops a.tmps) = true) (x : Operand) (ho : op.op = .load 23 x)
    (b o : Nat) (hx : a.eval x = .pointer (some ⟨b, o, none⟩)) (f : Nat → Nat) (h : w.rangeAt b o (byl f 32))
    (hk : wpList Try.prog ops Q rest (a.put op.dst (.agg (bys f 32))) w) : wpList Try.prog ops Q (op :: rest) a w :=
  wpList_step fun K hK => by
    rw [if_pos hw]
    exact wp_load_mid 23 x ho b o hx (byl f 32) (.array 32 5) h (by kernel_rfl) rfl (by rw [byl_len]; kernel_rfl) (hK _ _ hk)
/-- A load of a point under a guard that is met. -/
theorem wpList_load27g (hw : Region.wanted op (yielded ops a.tmps) = true) (x : Operand) (ho : op.op = .load 27 x)
    (b : Nat) (hx : a.eval x = .pointer (some ⟨b, 0, none⟩)) (fr : Bool) (X Y : Nat → Int) (h : Pl w b fr X Y)
    (hk : wpList Try.prog ops Q rest (a.put op.dst (.agg (pl fr X Y).toArray)) w) : wpList Try.prog ops Q (op :: rest) a w := by
  have h27 : (Try.prog.underlying 27).map TypeDesc.isRow = some true := by kernel_rfl
  obtain ⟨d, hfs, hd⟩ := Option.map_eq_some_iff.1 h27
  exact wpList_step fun K hK => by
    rw [if_pos hw]
    exact wp_load_mid 27 x ho b 0 hx (pl fr X Y) d h.r hfs hd (by rw [pl_len]; kernel_rfl) (hK _ _ hk)
end
/-- True comes back, and nothing that was there has turned. -/
def Tru (w : World) (e : Ending) (w' : World) : Prop := e = .returned (.bool true) ∧ Kp non w w'
/-- A slice of bytes that comes in. -/
def Arg (w : World) (v : Value) (n : Nat) : Prop := (∃ ad c, v = .slice ad n c) ∧ (2147483647 < n ∨ ∃ f, In w v n f)
theorem In.len {w : World} {v : Value} {n : Nat} {f : Nat → Nat} (h : In w v n f) : n ≤ 2147483647 := by
  rcases h with ⟨rfl, -⟩ | ⟨-, h, -⟩
  · omega
  · exact h
/-- What is read is a point of the curve. -/
theorem rd_ok {n : Nat} {f : Nat → Nat} {P : EC.Pt} (h : rd n f = some P) : P.Ok := by
  unfold rd at h
  split at h
  · cases h; trivial
  · split at h
    · obtain ⟨t, ht, rfl⟩ := Option.map_eq_some_iff.1 h
      by_cases hr : hi8 (fun i => f (1 + i)) 32 < PN ∧ hi8 (fun i => f (33 + i)) 32 < PN ∧ nF (hi8 (fun i => f (33 + i)) 32) * nF (hi8 (fun i => f (33 + i)) 32) = poly (nF (hi8 (fun i => f (1 + i)) 32))
      · rw [rdL_some hr.1 hr.2.1 hr.2.2] at ht
        cases ht
        exact on_poly hr.2.2
      · rw [rdL_none hr] at ht; cases ht
    · split at h
      · obtain ⟨t, ht, rfl⟩ := Option.map_eq_some_iff.1 h
        by_cases hr : hi8 (fun i => f (1 + i)) 32 < PN ∧ rt (poly (nF (hi8 (fun i => f (1 + i)) 32))) * rt (poly (nF (hi8 (fun i => f (1 + i)) 32))) = poly (nF (hi8 (fun i => f (1 + i)) 32))
        · rw [rdS_some hr.1 hr.2] at ht
          cases ht
          exact on_poly (selF_sq hr.2)
        · rw [rdS_none hr] at ht; cases ht
      · cases h
/-- A point's value, by its letters. -/
theorem c16v {w : World} {f : Nat → Nat} {P : EC.Pt} {fr : Bool} {x y : Nat → Int} (hf : ∀ i, i < 32 → f i < 256) (hP : P.Ok) (e : pl fr x y = pvL P) : Calls Try.prog 16 #[.agg (bys f 32), .agg (pl fr x y).toArray] w (Pv01 (EC.Pt.mul (hi8 f 32) P) w) := by
  rw [e]; exact c16 hf hP
theorem c15v {w : World} {v : Value} {P Q : EC.Pt} {fr : Bool} {x y : Nat → Int} (hv : PtS w v P) (e : pl fr x y = pvL Q) : Calls Try.prog 15 #[v, .agg (pl fr x y).toArray] w (Sp01 P Q w) := by
  rw [e]; exact c15 hv
theorem c15t {w : World} {v : Value} {P : EC.Pt} (hv : PtS w v P) : Calls Try.prog 15 #[v, .agg (pvL P).toArray] w (Tru w) := by
  refine (c15 hv).mono ?_
  rintro e w' ⟨b, rfl, hb, hk⟩
  rw [hb.2 rfl]
  exact ⟨rfl, hk⟩
theorem c24t {w : World} {v u : Value} {P : EC.Pt} (hv : PtS w v P) (hu : PtS w u P) (hP : P.Ok) : Calls Try.prog 24 #[v, u] w (Tru w) := by
  refine (c24 hv hu hP).mono ?_
  rintro e w' ⟨b, rfl, hb, hk⟩
  rw [hb.2 rfl]
  exact ⟨rfl, hk⟩
theorem c19t {w : World} {v u : Value} {P : EC.Pt} (hv : PtS w v P) (hu : PtS w u P) : Calls Try.prog 19 #[v, u] w (Tru w) := by
  refine (c19p hv hu).mono ?_
  rintro e w' ⟨b, rfl, hb, hk⟩
  rw [hb.2 rfl]
  exact ⟨rfl, hk⟩
end Go.Proofs.Ytjdjhccefnffmaa
set_option maxRecDepth 100000
set_option maxHeartbeats 1000000
namespace Go.Proofs.Ytjdjhccefnffmaa
open Go LX Go.ChangeShapes Go.WideShapes Go.ChangeAt Go.RowKit
theorem ownKnob0 : ownKnob Try.prog.godebug = none := by kernel_rfl
theorem laidOut0 : laidOutB Try.prog = true := by kernel_rfl
theorem below_of {w w' : World} (h : Kp non w w') : Below w.heap.size w w' := ⟨h.os, h.tape, h.output, h.size, fun k hk => h.block k hk fun _ h => h⟩
/-- A slice of bytes, out of what the row says of it. -/
theorem arg_in {H : Type} {enc : TypeId × Value → H} {W : World} {base : Nat} {v : Value} {d : DataW H} {ps : List MemPlace} (hval : Value.okWide Try.prog W .any base 22 v) (h : DataW.Trod enc Try.prog W 0 (fun _ => true) true 22 v d ps) (hfz : W.noneFrozen ps) :
    ∃ n, Arg W v n := by
  obtain ⟨a0, len, cap, rfl⟩ := okWide_slice Try.underlying22 hval
  refine ⟨len, ⟨_, _, rfl⟩, ?_⟩
  by_cases hl : 2147483647 < len
  · exact .inl hl
  · right
    obtain ⟨fuel, hf⟩ := h
    rcases open_ints Try.underlying22 Try.underlying5 (by kernel_rfl) hf with ⟨hcs, -⟩ | ⟨x, l, c, zs, hcs, -, hle, -, hz, hx, hcell, hwz⟩
    · simp [Value.cells] at hcs
      obtain ⟨rfl, rfl, rfl⟩ := hcs
      exact ⟨fun _ => 0, .inl ⟨rfl, .inr rfl⟩⟩
    · simp [Value.cells] at hcs
      obtain ⟨rfl, rfl, rfl⟩ := hcs
      simp only [Prod.mk.injEq] at hx
      have hz' : zs.length = cap := by simpa using hz
      by_cases h0 : len = 0
      · subst h0
        exact ⟨fun _ => 0, .inl ⟨rfl, .inl ⟨_, _, rfl⟩⟩⟩
      · obtain ⟨b, off, rfl, hc⟩ := ints_at hcell (by omega)
        refine ⟨fun i => (zs.getD i 0).toNat, .inr ⟨by omega, by omega, b, off, cap, rfl, hle, fun i hi => ?_⟩⟩
        have bd := bounds_u8 (hwz (zs.getD i 0) (by
          rw [List.getD_eq_getElem?_getD, List.getElem?_eq_getElem (by omega)]
          exact List.getElem_mem _))
        refine ⟨⟨?_, hfz b (off + i) (by rw [hx.2]; exact MemPlace.mem_row.2 ⟨i, by omega, rfl⟩)⟩, by show (zs.getD i 0).toNat < 256; omega⟩
        rw [hc i (by omega)]
        show some (Value.int .u8 (zs.getD i 0)) = some (.int .u8 ((zs.getD i 0).toNat : Int))
        rw [Int.toNat_of_nonneg bd.1]
/-- 32 bytes, out of what the row says of them. -/
theorem arr_in {W : World} {base : Nat} {v : Value} (hval : Value.okWide Try.prog W .any base 23 v) : ∃ g, v = .agg (bys g 32) ∧ ∀ i, i < 32 → g i < 256 := by
  simp only [Value.okWide, Try.underlying23] at hval
  obtain ⟨cs, rfl, hsz, ts, hts, -, hall⟩ := hval
  have h1 : Try.prog.cellsOf 23 = 32 := by kernel_rfl
  have h2 : Try.prog.cellTypes Try.prog.depth 23 = some (List.replicate 32 5) := by kernel_rfl
  rw [h1] at hsz
  rw [h2] at hts
  obtain rfl := Option.some.inj hts
  have each : ∀ i, i < 32 → ∃ n : Nat, cs[i]? = some (.int .u8 (n : Int)) ∧ n < 256 := fun i hi => by
    obtain ⟨v, hv⟩ : ∃ v, cs[i]? = some v := ⟨_, Array.getElem?_eq_getElem (by omega)⟩
    obtain ⟨u, hu, hc⟩ := hall i v hv
    rw [List.length_replicate, Nat.mod_eq_of_lt hi, List.getElem?_replicate, if_pos hi] at hu
    obtain rfl := Option.some.inj hu
    have hc' : Value.okWide Try.prog W .any base 5 v := by
      simp only [Value.okWide, Try.underlying5]
      exact hc
    obtain ⟨n, rfl⟩ := okWide_int Try.underlying5 hc'
    simp only [Cell.okWide, Cell.ok, Try.underlying5] at hc
    have hb : 0 ≤ n ∧ n < 256 := by
      have := hc.2
      have e1 : IntKind.u8.min = 0 := by decide
      have e2 : IntKind.u8.max = 255 := by decide
      simp only [IntKind.has, e1, e2] at this
      omega
    exact ⟨n.toNat, by rw [hv]; congr 2; omega, by omega⟩
  refine ⟨fun i => if h : i < 32 then (each i h).choose else 0, ?_, fun i hi => ?_⟩
  · congr 1
    apply Array.ext'
    apply List.ext_getElem?
    intro i
    by_cases hi : i < 32
    · have := (each i hi).choose_spec.1
      rw [show cs.toList[i]? = cs[i]? from by simp, this]
      simp [bys, hi]
    · rw [List.getElem?_eq_none (by simp; omega), List.getElem?_eq_none (by simp [bys]; omega)]
  · show (if h : i < 32 then (each i h).choose else 0) < 256
    rw [dif_pos hi]
    exact (each i hi).choose_spec.2
end Go.Proofs.Ytjdjhccefnffmaa
