import Derived.Test.YtjdjhccefnffmaaB24
import Derived.Test.YtjdjhccefnffmaaB23
set_option linter.unusedVariables false
set_option linter.unusedSimpArgs false
set_option maxRecDepth 100000
set_option maxHeartbeats 1000000
namespace Go.Proofs.Ytjdjhccefnffmaa
open Go LX Go.RowKit
theorem hi8_ltp {f : Nat → Nat} (h : ∀ i, i < 32 → f i < 256) : ∀ n, n ≤ 32 → hi8 f n < 256 ^ n
  | 0, _ => by simp [hi8]
  | n + 1, hn => by
    have h1 := hi8_ltp h n (by omega)
    have h2 := h n (by omega)
    rw [Nat.pow_succ]
    show 256 * hi8 f n + f n < _
    omega
theorem hi8_ltq {f : Nat → Nat} (k : Nat) : ∀ n, (∀ i, i < n → f i < 256) → hi8 f n < 256 ^ n
  | 0, _ => by simp [hi8]
  | n + 1, h => by
    have h1 := hi8_ltq k n fun i hi => h i (by omega)
    have h2 := h n (by omega)
    rw [Nat.pow_succ]
    show 256 * hi8 f n + f n < _
    omega
theorem be_hi8 {f : Nat → Nat} (h : ∀ i, i < 32 → f i < 256) (i : Nat) (hi : i < 32) : be (hi8 f 32) i = f i := by
  have e : 32 = (i + 1) + (31 - i) := by omega
  have h1 := hi8_ltq (f := fun j => f (i + 1 + j)) 0 (31 - i) fun j hj => h _ (by omega)
  have h2 := h i hi
  unfold be
  rw [e, hi8_add, Nat.add_comm, Nat.add_mul_div_right _ _ (Nat.pow_pos (by omega)), Nat.div_eq_of_lt h1, Nat.zero_add]
  show (256 * hi8 f i + f i) % 256 = _
  omega
/-- What is carried after k bytes. -/
def cr (K M k : Nat) : Nat := (K % 256 ^ k + M % 256 ^ k) / 256 ^ k
theorem cr_le (K M k : Nat) : cr K M k ≤ 1 := by
  unfold cr
  have hp : 0 < 256 ^ k := Nat.pow_pos (by omega)
  have h1 := Nat.mod_lt K hp
  have h2 := Nat.mod_lt M hp
  have : (K % 256 ^ k + M % 256 ^ k) / 256 ^ k < 2 := Nat.div_lt_of_lt_mul (by omega)
  omega
theorem cr_step (K M k : Nat) : (cr K M k + K / 256 ^ k % 256 + M / 256 ^ k % 256) / 256 = cr K M (k + 1) ∧ (cr K M k + K / 256 ^ k % 256 + M / 256 ^ k % 256) % 256 = (K + M) / 256 ^ k % 256 := by
  unfold cr
  rw [Nat.pow_succ]
  have hp : 0 < 256 ^ k := Nat.pow_pos (by omega)
  generalize 256 ^ k = p at *
  constructor
  · rw [Nat.mod_mul, Nat.mod_mul, ← Nat.div_div_eq_div_mul]
    congr 1
    rw [show K % p + p * (K / p % 256) + (M % p + p * (M / p % 256)) = (K % p + M % p) + p * (K / p % 256 + M / p % 256) by rw [Nat.mul_add]; omega, Nat.add_mul_div_left _ _ hp]
    omega
  · have e : K + M = (K % p + M % p) + p * (K / p + M / p) := by
      have h1 := Nat.mod_add_div K p
      have h2 := Nat.mod_add_div M p
      rw [Nat.mul_add]
      omega
    rw [e, Nat.add_mul_div_left _ _ hp]
    omega
theorem cr_end {K M : Nat} (hK : K < 256 ^ 32) (hM : M < 256 ^ 32) : cr K M 32 = 0 ↔ K + M < 256 ^ 32 := by
  unfold cr
  rw [Nat.mod_eq_of_lt hK, Nat.mod_eq_of_lt hM]
  generalize 256 ^ 32 = p at *
  constructor
  · intro h
    rcases Nat.lt_or_ge (K + M) p with h1 | h1
    · exact h1
    · have := Nat.div_pos h1 (by omega)
      omega
  · intro h
    exact Nat.div_eq_of_lt h
/-- The last k bytes done. -/
def bo (S k i : Nat) : Nat := if 32 ≤ i + k then be S i else 0
theorem bo_step {w : World} {b S k j : Nat} (h : By w b 0 32 (bo S k)) (hj : j + k + 1 = 32) : By (w.setCell ⟨b, j, none⟩ (.int .u8 (be S j : Nat))) b 0 32 (bo S (k + 1)) := fun i hi => by
  have h0 := h i hi
  rw [Nat.zero_add] at h0 ⊢
  by_cases e : i = j
  · subst e
    have hb : bo S (k + 1) i = be S i := by unfold bo; rw [if_pos (by omega)]
    rw [hb]
    exact ⟨h0.1.set_same _, by unfold be; omega⟩
  · have hb : bo S (k + 1) i = bo S k i := by
      unfold bo
      by_cases h2 : 32 ≤ i + k
      · rw [if_pos h2, if_pos (by omega)]
      · rw [if_neg h2, if_neg (by omega)]
    rw [hb]
    exact ⟨h0.1.set_other (.inr fun h => e h.symm) _, h0.2⟩
/-- The sum of two numbers of 32 bytes, and whether it has as many. -/
def Mo01 (S : Nat) (w : World) (e : Ending) (w' : World) : Prop := ∃ b : Bool, e = .returned (.tuple #[.agg (bys (be S) 32), .bool b]) ∧ (b = true ↔ S < 256 ^ 32) ∧ Kp non w w'
theorem resultsN23 {fn : Func} {tmps : Array Value} {t u b : Nat} {f : Nat → Nat} {w : World} {v : Value} (hr : fn.results = #[.cell t 23, .tmp u]) (ht : tmps.getD t undef = .pointer (some ⟨b, 0, none⟩)) (hu : tmps.getD u undef = v)
    (h : By w b 0 32 f) : (results fn tmps).run Try.prog w = .ok (.tuple #[.agg (bys f 32), v]) w := by
  have hv := run_loadVar_mid (P := Try.prog) w b 0 23 (byl f 32) (.array 32 5) h.range (by kernel_rfl) rfl (by rw [byl_len]; kernel_rfl)
  rw [Array.getD_eq_getD_getElem?] at ht hu
  simp [results, hr, ht, hu, asAddr, hv]
  rfl
theorem c26 {w : World} {f g : Nat → Nat} (hf : ∀ i, i < 32 → f i < 256) (hg : ∀ i, i < 32 → g i < 256) : Calls Try.prog 26 #[.agg (bys f 32), .agg (bys g 32)] w (Mo01 (hi8 f 32 + hi8 g 32) w) := by
  have k0 : Kp non w ((((w.alloc (.cells (bys f 32) 23)).alloc (.cells (bys g 32) 23)).alloc (.cells (bys (fun _ => 0) 32) 23)).alloc (.cells (bys (fun _ => 0) 32) 23)) := ((((Kp.refl _ w).alloc _).alloc _).alloc _).alloc _
  have h0 := (((By.new w 23 f 32 hf).kp ((Kp.refl non _).alloc (.cells (bys g 32) 23)) fun _ _ h => h).kp ((Kp.refl non _).alloc (.cells (bys (fun _ => 0) 32) 23)) fun _ _ h => h).kp ((Kp.refl non _).alloc (.cells (bys (fun _ => 0) 32) 23)) fun _ _ h => h
  have h1 := ((By.new (w.alloc (.cells (bys f 32) 23)) 23 g 32 hg).kp ((Kp.refl non _).alloc (.cells (bys (fun _ => 0) 32) 23)) fun _ _ h => h).kp ((Kp.refl non _).alloc (.cells (bys (fun _ => 0) 32) 23)) fun _ _ h => h
  have h2 := (By.new ((w.alloc (.cells (bys f 32) 23)).alloc (.cells (bys g 32) 23)) 23 (fun _ => 0) 32 fun _ _ => by omega).kp ((Kp.refl non _).alloc (.cells (bys (fun _ => 0) 32) 23)) fun _ _ h => h
  have h3 := By.new (((w.alloc (.cells (bys f 32) 23)).alloc (.cells (bys g 32) 23)).alloc (.cells (bys (fun _ => 0) 32) 23)) 23 (fun _ => 0) 32 fun _ _ => by omega
  simp only [size1] at h1 h2 h3
  have hzv : ∀ W, (zeroValue 23).run Try.prog W = .ok (.agg (bys (fun _ => 0) 32)) W := fun W => by kernel_rfl
  obtain ⟨K, hK⟩ : ∃ K, K = hi8 f 32 := ⟨_, rfl⟩
  obtain ⟨M, hM⟩ : ∃ M, M = hi8 g 32 := ⟨_, rfl⟩
  rw [← hK, ← hM]
  have hfK : ∀ k, k < 32 → f (31 - k) = K / 256 ^ k % 256 := fun k hk => by
    have := be_hi8 hf (31 - k) (by omega)
    rw [← hK] at this
    unfold be at this
    rwa [show 31 - (31 - k) = k by omega, eq_comm] at this
  have hgM : ∀ k, k < 32 → g (31 - k) = M / 256 ^ k % 256 := fun k hk => by
    have := be_hi8 hg (31 - k) (by omega)
    rw [← hM] at this
    unfold be at this
    rwa [show 31 - (31 - k) = k by omega, eq_comm] at this
  have hKl : K < 256 ^ 32 := hK ▸ hi8_ltp hf 32 (Nat.le_refl _)
  have hMl : M < 256 ^ 32 := hM ▸ hi8_ltp hg 32 (Nat.le_refl _)
  replace hfK := Lib.hid hfK
  replace hgM := Lib.hid hgM
  replace hKl := Lib.hid hKl
  replace hMl := Lib.hid hMl
  clear hK hM hf hg
  go_enter Try.func26, Try.ntmps26
  go_wp2_with (refine wpList_store32 rfl _ _ rfl (w.heap.size + 1 + 1 + 1) (fun _ => 0) rfl rfl (fun _ => 0) h3 ?_)
  have hx := Nat.le_refl w.heap.size
  have kB := Kp.byl ((((w.alloc (.cells (bys f 32) 23)).alloc (.cells (bys g 32) 23)).alloc (.cells (bys (fun _ => 0) 32) 23)).alloc (.cells (bys (fun _ => 0) 32) 23)) (w.heap.size + 1 + 1 + 1) 0 32 (fun _ => 0)
  have g0 := h0.kp kB fun i _ h => by have := h.1; omega
  have g1 := h1.kp kB fun i _ h => by have := h.1; omega
  have g2 := h2.kp kB fun i _ h => by have := h.1; omega
  have g3 := By.set (f := fun _ => 0) h3.room0 fun _ _ => by omega
  have gk := kp_freshL k0 (b := w.heap.size + 1 + 1 + 1) (by omega) 0 (byl (fun _ => 0) 32)
  clear k0 h0 h1 h2 h3 kB hzv
  generalize hHH : w.heap.size = H at *
  generalize ((((w.alloc (.cells (bys f 32) 23)).alloc (.cells (bys g 32) 23)).alloc (.cells (bys (fun _ => 0) 32) 23)).alloc (.cells (bys (fun _ => 0) 32) 23)).setCells (H + 1 + 1 + 1) 0 (byl (fun _ => 0) 32) = W1 at *
  replace g3 := g3.congr (g := bo (K + M) 0) fun i _ => by unfold bo; rw [if_neg (by omega)]
  go_loopw [7, 8] (fun c i wr => ∃ k : Nat, k ≤ 32 ∧ i = .int .i64 (31 - (k : Int)) ∧ c = .int .i64 (cr K M k : Nat) ∧ Kp non w wr ∧ By wr H 0 32 f ∧ By wr (H + 1) 0 32 g ∧ By wr (H + 1 + 1) 0 32 (fun _ => 0) ∧ By wr (H + 1 + 1 + 1) 0 32 (bo (K + M) k)) (fun _ i _ => (intOf i + 1).toNat)
  case atStart => exact ⟨0, by omega, rfl, by simp [cr], gk, g0, g1, g2, g3⟩
  case round =>
    clear gk g0 g1 g2 g3
    obtain ⟨k, hk, rfl, rfl, kx, h0, h1, h2, h3⟩ := hrel
    by_cases hlt : k < 32
    · obtain ⟨m, hm⟩ : ∃ m, m = 31 - k := ⟨_, rfl⟩
      have a0 : 31 - (k : Int) = (m : Int) := by omega
      rw [a0]
      have a1 : (m : Int) < 32 := by omega
      have a2 : m < 32 := by omega
      have e1 := (h0.drew m a2).1.1
      have e2 := (h1.drew m a2).1.1
      rw [Nat.zero_add] at e1 e2
      have s1 := hfK.out k hlt
      have s2 := hgM.out k hlt
      rw [← hm] at s1 s2
      obtain ⟨t1, t2⟩ := cr_step K M k
      rw [← s1, ← s2] at t1 t2
      have s3 := (h0 m a2).2
      have s4 := (h1 m a2).2
      have s5 := cr_le K M k
      have t3 : be (K + M) m = (K + M) / 256 ^ k % 256 := by unfold be; rw [show 31 - m = k by omega]
      rw [← t3] at t2
      have hs := cr_le K M (k + 1)
      generalize hC : cr K M k = C at *
      generalize hC' : cr K M (k + 1) = C' at *
      generalize hF : f m = F at *
      generalize hG : g m = G at *
      obtain ⟨T, hT⟩ : ∃ T, T = C + F + G := ⟨_, rfl⟩
      rw [← hT] at t1 t2
      have m1 : IntKind.i64.wrap (F : Int) = (F : Int) := by rw [IntKind.wrap_i64]; omega
      have m2 : IntKind.i64.wrap (G : Int) = (G : Int) := by rw [IntKind.wrap_i64]; omega
      have m3 : IntKind.i64.wrap ((F : Int) + (G : Int)) = (F : Int) + (G : Int) := by rw [IntKind.wrap_i64]; omega
      have m4 : IntKind.i64.wrap ((C : Int) + ((F : Int) + (G : Int))) = (T : Int) := by rw [IntKind.wrap_i64]; omega
      have m5 : IntKind.u8.wrap (T : Int) = ((be (K + M) m : Nat) : Int) := by rw [← t2, IntKind.wrap_u8]; omega
      have m6 : (T : Int) / 256 = (C' : Int) := by omega
      have c3 := (h3.drew m a2).1.1
      have f3 := (h3.drew m a2).1.2
      rw [Nat.zero_add] at c3 f3
      have q3 := bo_step h3.drew (j := m) (by omega)
      clear hT t1 t2 t3 s1 s2 hm
      go_wp2_with fail
      go_region
      go_wp2_with fail
      replace h0 := h0.drew.kp ((Kp.refl (at_ (H + 1 + 1 + 1) 0 32) wr.drew).setCell (k := H + 1 + 1 + 1) (o := m) (.int .u8 (be (K + M) m : Nat)) fun _ => ⟨rfl, by omega, by omega⟩) fun i hi h => by have := h.1; omega
      replace h1 := h1.drew.kp ((Kp.refl (at_ (H + 1 + 1 + 1) 0 32) wr.drew).setCell (k := H + 1 + 1 + 1) (o := m) (.int .u8 (be (K + M) m : Nat)) fun _ => ⟨rfl, by omega, by omega⟩) fun i hi h => by have := h.1; omega
      replace h2 := h2.drew.kp ((Kp.refl (at_ (H + 1 + 1 + 1) 0 32) wr.drew).setCell (k := H + 1 + 1 + 1) (o := m) (.int .u8 (be (K + M) m : Nat)) fun _ => ⟨rfl, by omega, by omega⟩) fun i hi h => by have := h.1; omega
      replace kx := kp_fresh kx.drew (b := H + 1 + 1 + 1) (by omega) m (.int .u8 (be (K + M) m : Nat))
      clear c3 f3 e1 e2 m1 m2 m3 m4 m5 m6
      go_roundw
      case rel => exact ⟨k + 1, by omega, by go_num, by rw [hC'], kx, h0, h1, h2, q3⟩
      case measure => simp [intOf]
    · obtain rfl : k = 32 := by omega
      have hb := cr_end hKl.out hMl.out
      have hc := cr_le K M 32
      generalize cr K M 32 = C at *
      replace h3 := h3.congr (g := be (K + M)) fun i hi => if_pos (by omega)
      have hr := By.set (f := be (K + M)) h2.room0 fun _ _ => by unfold be; omega
      have kk := kp_freshL kx (b := H + 1 + 1) (by omega) 0 (byl (be (K + M)) 32)
      have hd := Lib.hid (show (((C : Int) == 0) = true ↔ K + M < 256 ^ 32) by rw [beq_iff_eq]; omega)
      generalize hdd : ((C : Int) == 0) = d at *
      clear hb hc
      go_wp2_with (first | (refine wpList_load32 rfl _ rfl (H + 1 + 1 + 1) rfl (be (K + M)) h3 ?_) | (refine wpList_store32 rfl _ _ rfl (H + 1 + 1) (be (K + M)) rfl rfl (fun _ => 0) h2 ?_))
      refine bodyPost_ret (resultsN23 rfl rfl rfl hr) rfl ?_
      exact ⟨_, rfl, hd.out, kk⟩
end Go.Proofs.Ytjdjhccefnffmaa
set_option maxRecDepth 100000
set_option maxHeartbeats 1000000
namespace Go.Proofs.Ytjdjhccefnffmaa
open Go LX Go.RowKit
/-- A load of 32 bytes, wherever they start. -/
theorem wpList_load23 {ops : Array Oper} {rest : List Oper} {op : Oper} {a : Act} {w : World} {Q : Exit → Act → World → Prop} (hgd : op.guard = none) (x : Operand) (ho : op.op = .load 23 x)
    (b o : Nat) (hx : a.eval x = .pointer (some ⟨b, o, none⟩)) (f : Nat → Nat) (h : w.rangeAt b o (byl f 32))
    (hk : wpList Try.prog ops Q rest (a.put op.dst (.agg (bys f 32))) w) : wpList Try.prog ops Q (op :: rest) a w :=
  wpList_load_mid hgd 23 x ho b o hx (byl f 32) (.array 32 5) h (by kernel_rfl) rfl (by rw [byl_len]; kernel_rfl) hk
theorem ew_par (y : EC.F) : ew y 0 % 2 = ((y.val % 2 : Nat) : Int) := by
  show ((y.val : Int) / 4294967296 ^ 0 % 4294967296) % 2 = _
  rw [Int.pow_zero, Int.ediv_one]
  omega
/-- A root, by name. -/
theorem e35 {w : World} {a : EC.F} : Calls Try.prog 35 #[Ev a] w fun e w' => ∃ y b, Hid (y = rt a ∧ (b = true ↔ y * y = a)) ∧ e = .returned (.tuple #[Ev y, .bool b]) ∧ Kp non w w' :=
  c35.mono fun _ _ ⟨b, h1, h2, h3⟩ => ⟨_, b, Lib.hid ⟨rfl, h2⟩, h1, h3⟩
theorem rd13_short {w W : World} {x y : EC.F} {b : Bool} {t : Nat} {p : EC.F} (hp : p = poly x) (hy : y = rt p ∧ (b = true ↔ y * y = p)) (kk : Kp non w W) (z : EC.F) (hz : z = selF ((y.val % 2) ^^^ (t % 2)) (0 - y) y) :
    Rd13 ((rdS x.val t).map fun t => .aff t.1 t.2.1) w (.returned (.tuple #[.agg (pl false (ew x) (ew z)).toArray, .bool b])) W := by
  have hx : x.val < PN := Nat.lt_of_lt_of_eq x.isLt PN_eq
  obtain ⟨hy, hb⟩ := hy
  have e : rdS x.val t = if x.val < PN ∧ y * y = p then some (x, z, 1) else none := by
    unfold rdS
    rw [nF_of, ← hp, ← hy, ← hz]
  by_cases h : y * y = p
  · rewrite [e, if_pos ⟨hx, h⟩, hb.2 h]
    exact ⟨_, _, _, rfl, fun _ h => by rw [← Option.some.inj h]; rfl, kk⟩
  · rewrite [e, if_neg fun hh => h hh.2]
    have : b = false := by cases b with | false => rfl | true => exact absurd (hb.1 rfl) h
    rewrite [this]
    exact ⟨_, _, _, rfl, (fun _ h => nomatch h), kk⟩
theorem c13_short2 {w : World} {b o c : Nat} {f : Nat → Nat} (hb : By w b o 33 f) (hf : f 0 = 2) (hc : 33 ≤ c) :
    Calls Try.prog 13 #[.slice (some ⟨b, o, none⟩) 33 c] w (Rd13 ((rdS (hi8 (fun i => f (1 + i)) 32) 2).map fun t => .aff t.1 t.2.1) w) := by
  have hz := z27
  have hbl := (hb 0 (by omega)).1.lt
  have k0 : Kp non w (w.alloc (.cells (pl false (fun _ => 0) fun _ => 0).toArray 27)) := ((Kp.refl _ w).alloc _)
  have h0 := (Pl.new w 27 false (fun _ => 0) fun _ => 0)
  replace hb := hb.kp k0 fun _ _ h => h
  have g0 : ∀ W, Kp non (w.alloc (.cells (pl false (fun _ => 0) fun _ => 0).toArray 27)) W → W.cell? ⟨b, o, none⟩ = some (.int .u8 2) := fun W hk => by have := ((hb.kp hk fun _ _ h => h) 0 (by omega)).1.1; rw [hf] at this; exact this
  have gg := g0 _ (Kp.refl _ _)
  have hx := hb.sub 1 32 (by omega)
  have hfx : ∀ i, i < 32 → (fun i => f (1 + i)) i < 256 := fun i hi => (hb (1 + i) (by omega)).2
  have hci : (33 : Int) ≤ (c : Int) := by omega
  have hc0 : (c : Int) ≠ 1 := by omega
  have hc1 : ¬ c = 1 := by omega
  have ha0 : ∀ (ad : Addr) (c : Nat) (W : World), (Instr.arrayAt 23 (.slice (some ad) 32 c)).run Try.prog W = .ok (.pointer (some ad)) W := fun ad c W => by kernel_rfl
  clear hb hf
  generalize (fun i => f (1 + i)) = fx at *
  have h2 := h256 hfx
  obtain ⟨X0, hX0⟩ : ∃ X, X = hi8 fx 32 := ⟨_, rfl⟩
  rw [← hX0]
  replace hX0 := Lib.hid hX0
  rw [← hX0.out] at h2
  go_enter Try.func13, Try.ntmps13
  go_wp2_with (refine wpList_load23 rfl _ rfl b (o + 1) rfl fx hx.rangeo ?_)
  refine (c31 hfx).mono ?_
  rintro e w1 ⟨rfl, hk⟩
  rw [← hX0.out]
  clear hX0
  have hH : w.heap.size < w1.heap.size := by have := hk.size; simp only [size1] at this; omega
  generalize hHH : w.heap.size = H at *
  generalize hWW : (w.alloc (.cells (pl false (fun _ => 0) fun _ => 0).toArray 27)) = W0 at *
  replace hk := hk.alloc (.cells (a8 (nw X0)) 25)
  have h5 := Ws.new8 w1 25 (nw X0)
  replace h0 := h0.kp hk fun _ h => h
  replace k0 := k0.non hk
  replace g0 := fun W hj => g0 W (hk.non hj)
  clear hx hk hfx gg ha0
  by_cases hX : X0 < PN
  · obtain ⟨x, rfl⟩ := ofPN hX
    rw [nw_ew] at *
    clear hX h2
    go_wp2_with fail
    have hH1 : w1.heap.size < (w1.alloc (.cells (a8 (ew x)) 25)).heap.size := by simp only [size1]; omega
    generalize hE : w1.heap.size = E at *
    generalize (w1.alloc (.cells (a8 (ew x)) 25)) = W1 at *
    have p0 : ∀ W, Kp non W1 W → W.cell? ⟨E, 0, none⟩ = some (.int .i64 (ew x 0)) := fun W => cellK (h5 0 (by omega)).1
    have p1 : ∀ W, Kp non W1 W → W.cell? ⟨E, 1, none⟩ = some (.int .i64 (ew x 1)) := fun W => cellK (h5 1 (by omega)).1
    have p2 : ∀ W, Kp non W1 W → W.cell? ⟨E, 2, none⟩ = some (.int .i64 (ew x 2)) := fun W => cellK (h5 2 (by omega)).1
    have p3 : ∀ W, Kp non W1 W → W.cell? ⟨E, 3, none⟩ = some (.int .i64 (ew x 3)) := fun W => cellK (h5 3 (by omega)).1
    have p4 : ∀ W, Kp non W1 W → W.cell? ⟨E, 4, none⟩ = some (.int .i64 (ew x 4)) := fun W => cellK (h5 4 (by omega)).1
    have p5 : ∀ W, Kp non W1 W → W.cell? ⟨E, 5, none⟩ = some (.int .i64 (ew x 5)) := fun W => cellK (h5 5 (by omega)).1
    have p6 : ∀ W, Kp non W1 W → W.cell? ⟨E, 6, none⟩ = some (.int .i64 (ew x 6)) := fun W => cellK (h5 6 (by omega)).1
    have p7 : ∀ W, Kp non W1 W → W.cell? ⟨E, 7, none⟩ = some (.int .i64 (ew x 7)) := fun W => cellK (h5 7 (by omega)).1
    have hs : Kp non W1 W1.drew := (Kp.refl _ _).drew
    go_region_held3 (fun w' => Kp non W1 w') (with_reducible first | assumption | exact LX.Kp.non (by assumption) (by assumption))
      (first
        | (go_at_call 33; (refine (c33).mono ?_); rintro e y1 ⟨rfl, hk1⟩; have hk2 := LX.Kp.non hs hk1)
        | (go_at_call 32; (refine (m32e (x := x)).mono ?_); rintro e y2 ⟨rfl, hk3⟩; have hk4 := LX.Kp.non hk2 hk3))
    clear p0 p1 p2 p3 p4 p5 p6 p7
    replace h0 := h0.kp hk4 fun _ h => h
    replace k0 := k0.non hk4
    replace g0 := fun W hj => g0 W (hk4.non hj)
    replace h5 := h5.kp hk4 fun _ _ h => h
    have hE2 : E < y2.heap.size := Nat.lt_of_lt_of_le hH1 hk4.size
    clear hs hk4 hk2 hk1 hk3 hH1
    obtain ⟨p0, p1, p2, p3, p4, p5, p6, p7⟩ := ws8 h5 (by omega)
    go_wp2_with fail
    refine (e36 (x := x)).mono ?_
    rintro e y3 ⟨p, hp, rfl, hk1⟩
    go_wp2_with fail
    refine (e35 (a := p)).mono ?_
    rintro e y4 ⟨y, bb, hy, rfl, hk2⟩
    replace hk1 := hk1.non hk2
    replace h0 := h0.kp hk1 fun _ h => h
    replace k0 := k0.non hk1
    replace g0 := fun W hj => g0 W (hk1.non hj)
    replace h5 := h5.kp hk1 fun _ _ h => h
    have hF : E < y4.heap.size := Nat.lt_of_lt_of_le hE2 hk1.size
    clear hk1 hk2 p0 p1 p2 p3 p4 p5 p6 p7 hE2
    have h6 := Ws.new8 y4 25 (ew y)
    have hk : Kp non y4 (y4.alloc (.cells (a8 (ew y)) 25)) := (Kp.refl _ _).alloc _
    replace h0 := h0.kp hk fun _ h => h
    replace k0 := k0.non hk
    replace g0 := fun W hj => g0 W (hk.non hj)
    replace h5 := h5.kp hk fun _ _ h => h
    clear hk
    have ha := and1 (ew y 0)
    rw [ew_par] at ha
    have gg := g0 _ ((Kp.refl _ _).drew)
    go_wp2_with fail
    generalize hF' : y4.heap.size = F at *
    generalize (y4.alloc (.cells (a8 (ew y)) 25)) = W2 at *
    have c0 := (h6.drew 0 (by omega)).1
    have hpar : y.val % 2 = 0 ∨ y.val % 2 = 1 := by omega
    rcases hpar with hpar | hpar
    · have hu1 : bits .and .u8 2 1 = 0 := by kernel_rfl
      have hu2 : wrap64 0 = 0 := by kernel_rfl
      have hu3 : (((0 : Int) != 0) : Bool) = false := by decide
      replace ha : bits .and .i64 (ew y 0) 1 = 0 := by rw [ha, hpar]; rfl
      go_region
      replace k0 := k0.drew
      replace h0 := h0.drew
      replace h5 := h5.drew
      replace h6 := h6.drew
      generalize W2.drew = W3 at *
      clear gg c0 ha
      go_wp2_with (first | (refine wpList_load25 rfl _ rfl E 0 rfl (ew x) h5.r ?_) | (refine wpList_load25 rfl _ rfl F 0 rfl (ew y) h6.r ?_) | (refine wpList_store27 rfl _ _ rfl H false (ew x) (ew y) rfl rfl _ _ _ h0 ?_))
      refine bodyPost_ret (resultsN27 rfl rfl rfl h0.set) rfl ?_
      exact rd13_short (t := 2) hp.out hy.out (kp_freshL k0 (Nat.le_of_eq hHH) 0 _) y (by rw [hpar]; rfl)
    · have hu1 : bits .and .u8 2 1 = 0 := by kernel_rfl
      have hu2 : wrap64 0 = 0 := by kernel_rfl
      have hu3 : (((1 : Int) != 0) : Bool) = true := by decide
      replace ha : bits .and .i64 (ew y 0) 1 = 1 := by rw [ha, hpar]; rfl
      go_region
      replace k0 := k0.drew
      replace h0 := h0.drew
      replace h5 := h5.drew
      replace h6 := h6.drew
      generalize W2.drew = W3 at *
      have q6 := h6.r
      clear gg c0 ha
      go_wp2_with (refine wpList_load25 rfl _ rfl F 0 rfl (ew y) q6 ?_)
      refine (e37z (b := y)).mono ?_
      rintro e y5 ⟨z, hz, rfl, hk⟩
      replace k0 := k0.non hk
      replace h0 := h0.kp hk fun _ h => h
      replace h5 := h5.kp hk fun _ _ h => h
      replace h6 := h6.kp hk fun _ _ h => h
      clear hk q6
      go_wp2_with (first | (refine wpList_storeW rfl _ _ rfl F (ew z) rfl rfl h6 ?_; (intro W4 q6 kq; have h5 := h5.kp kq (fun _ _ h => by have := h.1; omega); have h0 := h0.kp kq (fun _ h => by have := h.1; omega); have k0 : Kp non w W4 := k0.trans kq (fun _ _ _ h => h) (fun _ _ hl h => by have := h.1; omega))) | (refine wpList_load25 rfl _ rfl E 0 rfl (ew x) h5.r ?_) | (refine wpList_load25 rfl _ rfl F 0 rfl (ew z) q6.r ?_) | (refine wpList_store27 rfl _ _ rfl H false (ew x) (ew z) rfl rfl _ _ _ h0 ?_))
      refine bodyPost_ret (resultsN27 rfl rfl rfl h0.set) rfl ?_
      exact rd13_short (t := 2) hp.out hy.out (kp_freshL k0 (Nat.le_of_eq hHH) 0 _) z (by rw [hpar]; exact hz.out)
  · go_wp2_with fail
    have hs : Kp non (w1.alloc (.cells (a8 (nw X0)) 25)) (w1.alloc (.cells (a8 (nw X0)) 25)).drew := (Kp.refl _ _).drew
    generalize hE : w1.heap.size = E at *
    generalize (w1.alloc (.cells (a8 (nw X0)) 25)) = W1 at *
    have p0 : ∀ W, Kp non W1 W → W.cell? ⟨E, 0, none⟩ = some (.int .i64 (nw X0 0)) := fun W => cellK (h5 0 (by omega)).1
    have p1 : ∀ W, Kp non W1 W → W.cell? ⟨E, 1, none⟩ = some (.int .i64 (nw X0 1)) := fun W => cellK (h5 1 (by omega)).1
    have p2 : ∀ W, Kp non W1 W → W.cell? ⟨E, 2, none⟩ = some (.int .i64 (nw X0 2)) := fun W => cellK (h5 2 (by omega)).1
    have p3 : ∀ W, Kp non W1 W → W.cell? ⟨E, 3, none⟩ = some (.int .i64 (nw X0 3)) := fun W => cellK (h5 3 (by omega)).1
    have p4 : ∀ W, Kp non W1 W → W.cell? ⟨E, 4, none⟩ = some (.int .i64 (nw X0 4)) := fun W => cellK (h5 4 (by omega)).1
    have p5 : ∀ W, Kp non W1 W → W.cell? ⟨E, 5, none⟩ = some (.int .i64 (nw X0 5)) := fun W => cellK (h5 5 (by omega)).1
    have p6 : ∀ W, Kp non W1 W → W.cell? ⟨E, 6, none⟩ = some (.int .i64 (nw X0 6)) := fun W => cellK (h5 6 (by omega)).1
    have p7 : ∀ W, Kp non W1 W → W.cell? ⟨E, 7, none⟩ = some (.int .i64 (nw X0 7)) := fun W => cellK (h5 7 (by omega)).1
    go_region_held3 (fun w' => Kp non W1 w') (with_reducible first | assumption | exact LX.Kp.non (by assumption) (by assumption))
      (first
        | (go_at_call 33; (refine (c33).mono ?_); rintro e y1 ⟨rfl, hk1⟩; have hk2 := LX.Kp.non hs hk1)
        | (go_at_call 32; (refine (m32f hX h2).mono ?_); rintro e y2 ⟨rfl, hk3⟩; have hk4 := LX.Kp.non hk2 hk3))
    clear p0 p1 p2 p3 p4 p5 p6 p7
    replace h0 := h0.kp hk4 fun _ h => h
    replace k0 := k0.non hk4
    clear h5 g0 hk1 hk2 hk3 hk4 hs
    go_wp2_with (refine wpList_store27 rfl _ _ rfl H false (fun _ => 0) (fun _ => 0) rfl rfl _ _ _ h0 ?_)
    refine bodyPost_ret (resultsN27 rfl rfl rfl h0.set) rfl ?_
    rw [rdS_none (fun h => hX h.1)]
    exact ⟨_, _, _, rfl, (fun _ h => nomatch h), kp_freshL k0 (Nat.le_of_eq hHH) 0 _⟩
theorem c13_short3 {w : World} {b o c : Nat} {f : Nat → Nat} (hb : By w b o 33 f) (hf : f 0 = 3) (hc : 33 ≤ c) :
    Calls Try.prog 13 #[.slice (some ⟨b, o, none⟩) 33 c] w (Rd13 ((rdS (hi8 (fun i => f (1 + i)) 32) 3).map fun t => .aff t.1 t.2.1) w) := by
  have hz := z27
  have hbl := (hb 0 (by omega)).1.lt
  have k0 : Kp non w (w.alloc (.cells (pl false (fun _ => 0) fun _ => 0).toArray 27)) := ((Kp.refl _ w).alloc _)
  have h0 := (Pl.new w 27 false (fun _ => 0) fun _ => 0)
  replace hb := hb.kp k0 fun _ _ h => h
  have g0 : ∀ W, Kp non (w.alloc (.cells (pl false (fun _ => 0) fun _ => 0).toArray 27)) W → W.cell? ⟨b, o, none⟩ = some (.int .u8 3) := fun W hk => by have := ((hb.kp hk fun _ _ h => h) 0 (by omega)).1.1; rw [hf] at this; exact this
  have gg := g0 _ (Kp.refl _ _)
  have hx := hb.sub 1 32 (by omega)
  have hfx : ∀ i, i < 32 → (fun i => f (1 + i)) i < 256 := fun i hi => (hb (1 + i) (by omega)).2
  have hci : (33 : Int) ≤ (c : Int) := by omega
  have hc0 : (c : Int) ≠ 1 := by omega
  have hc1 : ¬ c = 1 := by omega
  have ha0 : ∀ (ad : Addr) (c : Nat) (W : World), (Instr.arrayAt 23 (.slice (some ad) 32 c)).run Try.prog W = .ok (.pointer (some ad)) W := fun ad c W => by kernel_rfl
  clear hb hf
  generalize (fun i => f (1 + i)) = fx at *
  have h2 := h256 hfx
  obtain ⟨X0, hX0⟩ : ∃ X, X = hi8 fx 32 := ⟨_, rfl⟩
  rw [← hX0]
  replace hX0 := Lib.hid hX0
  rw [← hX0.out] at h2
  go_enter Try.func13, Try.ntmps13
  go_wp2_with (refine wpList_load23 rfl _ rfl b (o + 1) rfl fx hx.rangeo ?_)
  refine (c31 hfx).mono ?_
  rintro e w1 ⟨rfl, hk⟩
  rw [← hX0.out]
  clear hX0
  have hH : w.heap.size < w1.heap.size := by have := hk.size; simp only [size1] at this; omega
  generalize hHH : w.heap.size = H at *
  generalize hWW : (w.alloc (.cells (pl false (fun _ => 0) fun _ => 0).toArray 27)) = W0 at *
  replace hk := hk.alloc (.cells (a8 (nw X0)) 25)
  have h5 := Ws.new8 w1 25 (nw X0)
  replace h0 := h0.kp hk fun _ h => h
  replace k0 := k0.non hk
  replace g0 := fun W hj => g0 W (hk.non hj)
  clear hx hk hfx gg ha0
  by_cases hX : X0 < PN
  · obtain ⟨x, rfl⟩ := ofPN hX
    rw [nw_ew] at *
    clear hX h2
    go_wp2_with fail
    have hH1 : w1.heap.size < (w1.alloc (.cells (a8 (ew x)) 25)).heap.size := by simp only [size1]; omega
    generalize hE : w1.heap.size = E at *
    generalize (w1.alloc (.cells (a8 (ew x)) 25)) = W1 at *
    have p0 : ∀ W, Kp non W1 W → W.cell? ⟨E, 0, none⟩ = some (.int .i64 (ew x 0)) := fun W => cellK (h5 0 (by omega)).1
    have p1 : ∀ W, Kp non W1 W → W.cell? ⟨E, 1, none⟩ = some (.int .i64 (ew x 1)) := fun W => cellK (h5 1 (by omega)).1
    have p2 : ∀ W, Kp non W1 W → W.cell? ⟨E, 2, none⟩ = some (.int .i64 (ew x 2)) := fun W => cellK (h5 2 (by omega)).1
    have p3 : ∀ W, Kp non W1 W → W.cell? ⟨E, 3, none⟩ = some (.int .i64 (ew x 3)) := fun W => cellK (h5 3 (by omega)).1
    have p4 : ∀ W, Kp non W1 W → W.cell? ⟨E, 4, none⟩ = some (.int .i64 (ew x 4)) := fun W => cellK (h5 4 (by omega)).1
    have p5 : ∀ W, Kp non W1 W → W.cell? ⟨E, 5, none⟩ = some (.int .i64 (ew x 5)) := fun W => cellK (h5 5 (by omega)).1
    have p6 : ∀ W, Kp non W1 W → W.cell? ⟨E, 6, none⟩ = some (.int .i64 (ew x 6)) := fun W => cellK (h5 6 (by omega)).1
    have p7 : ∀ W, Kp non W1 W → W.cell? ⟨E, 7, none⟩ = some (.int .i64 (ew x 7)) := fun W => cellK (h5 7 (by omega)).1
    have hs : Kp non W1 W1.drew := (Kp.refl _ _).drew
    go_region_held3 (fun w' => Kp non W1 w') (with_reducible first | assumption | exact LX.Kp.non (by assumption) (by assumption))
      (first
        | (go_at_call 33; (refine (c33).mono ?_); rintro e y1 ⟨rfl, hk1⟩; have hk2 := LX.Kp.non hs hk1)
        | (go_at_call 32; (refine (m32e (x := x)).mono ?_); rintro e y2 ⟨rfl, hk3⟩; have hk4 := LX.Kp.non hk2 hk3))
    clear p0 p1 p2 p3 p4 p5 p6 p7
    replace h0 := h0.kp hk4 fun _ h => h
    replace k0 := k0.non hk4
    replace g0 := fun W hj => g0 W (hk4.non hj)
    replace h5 := h5.kp hk4 fun _ _ h => h
    have hE2 : E < y2.heap.size := Nat.lt_of_lt_of_le hH1 hk4.size
    clear hs hk4 hk2 hk1 hk3 hH1
    obtain ⟨p0, p1, p2, p3, p4, p5, p6, p7⟩ := ws8 h5 (by omega)
    go_wp2_with fail
    refine (e36 (x := x)).mono ?_
    rintro e y3 ⟨p, hp, rfl, hk1⟩
    go_wp2_with fail
    refine (e35 (a := p)).mono ?_
    rintro e y4 ⟨y, bb, hy, rfl, hk2⟩
    replace hk1 := hk1.non hk2
    replace h0 := h0.kp hk1 fun _ h => h
    replace k0 := k0.non hk1
    replace g0 := fun W hj => g0 W (hk1.non hj)
    replace h5 := h5.kp hk1 fun _ _ h => h
    have hF : E < y4.heap.size := Nat.lt_of_lt_of_le hE2 hk1.size
    clear hk1 hk2 p0 p1 p2 p3 p4 p5 p6 p7 hE2
    have h6 := Ws.new8 y4 25 (ew y)
    have hk : Kp non y4 (y4.alloc (.cells (a8 (ew y)) 25)) := (Kp.refl _ _).alloc _
    replace h0 := h0.kp hk fun _ h => h
    replace k0 := k0.non hk
    replace g0 := fun W hj => g0 W (hk.non hj)
    replace h5 := h5.kp hk fun _ _ h => h
    clear hk
    have ha := and1 (ew y 0)
    rw [ew_par] at ha
    have gg := g0 _ ((Kp.refl _ _).drew)
    go_wp2_with fail
    generalize hF' : y4.heap.size = F at *
    generalize (y4.alloc (.cells (a8 (ew y)) 25)) = W2 at *
    have c0 := (h6.drew 0 (by omega)).1
    have hpar : y.val % 2 = 0 ∨ y.val % 2 = 1 := by omega
    rcases hpar with hpar | hpar
    · have hu1 : bits .and .u8 3 1 = 1 := by kernel_rfl
      have hu2 : wrap64 1 = 1 := by kernel_rfl
      have hu3 : (((0 : Int) != 1) : Bool) = true := by decide
      replace ha : bits .and .i64 (ew y 0) 1 = 0 := by rw [ha, hpar]; rfl
      go_region
      replace k0 := k0.drew
      replace h0 := h0.drew
      replace h5 := h5.drew
      replace h6 := h6.drew
      generalize W2.drew = W3 at *
      have q6 := h6.r
      clear gg c0 ha
      go_wp2_with (refine wpList_load25 rfl _ rfl F 0 rfl (ew y) q6 ?_)
      refine (e37z (b := y)).mono ?_
      rintro e y5 ⟨z, hz, rfl, hk⟩
      replace k0 := k0.non hk
      replace h0 := h0.kp hk fun _ h => h
      replace h5 := h5.kp hk fun _ _ h => h
      replace h6 := h6.kp hk fun _ _ h => h
      clear hk q6
      go_wp2_with (first | (refine wpList_storeW rfl _ _ rfl F (ew z) rfl rfl h6 ?_; (intro W4 q6 kq; have h5 := h5.kp kq (fun _ _ h => by have := h.1; omega); have h0 := h0.kp kq (fun _ h => by have := h.1; omega); have k0 : Kp non w W4 := k0.trans kq (fun _ _ _ h => h) (fun _ _ hl h => by have := h.1; omega))) | (refine wpList_load25 rfl _ rfl E 0 rfl (ew x) h5.r ?_) | (refine wpList_load25 rfl _ rfl F 0 rfl (ew z) q6.r ?_) | (refine wpList_store27 rfl _ _ rfl H false (ew x) (ew z) rfl rfl _ _ _ h0 ?_))
      refine bodyPost_ret (resultsN27 rfl rfl rfl h0.set) rfl ?_
      exact rd13_short (t := 3) hp.out hy.out (kp_freshL k0 (Nat.le_of_eq hHH) 0 _) z (by rw [hpar]; exact hz.out)
    · have hu1 : bits .and .u8 3 1 = 1 := by kernel_rfl
      have hu2 : wrap64 1 = 1 := by kernel_rfl
      have hu3 : (((1 : Int) != 1) : Bool) = false := by decide
      replace ha : bits .and .i64 (ew y 0) 1 = 1 := by rw [ha, hpar]; rfl
      go_region
      replace k0 := k0.drew
      replace h0 := h0.drew
      replace h5 := h5.drew
      replace h6 := h6.drew
      generalize W2.drew = W3 at *
      clear gg c0 ha
      go_wp2_with (first | (refine wpList_load25 rfl _ rfl E 0 rfl (ew x) h5.r ?_) | (refine wpList_load25 rfl _ rfl F 0 rfl (ew y) h6.r ?_) | (refine wpList_store27 rfl _ _ rfl H false (ew x) (ew y) rfl rfl _ _ _ h0 ?_))
      refine bodyPost_ret (resultsN27 rfl rfl rfl h0.set) rfl ?_
      exact rd13_short (t := 3) hp.out hy.out (kp_freshL k0 (Nat.le_of_eq hHH) 0 _) y (by rw [hpar]; rfl)
  · go_wp2_with fail
    have hs : Kp non (w1.alloc (.cells (a8 (nw X0)) 25)) (w1.alloc (.cells (a8 (nw X0)) 25)).drew := (Kp.refl _ _).drew
    generalize hE : w1.heap.size = E at *
    generalize (w1.alloc (.cells (a8 (nw X0)) 25)) = W1 at *
    have p0 : ∀ W, Kp non W1 W → W.cell? ⟨E, 0, none⟩ = some (.int .i64 (nw X0 0)) := fun W => cellK (h5 0 (by omega)).1
    have p1 : ∀ W, Kp non W1 W → W.cell? ⟨E, 1, none⟩ = some (.int .i64 (nw X0 1)) := fun W => cellK (h5 1 (by omega)).1
    have p2 : ∀ W, Kp non W1 W → W.cell? ⟨E, 2, none⟩ = some (.int .i64 (nw X0 2)) := fun W => cellK (h5 2 (by omega)).1
    have p3 : ∀ W, Kp non W1 W → W.cell? ⟨E, 3, none⟩ = some (.int .i64 (nw X0 3)) := fun W => cellK (h5 3 (by omega)).1
    have p4 : ∀ W, Kp non W1 W → W.cell? ⟨E, 4, none⟩ = some (.int .i64 (nw X0 4)) := fun W => cellK (h5 4 (by omega)).1
    have p5 : ∀ W, Kp non W1 W → W.cell? ⟨E, 5, none⟩ = some (.int .i64 (nw X0 5)) := fun W => cellK (h5 5 (by omega)).1
    have p6 : ∀ W, Kp non W1 W → W.cell? ⟨E, 6, none⟩ = some (.int .i64 (nw X0 6)) := fun W => cellK (h5 6 (by omega)).1
    have p7 : ∀ W, Kp non W1 W → W.cell? ⟨E, 7, none⟩ = some (.int .i64 (nw X0 7)) := fun W => cellK (h5 7 (by omega)).1
    go_region_held3 (fun w' => Kp non W1 w') (with_reducible first | assumption | exact LX.Kp.non (by assumption) (by assumption))
      (first
        | (go_at_call 33; (refine (c33).mono ?_); rintro e y1 ⟨rfl, hk1⟩; have hk2 := LX.Kp.non hs hk1)
        | (go_at_call 32; (refine (m32f hX h2).mono ?_); rintro e y2 ⟨rfl, hk3⟩; have hk4 := LX.Kp.non hk2 hk3))
    clear p0 p1 p2 p3 p4 p5 p6 p7
    replace h0 := h0.kp hk4 fun _ h => h
    replace k0 := k0.non hk4
    clear h5 g0 hk1 hk2 hk3 hk4 hs
    go_wp2_with (refine wpList_store27 rfl _ _ rfl H false (fun _ => 0) (fun _ => 0) rfl rfl _ _ _ h0 ?_)
    refine bodyPost_ret (resultsN27 rfl rfl rfl h0.set) rfl ?_
    rw [rdS_none (fun h => hX h.1)]
    exact ⟨_, _, _, rfl, (fun _ h => nomatch h), kp_freshL k0 (Nat.le_of_eq hHH) 0 _⟩
end Go.Proofs.Ytjdjhccefnffmaa
set_option maxRecDepth 100000
set_option maxHeartbeats 1000000
namespace Go.Proofs.Ytjdjhccefnffmaa
open Go LX Go.RowKit
theorem pvL_pl (P : EC.Pt) : ∃ fr x y, pvL P = pl fr x y := by
  cases P with
  | far => exact ⟨true, fun _ => 0, fun _ => 0, rfl⟩
  | aff x y => exact ⟨false, ew x, ew y, rfl⟩
theorem c42 {w : World} {P : EC.Pt} : Calls Try.prog 42 #[.agg (pvL P).toArray] w (Bs01 P w) := by
  cases P with
  | far => exact c42_far
  | aff x y => exact c42_aff
def negP : EC.Pt → EC.Pt
  | .far => .far
  | .aff x y => .aff x (0 - y)
theorem c21 {w : World} {P : EC.Pt} : Calls Try.prog 21 #[.agg (pvL P).toArray] w (Pv01 (negP P) w) := by
  cases P with
  | far => exact c21_far
  | aff x y => exact c21_aff
theorem c15 {w : World} {v : Value} {P Q : EC.Pt} (hv : PtS w v P) : Calls Try.prog 15 #[v, .agg (pvL Q).toArray] w (Sp01 P Q w) := by
  have hc := fun w => c42 (w := w) (P := Q)
  obtain ⟨fr, x, y, e⟩ := pvL_pl Q
  rw [e] at hc ⊢
  have k0 : Kp non w (w.alloc (.cells (pl fr x y).toArray 27)) := (Kp.refl _ w).alloc _
  have h0 := Pl.new w 27 fr x y
  replace hv := hv.kp k0
  go_enter Try.func15, Try.ntmps15
  go_wp2_with (refine wpList_load27 rfl _ rfl w.heap.size rfl _ _ _ h0 ?_)
  refine (hc _).mono ?_
  rintro e w1 ⟨u, rfl, hu, hk⟩
  replace hv := hv.kp hk
  replace k0 := k0.non hk
  clear hk h0 hc
  go_wp2_with fail
  refine (c19p hv hu).mono ?_
  rintro e w2 ⟨b, rfl, hb, hk⟩
  replace k0 := k0.non hk
  clear hk hv hu
  go_wp2_with fail
  go_ret
  exact ⟨b, rfl, hb, k0⟩
/-- Bytes of an array as a slice. -/
theorem in_arr {w : World} {b : Nat} {g : Nat → Nat} (h : By w b 0 32 g) : In w (.slice (some ⟨b, 0, none⟩) 32 32) 32 g := .inr ⟨by omega, by omega, b, 0, 32, rfl, Nat.le_refl _, h⟩
theorem c20 {w : World} {n : Nat} {v : Value} {f g : Nat → Nat} {P : EC.Pt} (hv : In w v n f) (hg : ∀ i, i < 32 → g i < 256) (hP : rd n f = some P) : Calls Try.prog 20 #[v, .agg (bys g 32)] w (Bs01 (EC.Pt.mul (hi8 g 32) P) w) := by
  have k0 : Kp non w (w.alloc (.cells (bys g 32) 23)) := (Kp.refl _ w).alloc _
  have h0 := By.new w 23 g 32 hg
  replace hv := hv.kp k0
  go_enter Try.func20, Try.ntmps20
  go_wp2_with fail
  refine (c22 hv (in_arr h0) hP).mono ?_
  rintro e w1 ⟨u, rfl, hu, hk⟩
  replace k0 := k0.non hk
  clear hk h0 hv
  go_wp2_with fail
  go_ret
  exact ⟨u, rfl, hu, k0⟩
theorem c27 {w : World} {n m : Nat} {v u : Value} {f g : Nat → Nat} {P Q : EC.Pt} (hv : In w v n f) (hu : In w u m g) (hP : rd n f = some P) (hQ : rd m g = some Q) : Calls Try.prog 27 #[v, u] w (Bs01 (P.sum Q) w) := by
  go_enter Try.func27, Try.ntmps27
  go_wp2_with fail
  refine (c46 hv hu hP hQ).mono ?_
  rintro e w1 ⟨z, rfl, hz, hk⟩
  clear hv hu
  go_wp2_with fail
  go_ret
  exact ⟨z, rfl, hz, hk⟩
/-- spec.Read. -/
theorem c13 {w : World} {n : Nat} {v : Value} {f : Nat → Nat} (hv : In w v n f) : Calls Try.prog 13 #[v] w (Rd13 (rd n f) w) := by
  have other : n ≠ 1 → n ≠ 65 → n ≠ 33 → rd n f = none := fun h1 h2 h3 => by
    unfold rd
    rw [if_neg (fun h => h1 h.1), if_neg (fun h => h2 h.1), if_neg (fun h => h3 h.1)]
  rcases hv with ⟨rfl, hv⟩ | ⟨h0, hn, b, o, c, rfl, hc, hb⟩
  · rw [other (by omega) (by omega) (by omega)]
    rcases hv with ⟨ad, c, rfl⟩ | rfl
    · exact c13_other (by omega) (by omega) (by omega)
    · exact c13_other (by omega) (by omega) (by omega)
  · by_cases g1 : n = 1 ∧ f 0 = 0
    · rw [show rd n f = some .far from if_pos g1]
      obtain ⟨rfl, hf⟩ := g1
      exact c13_far hb hf
    · by_cases g65 : n = 65 ∧ f 0 = 4
      · have : rd n f = (rdL (hi8 (fun i => f (1 + i)) 32) (hi8 (fun i => f (33 + i)) 32)).map fun t => .aff t.1 t.2.1 := by
          unfold rd
          rw [if_neg g1, if_pos g65]
        rw [this]
        obtain ⟨rfl, hf⟩ := g65
        exact c13_long hb hf hc
      · by_cases g33 : n = 33 ∧ (f 0 = 2 ∨ f 0 = 3)
        · have : rd n f = (rdS (hi8 (fun i => f (1 + i)) 32) (f 0)).map fun t => .aff t.1 t.2.1 := by
            unfold rd
            rw [if_neg g1, if_neg g65, if_pos g33]
          rw [this]
          obtain ⟨rfl, hf⟩ := g33
          rcases hf with hf | hf
          · rw [hf]; exact c13_short2 hb hf hc
          · rw [hf]; exact c13_short3 hb hf hc
        · have : rd n f = none := by
            unfold rd
            rw [if_neg g1, if_neg g65, if_neg g33]
          rw [this]
          exact c13_no hb h0 g1 g65 g33
theorem poly_on {x y : EC.F} (h : EC.On x y) : y * y = poly x := by
  unfold EC.On at h
  rw [h]
  unfold poly
  generalize EC.B = b
  grind -lia -linarith
/-- What is written is read. -/
theorem rd_pt {P : EC.Pt} (hP : P.Ok) : rd (ptN P) (ptF P) = some P := by
  cases P with
  | far => exact if_pos ⟨rfl, rfl⟩
  | aff x y =>
    have hx : x.val < PN := Nat.lt_of_lt_of_eq x.isLt PN_eq
    have hy : y.val < PN := Nat.lt_of_lt_of_eq y.isLt PN_eq
    have e1 : hi8 (fun i => encA x y (1 + i)) 32 = x.val := by
      rw [hi8_eq (g := be x.val) 32 fun i hi => by unfold encA; rw [if_neg (by omega), if_pos (by omega)]; congr 1; omega]
      exact hi8_be (F_lt x)
    have e2 : hi8 (fun i => encA x y (33 + i)) 32 = y.val := by
      rw [hi8_eq (g := be y.val) 32 fun i hi => by unfold encA; rw [if_neg (by omega), if_neg (by omega)]; congr 1; omega]
      exact hi8_be (F_lt y)
    show rd 65 (encA x y) = _
    unfold rd
    rw [if_neg (by omega), if_pos ⟨rfl, rfl⟩, e1, e2, rdL_some hx hy (by rw [nF_of, nF_of]; exact poly_on hP), nF_of, nF_of]
    rfl
/-- A store of a point: the world after it by name. -/
theorem wpList_storeP {ops : Array Oper} {rest : List Oper} {op : Oper} {a : Act} {w : World} {Q : Exit → Act → World → Prop} (hgd : op.guard = none) (x y : Operand) (ho : op.op = .store 27 x y)
    (b : Nat) (fr : Bool) (X Y : Nat → Int) (hx : a.eval x = .pointer (some ⟨b, 0, none⟩)) (hy : a.eval y = .agg (pl fr X Y).toArray) {fr' : Bool} {X' Y' : Nat → Int} (ht : Pl w b fr' X' Y')
    (h : ∀ W, Kp (at_ b 0 17) w W → Pl W b fr X Y → wpList Try.prog ops Q rest (a.put op.dst undef) W) : wpList Try.prog ops Q (op :: rest) a w :=
  wpList_store27 hgd x y ho b fr X Y hx hy fr' X' Y' ht (h _ (kpT17 (Kp.refl _ w) fr X Y) ht.set)
/-- A slice of slices: all are points. -/
theorem c23 {w : World} {b o m c : Nat} {vs : Nat → Value} {ns : Nat → Nat} {fs : Nat → Nat → Nat} (hb : ∀ i, i < m → w.cell? ⟨b, o + i, none⟩ = some (vs i)) (hv : ∀ i, i < m → In w (vs i) (ns i) (fs i)) (hm : m ≤ 10) :
    Calls Try.prog 23 #[.slice (some ⟨b, o, none⟩) m c] w (Bo1 (∀ i, i < m → (rd (ns i) (fs i)).isSome = true) w) := by
  go_enter Try.func23, Try.ntmps23
  go_wp2_with fail
  have k0 : Kp non w w := Kp.refl _ _
  go_loopw [9] (fun i wr => ∃ k : Nat, k ≤ m ∧ i = .int .i64 (k : Int) ∧ Kp non w wr ∧ ∀ i, i < k → (rd (ns i) (fs i)).isSome = true) (fun i _ => m - (intOf i).toNat)
  case atStart => exact ⟨0, by omega, rfl, k0, fun _ h => absurd h (by omega)⟩
  case round =>
    clear k0
    obtain ⟨k, hk, rfl, kx, hall⟩ := hrel
    by_cases hlt : k < m
    · have a1 : (k : Int) < (m : Int) := by omega
      have c0 : wr.cell? ⟨b, o + k, none⟩ = some (vs k) := cellK (hb k hlt) kx
      go_wp2_with fail
      refine (c13 ((hv k hlt).kp kx)).mono ?_
      rintro e w1 ⟨fr, x, y, rfl, -, hk⟩
      replace kx := kx.non hk
      have hz := z27
      have k1 := kx.alloc (.cells (pl false (fun _ => 0) fun _ => 0).toArray 27)
      have hlt1 := kx.size
      have h0 := Pl.new w1 27 false (fun _ => 0) fun _ => 0
      obtain ⟨t, ht⟩ : ∃ t, t = (rd (ns k) (fs k)).isSome := ⟨_, rfl⟩
      rw [← ht]
      replace ht := Lib.hid ht
      clear hk c0
      cases t with
      | false =>
        go_wp2_with (refine wpList_storeP rfl _ _ rfl w1.heap.size fr x y rfl rfl h0 ?_; intro W kW hW)
        go_ret
        exact ⟨false, rfl, ⟨(fun h => nomatch h), fun h => by have := h k hlt; rw [← ht.out] at this; cases this⟩, kp_in k1 kW hlt1⟩
      | true =>
        go_wp2_with (refine wpList_storeP rfl _ _ rfl w1.heap.size fr x y rfl rfl h0 ?_; intro W kW hW)
        go_roundw
        case rel => exact ⟨k + 1, by omega, by go_num, kp_in k1 kW hlt1, fun i hi => by
          by_cases e : i = k
          · subst e; exact ht.out.symm
          · exact hall i (by omega)⟩
        case measure => simp [intOf]; omega
    · obtain rfl : k = m := by omega
      go_wp2_with fail
      go_ret
      exact ⟨true, rfl, ⟨fun _ => hall, fun _ => rfl⟩, kx⟩
theorem By.new1 (w : World) (v : Value) (t : TypeId) : (w.alloc (.cells #[v] t)).cell? ⟨w.heap.size, 0 + 0, none⟩ = some v := (Cel.new w #[v] t 0 v rfl).1
theorem c24 {w : World} {v u : Value} {P Q : EC.Pt} (hv : PtS w v P) (hu : PtS w u Q) (hP : P.Ok) : Calls Try.prog 24 #[v, u] w (Sp01 P Q w) := by
  obtain ⟨B1, n1, rfl⟩ : ∃ B n, v = .slice (some ⟨B, 0, none⟩) (ptN P) n := by obtain ⟨B, n, h, -, -⟩ := hv; exact ⟨_, _, h⟩
  go_enter Try.func24, Try.ntmps24
  go_wp2_with fail
  refine (c19p hv hu).mono ?_
  rintro e w1 ⟨b, rfl, hb, hk⟩
  replace hv := hv.kp hk
  replace hb := Lib.hid hb
  clear hu
  cases b with
  | false =>
    go_wp2_with fail
    go_ret
    exact ⟨false, rfl, hb.out, hk⟩
  | true =>
    have ka : Kp non w1 (w1.alloc (.cells #[.slice (some ⟨B1, 0, none⟩) (ptN P) n1] 22)) := (Kp.refl _ _).alloc _
    have hc := c23 (w := w1.alloc (.cells #[.slice (some ⟨B1, 0, none⟩) (ptN P) n1] 22)) (b := w1.heap.size) (o := 0) (m := 1) (c := 1) (vs := fun _ => .slice (some ⟨B1, 0, none⟩) (ptN P) n1) (ns := fun _ => ptN P) (fs := fun _ => ptF P)
      (fun i hi => by obtain rfl : i = 0 := by omega
                      exact By.new1 w1 _ 22) (fun i _ => (hv.kp ka).inn) (by omega)
    go_wp2_with fail
    refine hc.mono ?_
    rintro e w2 ⟨t, rfl, ht, hk2⟩
    obtain rfl : t = true := ht.2 fun i _ => by rw [rd_pt hP]; rfl
    have k2 := (hk.non ka).non hk2
    clear hk ka hk2 hc ht hv
    go_wp2_with fail
    go_ret
    exact ⟨true, rfl, by simpa using hb.out, k2⟩
end Go.Proofs.Ytjdjhccefnffmaa
