import Derived.Test.YtjdjhccefnffmaaB17
import Derived.Test.YtjdjhccefnffmaaB14
import Derived.Deep.RegionHeld3
set_option linter.unusedVariables false
set_option linter.unusedSimpArgs false
set_option maxRecDepth 100000
set_option maxHeartbeats 400000
namespace Go.Proofs.Ytjdjhccefnffmaa
open Go LX Go.RowKit
theorem c39_no {w : World} {p1 p2 q1 q2 n c : Nat} {ad : Option Addr} (hn : n ≠ 32) :
    Calls Try.prog 39 #[pt p1 p2, pt q1 q2, .slice ad n c] w fun e w' => ∃ b, e = .returned (.tuple #[.pointer none, .iface 138 (.pointer (some ⟨b, 0, none⟩))]) ∧ Kp non w w' := by
  have k0 : Kp non w (w.alloc (.cells #[.int .u64 0, .int .u64 0, .int .u64 0, .int .u64 0] 83)) := (Kp.refl _ w).alloc _
  go_enter Try.func39, Try.ntmps39
  go_wp2_with fail
  refine (c56_no hn).mono ?_
  rintro e w1 ⟨b, rfl, hk⟩
  have k1 := k0.non hk
  clear k0 hk
  go_wp2_with fail
  go_ret2
  exact ⟨b, rfl, k1⟩
/-- How many times so far. -/
def acc (V k : Nat) : Nat := if k = 51 then V else (V / 2 ^ (254 - 5 * k) + 1) / 2
theorem acc_step (V k : Nat) (hk : k < 50) : (bs (V / 2 ^ (254 - 5 * (k + 1)) % 64) = 0 → acc V (k + 1) = 32 * acc V k + bd (V / 2 ^ (254 - 5 * (k + 1)) % 64)) ∧
    (bs (V / 2 ^ (254 - 5 * (k + 1)) % 64) = 1 → acc V (k + 1) + bd (V / 2 ^ (254 - 5 * (k + 1)) % 64) = 32 * acc V k) := by
  have h1 : V / 2 ^ (254 - 5 * k) = V / 2 ^ (254 - 5 * (k + 1)) / 32 := by
    rw [show 254 - 5 * k = (254 - 5 * (k + 1)) + 5 by omega, Nat.pow_add, ← Nat.div_div_eq_div_mul]
  simp only [acc, if_neg (show ¬ k = 51 by omega), if_neg (show ¬ k + 1 = 51 by omega), h1]
  generalize V / 2 ^ (254 - 5 * (k + 1)) = x
  unfold bs bd
  constructor
  · intro h; rw [if_pos (by omega)]; omega
  · intro h; rw [if_neg (by omega)]; omega
theorem acc_last (V : Nat) : (bs (2 * V % 64) = 0 → acc V 51 = 32 * acc V 50 + bd (2 * V % 64)) ∧
    (bs (2 * V % 64) = 1 → acc V 51 + bd (2 * V % 64) = 32 * acc V 50) := by
  simp only [acc, if_true]
  rw [if_neg (show ¬ 50 = 51 by omega), show 254 - 5 * 50 = 4 by omega]
  unfold bs bd
  constructor
  · intro h; rw [if_pos (by omega)]; omega
  · intro h; rw [if_neg (by omega)]; omega
theorem bd_le (n : Nat) (h : n < 64) : bd n ≤ 16 := by unfold bd; split <;> omega
theorem bs_le (n : Nat) (h : n < 64) : bs n ≤ 1 := by unfold bs; omega
theorem selT_mul (Q : EC.Pt) (n : Nat) (h : n ≤ 16) : selT (fun i => EC.Pt.mul (i + 1) Q) n 17 = EC.Pt.mul n Q := by
  unfold selT
  by_cases h0 : n = 0
  · subst h0; rw [if_neg (by omega)]; rfl
  · rw [if_pos (by omega)]
    show EC.Pt.mul (n - 1 + 1) Q = _
    rw [show n - 1 + 1 = n by omega]
theorem mul2 {Q : EC.Pt} (hQ : Q.Ok) (n : Nat) : (EC.Pt.mul n Q).sum (EC.Pt.mul n Q) = EC.Pt.mul (2 * n) Q := by
  rw [← EC.Pt.mul_add hQ]; congr 1; omega
theorem mul_sgn {Q : EC.Pt} (hQ : Q.Ok) {m d r s : Nat} (hs : s ≤ 1) (h0 : s = 0 → r = m + d) (h1 : s = 1 → r + d = m) : (EC.Pt.mul m Q).sum (sgn s (EC.Pt.mul d Q)) = EC.Pt.mul r Q := by
  have : s = 0 ∨ s = 1 := by omega
  rcases this with rfl | rfl
  · rw [h0 rfl, EC.Pt.mul_add hQ]; rfl
  · have e := h1 rfl
    have k1 := hQ.mul r
    have k2 := hQ.mul d
    rw [← e, EC.Pt.mul_add hQ]
    show ((EC.Pt.mul r Q).sum (EC.Pt.mul d Q)).sum (EC.Pt.mul d Q).neg = _
    rw [EC.Pt.sum_assoc k1 k2 k2.neg, EC.Pt.neg_sum k2, EC.Pt.sum_far]
theorem acc_zero (V : Nat) (h : V < 115792089237316195423570985008687907853269984665640564039457584007913129639936) : V / 2 ^ 254 % 18446744073709551616 < 64 ∧ bd (V / 2 ^ 254 % 18446744073709551616) = acc V 0 := by
  have h1 : V / 2 ^ 254 < 4 := by omega
  constructor
  · omega
  · rw [Nat.mod_eq_of_lt (by omega)]
    unfold acc bd
    rw [if_pos (by omega), if_neg (by omega)]
theorem and63 (x : Nat) (hx : x < 18446744073709551616) : bits .and .u64 (x : Int) 63 = ((x % 64 : Nat) : Int) := by
  have h := bits_and_u64 x 63 hx (by omega)
  rw [show ((63 : Nat) : Int) = 63 from rfl] at h
  rw [h, show 63 = 2 ^ 6 - 1 from rfl, Nat.and_two_pow_sub_one_eq_mod]
/-- The cells of a new table. -/
def z192 : Array Value := ((List.range 192).map fun _ => Value.int .u64 0).toArray
/-- A point that may be written: 16 in a new table. -/
theorem SFrom.zero (w : World) (t : TypeId) : SFrom (w.alloc (.cells z192 t)) w.heap.size 0 := by
  have hc : ∀ j, j < 192 → Cel (w.alloc (.cells z192 t)) w.heap.size j (.int .u64 ((0 : Nat) : Int)) := fun j hj => Cel.new _ _ _ j _ (by simp [z192, hj])
  intro i _ hi
  exact ⟨⟨0, 0, 0, 0, hc _ (by omega), hc _ (by omega), hc _ (by omega), hc _ (by omega), by decide, by decide, by decide, by decide⟩,
    ⟨0, 0, 0, 0, hc _ (by omega), hc _ (by omega), hc _ (by omega), hc _ (by omega), by decide, by decide, by decide, by decide⟩,
    ⟨0, 0, 0, 0, hc _ (by omega), hc _ (by omega), hc _ (by omega), hc _ (by omega), by decide, by decide, by decide, by decide⟩⟩
/-- So many times the point. -/
def Mul01 (n : Nat) (Q : EC.Pt) (p1 p2 : Nat) (w : World) (e : Ending) (w' : World) : Prop :=
  e = .returned (.tuple #[pt p1 p2, .nilIface]) ∧ Kp (at_ p1 p2 12) w w' ∧ PtAt w' p1 p2 (EC.Pt.mul n Q)
/-- What holds at each turn of the loop. -/
structure Lp (w0 : World) (Q : EC.Pt) (s0 s1 s2 s3 ob tb tt p1 p2 m : Nat) (wr : World) : Prop where
  l1 : p1 < w0.heap.size
  l2 : w0.heap.size ≤ ob
  l3 : ob < tb
  l4 : tb < tt
  k : Kp (at_ p1 p2 12) w0 wr
  W : W4 wr ob 0 s0 s1 s2 s3
  T : Tab wr tb 16 fun i => EC.Pt.mul (i + 1) Q
  P : PtAt wr p1 p2 (EC.Pt.mul m Q)
  t : S3 wr tt 0
theorem Lp.p {w0 wr w' : World} {Q : EC.Pt} {s0 s1 s2 s3 ob tb tt p1 p2 m m' : Nat} (h : Lp w0 Q s0 s1 s2 s3 ob tb tt p1 p2 m wr) (hk : Kp (at_ p1 p2 12) wr w') (hp : PtAt w' p1 p2 (EC.Pt.mul m' Q)) :
    Lp w0 Q s0 s1 s2 s3 ob tb tt p1 p2 m' w' :=
  ⟨h.l1, h.l2, h.l3, h.l4, h.k.trans hk (fun _ _ _ h => h) (fun _ _ _ h => h), h.W.kp hk (fun i _ g => by have := g.1; have := h.l1; have := h.l2; omega),
    h.T.kp hk (fun o g => by have := g.1; have := h.l1; have := h.l2; have := h.l3; omega), hp, h.t.kp hk fun i _ g => by have := g.1; have := h.l1; have := h.l2; have := h.l3; have := h.l4; omega⟩
theorem Lp.s {w0 wr w' : World} {Q : EC.Pt} {s0 s1 s2 s3 ob tb tt p1 p2 m : Nat} (h : Lp w0 Q s0 s1 s2 s3 ob tb tt p1 p2 m wr) (hk : Kp (at_ tt 0 12) wr w') (hp : S3 w' tt 0) :
    Lp w0 Q s0 s1 s2 s3 ob tb tt p1 p2 m w' :=
  ⟨h.l1, h.l2, h.l3, h.l4, h.k.trans hk (fun _ _ _ h => h) (fun _ _ g e => by have := e.1; have := h.l2; have := h.l3; have := h.l4; omega), h.W.kp hk (fun i _ g => by have := g.1; have := h.l3; have := h.l4; omega),
    h.T.kp hk (fun o g => by have := g.1; have := h.l4; omega), h.P.kp hk (fun i _ g => by have := g.1; have := h.l1; have := h.l2; have := h.l3; have := h.l4; omega), hp⟩
theorem last63 {s0 s1 s2 s3 V : Nat} (hv : v4 s0 s1 s2 s3 = V) : bits .and .u64 (IntKind.u64.wrap ((s0 : Int) * 2)) 63 = ((2 * V % 64 : Nat) : Int) := by
  have h1 : IntKind.u64.wrap ((s0 : Int) * 2) = ((s0 * 2 % 18446744073709551616 : Nat) : Int) := by rw [IntKind.wrap_u64]; omega
  rw [h1, and63 _ (by omega)]
  congr 1
  subst hv
  simp only [v4]
  omega
theorem c39 {w : World} {p1 p2 q1 q2 b o c : Nat} {f : Nat → Nat} {Q : EC.Pt} (hs : S3 w p1 p2) (hq : PtAt w q1 q2 Q) (hb : By w b o 32 f) (hc : 32 ≤ c) :
    Calls Try.prog 39 #[pt p1 p2, pt q1 q2, .slice (some ⟨b, o, none⟩) 32 c] w (Mul01 (hi8 f 32 % EC.N) Q p1 p2 w) := by
  have hQ := hq.1
  have lp := hs.lt
  have lq := hq.s3.lt
  have lb : b < w.heap.size := (hb 0 (by omega)).1.lt
  have k0 : Kp non w (w.alloc (.cells #[.int .u64 0, .int .u64 0, .int .u64 0, .int .u64 0] 83)) := (Kp.refl _ w).alloc _
  have z0 := Sp.zero w 83
  go_enter Try.func39, Try.ntmps39
  go_wp2_with fail
  refine (c56 z0 (hb.kp k0 fun _ _ h => h) (by omega) hc).mono ?_
  rintro e w1 ⟨rfl, hk, s0, s1, s2, s3, hW, hv⟩
  generalize hV : hi8 f 32 % EC.N = V at *
  have hVl : V < 115792089237316195423570985008687907853269984665640564039457584007913129639936 := by
    rw [← hV]; exact Nat.lt_trans (Nat.mod_lt _ (by decide)) (by decide)
  have k1 : Kp non w w1 := k0.trans hk (fun _ _ _ h => h) (fun _ _ _ h => by have := h.1; omega)
  clear hV hb k0 hk z0
  have lw1 : w.heap.size < w1.heap.size := hW.c0.lt
  obtain ⟨a1, a2⟩ := acc_zero V hVl
  go_wp2_with fail
  refine (c58 (n := 254) hW (by omega)).mono ?_
  rw [hv]
  obtain ⟨n0, hn0⟩ : ∃ n, n = V / 2 ^ 254 % 18446744073709551616 := ⟨_, rfl⟩
  rw [← hn0] at a1 a2 ⊢
  clear hn0
  rintro e w2 ⟨rfl, rfl⟩
  go_wp2_with fail
  refine (c57 a1).mono ?_
  have sl := bd_le n0 a1
  rw [a2] at sl ⊢
  clear a2
  generalize bs n0 = b0
  rintro e w3 ⟨rfl, rfl⟩
  have hz : (zeroValue 95).run Try.prog w3 = .ok (.agg z192) w3 := by kernel_rfl
  have hsf := SFrom.zero w3 95
  have ka : Kp non w3 (w3.alloc (.cells z192 95)) := (Kp.refl _ w3).alloc _
  have k2 := k1.non ka
  replace hW := hW.kp ka fun _ _ h => h
  have hq2 := hq.kp k2 fun _ _ h => h
  go_wp2_with fail
  refine (c59 hsf hq2 (by omega)).mono ?_
  clear hsf hq2 hz
  rintro e w4 ⟨rfl, hk, hT⟩
  generalize htb : w3.heap.size = tb at *
  replace hW := hW.kp hk fun i _ h => by have := h.1; omega
  have k4 : Kp non w w4 := k2.trans hk (fun _ _ _ h => h) (fun _ _ _ h => by have := h.1; omega)
  have lt4 : tb < w4.heap.size := (hT 0 (by omega)).s3.lt
  clear hk k2 ka
  have hp4 := hs.kp k4 fun _ _ h => h
  go_wp2_with fail
  refine (c60 hT hp4 (by omega) sl).mono ?_
  rw [selT_mul _ _ sl]
  rintro e w5 ⟨rfl, hk, hP⟩
  replace hW := hW.kp hk fun i _ h => by have := h.1; omega
  replace hT := hT.kp hk fun o h => by have := h.1; omega
  have k5 : Kp (at_ p1 p2 12) w w5 := (k4.wide fun _ _ _ h => h.elim).trans hk (fun _ _ _ h => h) (fun _ _ _ h => h)
  have l5 : w4.heap.size ≤ w5.heap.size := hk.size
  clear hk k4 hp4
  go_wp2_with fail
  refine (c44 w5).mono ?_
  rintro e w6 ⟨rfl, hk, ht⟩
  replace hW := hW.kp hk fun _ _ h => h
  replace hT := hT.kp hk fun _ h => h
  replace hP := hP.kp hk fun _ _ h => h
  replace hk := k5.trans hk (fun _ _ _ h => h) (fun _ _ _ h => h.elim)
  replace ht := ht.sp
  generalize htt : w5.heap.size = tt at *
  clear k5 htt htb a1 sl k1
  go_wp2_with fail
  have h : Lp w Q s0 s1 s2 s3 w.heap.size tb tt p1 p2 (acc V 0) w6 := ⟨lp, Nat.le_refl _, lw1, by omega, hk, hW, hT, hP, ht⟩
  clear hk hW hT hP ht lt4 l5 lw1 hs hq
  go_loopw [10] (fun i wr => ∃ k : Nat, ((k ≤ 50 ∧ i = .int .i64 ((254 - 5 * k : Nat) : Int)) ∨ (k = 51 ∧ i = .int .i64 (-1))) ∧ Lp w Q s0 s1 s2 s3 w.heap.size tb tt p1 p2 (acc V k) wr) (fun i _ => (intOf i + 1).toNat)
  case atStart => exact ⟨0, .inl ⟨by omega, rfl⟩, h⟩
  case round =>
    clear h
    obtain ⟨k, (⟨hk, rfl⟩ | ⟨rfl, rfl⟩), h⟩ := hrel
    · have r1 : (4 : Int) ≤ ((254 - 5 * k : Nat) : Int) := by omega
      by_cases h50 : k = 50
      · subst h50
        have h63 := last63 hv
        have hl : 2 * V % 64 < 64 := Nat.mod_lt _ (by omega)
        obtain ⟨hac0, hac1⟩ := acc_last V
        generalize 2 * V % 64 = n6 at *
        generalize hA : acc V 50 = A at *
        go_wp2_with fail
        refine (cDbl h.P.s3 h.P).mono ?_
        rintro e x1 ⟨rfl, hk, hp⟩
        rw [mul2 hQ] at hp
        replace h := h.p hk hp
        clear hk hp
        go_wp2_with fail
        refine (cDbl h.P.s3 h.P).mono ?_
        rintro e x2 ⟨rfl, hk, hp⟩
        rw [mul2 hQ] at hp
        replace h := h.p hk hp
        clear hk hp
        go_wp2_with fail
        refine (cDbl h.P.s3 h.P).mono ?_
        rintro e x3 ⟨rfl, hk, hp⟩
        rw [mul2 hQ] at hp
        replace h := h.p hk hp
        clear hk hp
        go_wp2_with fail
        refine (cDbl h.P.s3 h.P).mono ?_
        rintro e x4 ⟨rfl, hk, hp⟩
        rw [mul2 hQ] at hp
        replace h := h.p hk hp
        clear hk hp
        go_wp2_with fail
        refine (cDbl h.P.s3 h.P).mono ?_
        rintro e x5 ⟨rfl, hk, hp⟩
        rw [mul2 hQ] at hp
        replace h := h.p hk hp
        clear hk hp
        have c0 := h.W.c0.1
        go_wp2_with fail
        refine (c57 hl).mono ?_
        rintro e y0 ⟨rfl, rfl⟩
        clear h63 c0
        go_wp2_with fail
        refine (c60 h.T h.t (by have := h.l4; omega) (bd_le _ hl)).mono ?_
        rw [selT_mul _ _ (bd_le _ hl)]
        rintro e y1 ⟨rfl, hk, hp⟩
        replace h := h.s hk hp.s3
        clear hk
        go_wp2_with fail
        refine (cNeg (bs_le _ hl) hp).mono ?_
        clear hp
        rintro e y2 ⟨rfl, hk, hp⟩
        replace h := h.s hk hp.s3
        clear hk
        go_wp2_with fail
        refine (cAdd h.P.s3 h.P hp).mono ?_
        clear hp
        rintro e y3 ⟨rfl, hk, hp⟩
        rw [mul_sgn hQ (r := acc V 51) (bs_le _ hl) (fun g => by have := hac0 g; omega) (fun g => by have := hac1 g; omega)] at hp
        replace h := h.p hk hp
        clear hk hp hac0 hac1
        go_wp2_with fail
        go_roundw
        case rel => exact ⟨51, .inr ⟨rfl, by go_num⟩, h⟩
        case measure => simp [intOf]
      · obtain ⟨j, hj⟩ : ∃ j, j = 254 - 5 * (k + 1) := ⟨_, rfl⟩
        obtain ⟨hac0, hac1⟩ := acc_step V k (by omega)
        rw [← hj] at hac0 hac1
        have hj4 : 4 ≤ j := by omega
        generalize hi : 254 - 5 * k = i at *
        have r2 : (i : Int) - 5 = (j : Int) := by omega
        have r3 : IntKind.i64.wrap ((i : Int) - 5) = (j : Int) := by rw [IntKind.wrap_i64]; omega
        have r4 : (0 : Int) ≤ (j : Int) := by omega
        have r5 : i = j + 5 := by omega
        replace r5 := Lib.hid r5
        have r6 : j < 256 := by omega
        replace hj := Lib.hid hj
        generalize hA : acc V k = A at *
        go_wp2_with fail
        refine (cDbl h.P.s3 h.P).mono ?_
        rintro e x1 ⟨rfl, hk, hp⟩
        rw [mul2 hQ] at hp
        replace h := h.p hk hp
        clear hk hp
        go_wp2_with fail
        refine (cDbl h.P.s3 h.P).mono ?_
        rintro e x2 ⟨rfl, hk, hp⟩
        rw [mul2 hQ] at hp
        replace h := h.p hk hp
        clear hk hp
        go_wp2_with fail
        refine (cDbl h.P.s3 h.P).mono ?_
        rintro e x3 ⟨rfl, hk, hp⟩
        rw [mul2 hQ] at hp
        replace h := h.p hk hp
        clear hk hp
        go_wp2_with fail
        refine (cDbl h.P.s3 h.P).mono ?_
        rintro e x4 ⟨rfl, hk, hp⟩
        rw [mul2 hQ] at hp
        replace h := h.p hk hp
        clear hk hp
        go_wp2_with fail
        refine (cDbl h.P.s3 h.P).mono ?_
        rintro e x5 ⟨rfl, hk, hp⟩
        rw [mul2 hQ] at hp
        replace h := h.p hk hp
        clear hk hp
        go_wp2_with fail
        refine (c58 (n := j) h.W r6).mono ?_
        rw [hv]
        have h63 := and63 (V / 2 ^ j % 18446744073709551616) (Nat.mod_lt _ (by omega))
        rw [Nat.mod_mod_of_dvd _ (by decide)] at h63
        have hl : V / 2 ^ j % 64 < 64 := Nat.mod_lt _ (by omega)
        generalize V / 2 ^ j % 18446744073709551616 = xx at *
        generalize V / 2 ^ j % 64 = n6 at *
        rintro e y0 ⟨rfl, rfl⟩
        go_wp2_with fail
        refine (c57 hl).mono ?_
        rintro e y00 ⟨rfl, rfl⟩
        clear h63
        go_wp2_with fail
        refine (c60 h.T h.t (by have := h.l4; omega) (bd_le _ hl)).mono ?_
        rw [selT_mul _ _ (bd_le _ hl)]
        rintro e y1 ⟨rfl, hk, hp⟩
        replace h := h.s hk hp.s3
        clear hk
        go_wp2_with fail
        refine (cNeg (bs_le _ hl) hp).mono ?_
        clear hp
        rintro e y2 ⟨rfl, hk, hp⟩
        replace h := h.s hk hp.s3
        clear hk
        go_wp2_with fail
        refine (cAdd h.P.s3 h.P hp).mono ?_
        clear hp
        rintro e y3 ⟨rfl, hk, hp⟩
        rw [mul_sgn hQ (r := acc V (k + 1)) (bs_le _ hl) (fun g => by have := hac0 g; omega) (fun g => by have := hac1 g; omega)] at hp
        replace h := h.p hk hp
        clear hk hp hac0 hac1
        go_wp2_with fail
        go_roundw
        case rel => exact ⟨k + 1, .inl ⟨by omega, by rw [← hj.out]⟩, h⟩
        case measure => simp [intOf]; omega
    · go_wp2_with fail
      go_ret2
      exact ⟨rfl, h.k, h.P⟩
end Go.Proofs.Ytjdjhccefnffmaa
set_option maxRecDepth 100000
set_option maxHeartbeats 4000000
namespace Go.Proofs.Ytjdjhccefnffmaa
open Go LX Go.RowKit
/-- The point of a number and a last bit. -/
def rdS (X t : Nat) : Option (EC.F × EC.F × EC.F) :=
  if X < PN ∧ rt (poly (nF X)) * rt (poly (nF X)) = poly (nF X) then some (nF X, selF (((rt (poly (nF X))).val % 2) ^^^ (t % 2)) (0 - rt (poly (nF X))) (rt (poly (nF X))), 1) else none
theorem rdS_some {X t : Nat} (h1 : X < PN) (h2 : rt (poly (nF X)) * rt (poly (nF X)) = poly (nF X)) :
    rdS X t = some (nF X, selF (((rt (poly (nF X))).val % 2) ^^^ (t % 2)) (0 - rt (poly (nF X))) (rt (poly (nF X))), 1) := if_pos ⟨h1, h2⟩
theorem rdS_none {X t : Nat} (h : ¬ (X < PN ∧ rt (poly (nF X)) * rt (poly (nF X)) = poly (nF X))) : rdS X t = none := if_neg h
theorem bits_and_u8 (a b : Nat) (ha : a < 256) (hb : b < 256) : bits .and .u8 (a : Int) (b : Int) = ((a &&& b : Nat) : Int) := by
  have hx : a &&& b ≤ b := Nat.and_le_right
  have h1 : (BitVec.ofInt 8 (a : Int)).toNat = a := by
    rw [BitVec.ofInt_natCast, BitVec.toNat_ofNat]; exact Nat.mod_eq_of_lt (by omega)
  have h2 : (BitVec.ofInt 8 (b : Int)).toNat = b := by
    rw [BitVec.ofInt_natCast, BitVec.toNat_ofNat]; exact Nat.mod_eq_of_lt (by omega)
  show IntKind.u8.wrap ((BitVec.ofInt 8 (a : Int) &&& BitVec.ofInt 8 (b : Int)).toNat : Int) = _
  rw [BitVec.toNat_and, h1, h2, wrap_u8]
  omega
theorem bit_u8 (n t : Nat) (ht : t < 256) : bits .xor .u8 (bits .and .u8 ((be n 31 : Nat) : Int) 1) (bits .and .u8 (t : Int) 1) = (((n % 2) ^^^ (t % 2) : Nat) : Int) := by
  have h1 : be n 31 < 256 := by unfold be; omega
  have h2 : be n 31 % 2 = n % 2 := by
    simp only [be, Nat.sub_self, Nat.pow_zero, Nat.div_one]
    omega
  have e1 := bits_and_u8 (be n 31) 1 h1 (by omega)
  have e2 := bits_and_u8 t 1 ht (by omega)
  rw [Nat.and_one_is_mod] at e1 e2
  rw [show ((1 : Nat) : Int) = 1 from rfl] at e1 e2
  rw [e1, e2, h2, bits_xor_u8 _ _ (by omega) (by omega)]
theorem bit_le (n t : Nat) : (n % 2) ^^^ (t % 2) ≤ 1 := by
  have := Nat.xor_lt_two_pow (n := 1) (show n % 2 < 2 ^ 1 by omega) (show t % 2 < 2 ^ 1 by omega)
  omega
theorem c55_two {w : World} {p1 p2 b o c : Nat} {f : Nat → Nat} (hs : S3 w p1 p2) (hb : By w b o 33 f) (hf : f 0 = 2) (hc : 33 ≤ c) :
    Calls Try.prog 55 #[pt p1 p2, .slice (some ⟨b, o, none⟩) 33 c] w (St01 (rdS (hi8 (fun i => f (1 + i)) 32) 2) p1 p2 w) := by
  have h0 : w.cell? ⟨b, o, none⟩ = some (.int .u8 2) := by
    have := (hb 0 (by omega)).1.1
    rw [hf] at this
    exact this
  have hx := hb.sub 1 32 (by omega)
  have hci : (33 : Int) ≤ (c : Int) := by omega
  have hbl := (hb 0 (by omega)).1.lt
  clear hb
  generalize hX : hi8 (fun i => f (1 + i)) 32 = X
  have m := (MM.nil w).new 91
  replace m : MM non w _ [(w.heap.size, 0)] := m
  have hlt := hs.lt
  go_enter Try.func55, Try.ntmps55
  go_wp2_with fail
  refine (c73 (m.get 0 rfl).sp (hx.kp m.k fun _ _ h => h)).mono ?_
  rintro e w1 ⟨h1, h2⟩
  rw [hX] at h1 h2
  clear hx hX
  by_cases hcx : X < PN
  · obtain ⟨rfl, hk, he⟩ := h1 hcx
    clear h1 h2
    replace m := m.set 0 rfl hk he
    replace m : MM non w w1 [(w.heap.size, nF X)] := m
    clear hk he
    have gx := Lib.hid hcx
    clear hcx
    go_wp2_with fail
    have hlt1 := (m.get 0 rfl).lt
    replace m := m.new 91
    replace m : MM non w _ [(w.heap.size, nF X), (w1.heap.size, 0)] := m
    refine (c77 (m.get 1 rfl).sp (m.get 0 rfl) (by omega)).mono ?_
    rintro e w2 ⟨rfl, hk, he⟩
    replace m := m.set 1 rfl hk he
    replace m : MM non w w2 [(w.heap.size, nF X), (w1.heap.size, poly (nF X))] := m
    clear hk he
    go_wp2_with fail
    refine (c78 (m.get 1 rfl).sp (m.get 1 rfl)).mono ?_
    rintro e w3 ⟨h1, h2⟩
    by_cases hsq : rt (poly (nF X)) * rt (poly (nF X)) = poly (nF X)
    · obtain ⟨rfl, hk, he⟩ := h1 hsq
      clear h1 h2
      replace m := m.set 1 rfl hk he
      clear hk he
      have gq := Lib.hid hsq
      clear hsq
      generalize hr : rt (poly (nF X)) = r at *
      replace m : MM non w w3 [(w.heap.size, nF X), (w1.heap.size, r)] := m
      go_wp2_with fail
      replace m := m.new 91
      replace m : MM non w _ [(w.heap.size, nF X), (w1.heap.size, r), (w3.heap.size, 0)] := m
      (refine (m.sub 2 rfl (m.get 2 rfl) (m.get 1 rfl)).mono ?_); clear m; rintro e w4 ⟨rfl, z, hz, m⟩; replace m : MM non w w4 [(w.heap.size, nF X), (w1.heap.size, r), (w3.heap.size, z)] := m
      have hzo := hz.out
      subst hzo
      clear hz
      have h4 : w4.drew.cell? ⟨b, o, none⟩ = some (.int .u8 2) := (m.k.cell b o hbl (fun h => h)).trans h0
      go_wp2_with fail
      go_region_with ((refine (c80 (m.get 1 rfl).drew).mono ?_); rintro e w5 ⟨rfl, hk5, hb5⟩; (have h5 : w5.cell? ⟨b, o, none⟩ = some (.int .u8 2) := (hk5.cell b o (Nat.lt_of_lt_of_le hbl m.k.size) (fun h => h)).trans h4); have hl : w5.cell? ⟨w4.heap.size, 31, none⟩ = some (.int .u8 (be r.val 31 : Nat)) := (hb5 31 (by omega)).1.1; clear hb5)
      all_goals
        have hbit : bits .xor .u8 (bits .and .u8 ((be r.val 31 : Nat) : Int) 1) (bits .and .u8 2 1) = (((r.val % 2) ^^^ (2 % 2) : Nat) : Int) := bit_u8 r.val 2 (by omega)
        clear h5 hl h4 h0
        replace m := m.keep (Kp.of_drew hk5)
        clear hk5
        obtain ⟨cb, hcb⟩ : ∃ cb : Nat, cb = (r.val % 2) ^^^ (2 % 2) := ⟨_, rfl⟩
        have hcb1 : cb ≤ 1 := by rw [hcb]; exact bit_le _ _
        rw [← hcb] at hbit
        have hcb2 := Lib.hid hcb
        clear hcb
        have hcb3 : (0 : Int) ≤ (cb : Int) := by omega
        have hcb4 : (cb : Int) ≤ 1 := by omega
        go_wp2_with fail
        refine (c81 (p := (w1.heap.size, 0)) (q := (w3.heap.size, 0)) (r := (w1.heap.size, 0)) hcb1 (m.get 1 rfl).sp (m.get 2 rfl) (m.get 1 rfl)).mono ?_
        rintro e w6 ⟨rfl, hk, he⟩
        simp only [ptr] at *
        replace m := m.set 1 rfl hk he
        clear hk he hbit
        replace m : MM non w w6 [(w.heap.size, nF X), (w1.heap.size, selF cb (0 - r) r), (w3.heap.size, 0 - r)] := m
        have hs0 := hs.kp m.k fun _ _ h => h
        replace m := m.wide (T := at_ p1 p2 12) fun _ _ _ h => h.elim
        go_wp2_with fail
        (refine (m.out 0 rfl hs0.x hlt (fun i hi => ⟨rfl, by omega, by omega⟩)).mono ?_); clear m; rintro e w7 ⟨rfl, m, hk0, he0⟩
        have hs1 := hs0.y.kp hk0 fun i _ h => by have := h.2.2; omega
        have hs2 := hs0.z.kp hk0 fun i _ h => by have := h.2.2; omega
        clear hs0
        go_wp2_with fail
        (refine (m.out 1 rfl hs1 hlt (fun i hi => ⟨rfl, by omega, by omega⟩)).mono ?_); clear m; rintro e w8 ⟨rfl, m, hk1, he1⟩
        replace hs2 := hs2.kp hk1 fun i _ h => by have := h.2.2; omega
        go_wp2_with fail
        refine (c65 (p := (p1, p2 + 8)) hs2).mono ?_
        rintro e w9 ⟨rfl, hk2, he2⟩
        simp only [ptr] at *
        have k6 : Kp (at_ p1 p2 12) w w9 := m.k.trans hk2 (fun _ _ _ h => h) (fun _ _ _ h => ⟨h.1, by have := h.2; omega, by have := h.2; omega⟩)
        have hp : P3 w9 p1 p2 (nF X) (selF cb (0 - r) r) 1 := ⟨(he0.kp hk1 fun i _ h => by have := h.2.1; omega).kp hk2 fun i _ h => by have := h.2.1; omega, he1.kp hk2 fun i _ h => by have := h.2.1; omega, he2⟩
        clear m hk0 hk1 hk2 he0 he1 he2 hs1 hs2
        go_wp2_with fail
        go_ret2
        rw [rdS_some gx.out (by rw [hr]; exact gq.out), hr, ← hcb2.out]
        exact ⟨rfl, k6, hp⟩
    · obtain ⟨rfl, hk⟩ := h2 hsq
      replace m := m.keep hk
      clear h1 h2 hk
      have gq := Lib.hid hsq
      clear hsq
      have k3 := m.k
      clear m
      go_wp2_with fail
      refine (c79 _ _).mono ?_
      rintro e w5 ⟨rfl, hk5⟩
      have k5 := k3.non hk5
      clear k3 hk5
      go_wp2_with fail
      go_ret2
      rw [rdS_none fun h => gq.out h.2]
      exact ⟨_, rfl, k5⟩
  · obtain ⟨b2, h3, hk⟩ := h2 (by omega)
    subst h3
    have k3 := m.k.non hk
    clear h1 h2 m hk
    have gx := Lib.hid hcx
    clear hcx
    go_wp2_with fail
    go_ret2
    rw [rdS_none fun h => gx.out h.1]
    exact ⟨b2, rfl, k3⟩
theorem c55_three {w : World} {p1 p2 b o c : Nat} {f : Nat → Nat} (hs : S3 w p1 p2) (hb : By w b o 33 f) (hf : f 0 = 3) (hc : 33 ≤ c) :
    Calls Try.prog 55 #[pt p1 p2, .slice (some ⟨b, o, none⟩) 33 c] w (St01 (rdS (hi8 (fun i => f (1 + i)) 32) 3) p1 p2 w) := by
  have h0 : w.cell? ⟨b, o, none⟩ = some (.int .u8 3) := by
    have := (hb 0 (by omega)).1.1
    rw [hf] at this
    exact this
  have hx := hb.sub 1 32 (by omega)
  have hci : (33 : Int) ≤ (c : Int) := by omega
  have hbl := (hb 0 (by omega)).1.lt
  clear hb
  generalize hX : hi8 (fun i => f (1 + i)) 32 = X
  have m := (MM.nil w).new 91
  replace m : MM non w _ [(w.heap.size, 0)] := m
  have hlt := hs.lt
  go_enter Try.func55, Try.ntmps55
  go_wp2_with fail
  refine (c73 (m.get 0 rfl).sp (hx.kp m.k fun _ _ h => h)).mono ?_
  rintro e w1 ⟨h1, h2⟩
  rw [hX] at h1 h2
  clear hx hX
  by_cases hcx : X < PN
  · obtain ⟨rfl, hk, he⟩ := h1 hcx
    clear h1 h2
    replace m := m.set 0 rfl hk he
    replace m : MM non w w1 [(w.heap.size, nF X)] := m
    clear hk he
    have gx := Lib.hid hcx
    clear hcx
    go_wp2_with fail
    have hlt1 := (m.get 0 rfl).lt
    replace m := m.new 91
    replace m : MM non w _ [(w.heap.size, nF X), (w1.heap.size, 0)] := m
    refine (c77 (m.get 1 rfl).sp (m.get 0 rfl) (by omega)).mono ?_
    rintro e w2 ⟨rfl, hk, he⟩
    replace m := m.set 1 rfl hk he
    replace m : MM non w w2 [(w.heap.size, nF X), (w1.heap.size, poly (nF X))] := m
    clear hk he
    go_wp2_with fail
    refine (c78 (m.get 1 rfl).sp (m.get 1 rfl)).mono ?_
    rintro e w3 ⟨h1, h2⟩
    by_cases hsq : rt (poly (nF X)) * rt (poly (nF X)) = poly (nF X)
    · obtain ⟨rfl, hk, he⟩ := h1 hsq
      clear h1 h2
      replace m := m.set 1 rfl hk he
      clear hk he
      have gq := Lib.hid hsq
      clear hsq
      generalize hr : rt (poly (nF X)) = r at *
      replace m : MM non w w3 [(w.heap.size, nF X), (w1.heap.size, r)] := m
      go_wp2_with fail
      replace m := m.new 91
      replace m : MM non w _ [(w.heap.size, nF X), (w1.heap.size, r), (w3.heap.size, 0)] := m
      (refine (m.sub 2 rfl (m.get 2 rfl) (m.get 1 rfl)).mono ?_); clear m; rintro e w4 ⟨rfl, z, hz, m⟩; replace m : MM non w w4 [(w.heap.size, nF X), (w1.heap.size, r), (w3.heap.size, z)] := m
      have hzo := hz.out
      subst hzo
      clear hz
      have h4 : w4.drew.cell? ⟨b, o, none⟩ = some (.int .u8 3) := (m.k.cell b o hbl (fun h => h)).trans h0
      go_wp2_with fail
      go_region_with ((refine (c80 (m.get 1 rfl).drew).mono ?_); rintro e w5 ⟨rfl, hk5, hb5⟩; (have h5 : w5.cell? ⟨b, o, none⟩ = some (.int .u8 3) := (hk5.cell b o (Nat.lt_of_lt_of_le hbl m.k.size) (fun h => h)).trans h4); have hl : w5.cell? ⟨w4.heap.size, 31, none⟩ = some (.int .u8 (be r.val 31 : Nat)) := (hb5 31 (by omega)).1.1; clear hb5)
      all_goals
        have hbit : bits .xor .u8 (bits .and .u8 ((be r.val 31 : Nat) : Int) 1) (bits .and .u8 3 1) = (((r.val % 2) ^^^ (3 % 2) : Nat) : Int) := bit_u8 r.val 3 (by omega)
        clear h5 hl h4 h0
        replace m := m.keep (Kp.of_drew hk5)
        clear hk5
        obtain ⟨cb, hcb⟩ : ∃ cb : Nat, cb = (r.val % 2) ^^^ (3 % 2) := ⟨_, rfl⟩
        have hcb1 : cb ≤ 1 := by rw [hcb]; exact bit_le _ _
        rw [← hcb] at hbit
        have hcb2 := Lib.hid hcb
        clear hcb
        have hcb3 : (0 : Int) ≤ (cb : Int) := by omega
        have hcb4 : (cb : Int) ≤ 1 := by omega
        go_wp2_with fail
        refine (c81 (p := (w1.heap.size, 0)) (q := (w3.heap.size, 0)) (r := (w1.heap.size, 0)) hcb1 (m.get 1 rfl).sp (m.get 2 rfl) (m.get 1 rfl)).mono ?_
        rintro e w6 ⟨rfl, hk, he⟩
        simp only [ptr] at *
        replace m := m.set 1 rfl hk he
        clear hk he hbit
        replace m : MM non w w6 [(w.heap.size, nF X), (w1.heap.size, selF cb (0 - r) r), (w3.heap.size, 0 - r)] := m
        have hs0 := hs.kp m.k fun _ _ h => h
        replace m := m.wide (T := at_ p1 p2 12) fun _ _ _ h => h.elim
        go_wp2_with fail
        (refine (m.out 0 rfl hs0.x hlt (fun i hi => ⟨rfl, by omega, by omega⟩)).mono ?_); clear m; rintro e w7 ⟨rfl, m, hk0, he0⟩
        have hs1 := hs0.y.kp hk0 fun i _ h => by have := h.2.2; omega
        have hs2 := hs0.z.kp hk0 fun i _ h => by have := h.2.2; omega
        clear hs0
        go_wp2_with fail
        (refine (m.out 1 rfl hs1 hlt (fun i hi => ⟨rfl, by omega, by omega⟩)).mono ?_); clear m; rintro e w8 ⟨rfl, m, hk1, he1⟩
        replace hs2 := hs2.kp hk1 fun i _ h => by have := h.2.2; omega
        go_wp2_with fail
        refine (c65 (p := (p1, p2 + 8)) hs2).mono ?_
        rintro e w9 ⟨rfl, hk2, he2⟩
        simp only [ptr] at *
        have k6 : Kp (at_ p1 p2 12) w w9 := m.k.trans hk2 (fun _ _ _ h => h) (fun _ _ _ h => ⟨h.1, by have := h.2; omega, by have := h.2; omega⟩)
        have hp : P3 w9 p1 p2 (nF X) (selF cb (0 - r) r) 1 := ⟨(he0.kp hk1 fun i _ h => by have := h.2.1; omega).kp hk2 fun i _ h => by have := h.2.1; omega, he1.kp hk2 fun i _ h => by have := h.2.1; omega, he2⟩
        clear m hk0 hk1 hk2 he0 he1 he2 hs1 hs2
        go_wp2_with fail
        go_ret2
        rw [rdS_some gx.out (by rw [hr]; exact gq.out), hr, ← hcb2.out]
        exact ⟨rfl, k6, hp⟩
    · obtain ⟨rfl, hk⟩ := h2 hsq
      replace m := m.keep hk
      clear h1 h2 hk
      have gq := Lib.hid hsq
      clear hsq
      have k3 := m.k
      clear m
      go_wp2_with fail
      refine (c79 _ _).mono ?_
      rintro e w5 ⟨rfl, hk5⟩
      have k5 := k3.non hk5
      clear k3 hk5
      go_wp2_with fail
      go_ret2
      rw [rdS_none fun h => gq.out h.2]
      exact ⟨_, rfl, k5⟩
  · obtain ⟨b2, h3, hk⟩ := h2 (by omega)
    subst h3
    have k3 := m.k.non hk
    clear h1 h2 m hk
    have gx := Lib.hid hcx
    clear hcx
    go_wp2_with fail
    go_ret2
    rw [rdS_none fun h => gx.out h.1]
    exact ⟨b2, rfl, k3⟩
end Go.Proofs.Ytjdjhccefnffmaa
set_option maxRecDepth 100000
set_option maxHeartbeats 4000000
namespace Go.Proofs.Ytjdjhccefnffmaa
open Go LX Go.RowKit
theorem c55_other {w : World} {p1 p2 n c : Nat} {ad : Option Addr} (h1 : n ≠ 1) (h65 : n ≠ 65) (h33 : n ≠ 33) :
    Calls Try.prog 55 #[pt p1 p2, .slice ad n c] w (St01 none p1 p2 w) := by
  have e1 : ((n : Int) == 1) = false := by simp; omega
  have e2 : ((n : Int) == 65) = false := by simp; omega
  have e3 : ((n : Int) == 33) = false := by simp; omega
  go_enter Try.func55, Try.ntmps55
  go_wp2_with fail
  refine (c79 _ _).mono ?_
  rintro e w5 ⟨rfl, hk5⟩
  go_wp2_with fail
  go_ret2
  exact ⟨_, rfl, hk5⟩
theorem c55_no1 {w : World} {p1 p2 b o c : Nat} {f : Nat → Nat} (hb : By w b o 1 f) (hf : f 0 ≠ 0) :
    Calls Try.prog 55 #[pt p1 p2, .slice (some ⟨b, o, none⟩) 1 c] w (St01 none p1 p2 w) := by
  have h0 : w.cell? ⟨b, o, none⟩ = some (.int .u8 (f 0 : Nat)) := (hb 0 (by omega)).1.1
  have e1 : (((f 0 : Nat) : Int) == 0) = false := by simp; omega
  go_enter Try.func55, Try.ntmps55
  go_wp2_with fail
  refine (c79 _ _).mono ?_
  rintro e w5 ⟨rfl, hk5⟩
  go_wp2_with fail
  go_ret2
  exact ⟨_, rfl, hk5⟩
theorem c55_no65 {w : World} {p1 p2 b o c : Nat} {f : Nat → Nat} (hb : By w b o 65 f) (hf : f 0 ≠ 4) :
    Calls Try.prog 55 #[pt p1 p2, .slice (some ⟨b, o, none⟩) 65 c] w (St01 none p1 p2 w) := by
  have h0 : w.cell? ⟨b, o, none⟩ = some (.int .u8 (f 0 : Nat)) := (hb 0 (by omega)).1.1
  have e1 : (((f 0 : Nat) : Int) == 4) = false := by simp; omega
  clear hb
  go_enter Try.func55, Try.ntmps55
  go_wp2_with fail
  refine (c79 _ _).mono ?_
  rintro e w5 ⟨rfl, hk5⟩
  go_wp2_with fail
  go_ret2
  exact ⟨_, rfl, hk5⟩
theorem c55_no33 {w : World} {p1 p2 b o c : Nat} {f : Nat → Nat} (hb : By w b o 33 f) (hf : f 0 ≠ 2) (hg : f 0 ≠ 3) :
    Calls Try.prog 55 #[pt p1 p2, .slice (some ⟨b, o, none⟩) 33 c] w (St01 none p1 p2 w) := by
  have h0 : w.cell? ⟨b, o, none⟩ = some (.int .u8 (f 0 : Nat)) := (hb 0 (by omega)).1.1
  have e1 : (((f 0 : Nat) : Int) == 2) = false := by simp; omega
  have e2 : (((f 0 : Nat) : Int) == 3) = false := by simp; omega
  clear hb
  go_enter Try.func55, Try.ntmps55
  go_wp2_with fail
  refine (c79 _ _).mono ?_
  rintro e w5 ⟨rfl, hk5⟩
  go_wp2_with fail
  go_ret2
  exact ⟨_, rfl, hk5⟩
end Go.Proofs.Ytjdjhccefnffmaa
set_option maxRecDepth 100000
set_option maxHeartbeats 400000
namespace Go.Proofs.Ytjdjhccefnffmaa
open Go LX Go.RowKit
theorem kp_grown {w w' : World} (h : w.grownBy w' none) : Kp non w w' :=
  ⟨h.os, h.tape, h.output, h.size, fun k hk _ => h.block k hk (by simp), fun k o hk _ => World.cell?_of_block (h.block k hk (by simp)), fun k o hk => World.frozen?_of_block (h.block k hk (by simp)),
    fun k hk => by simp only [World.shape?, h.block k hk (by simp)]⟩
/-- One after the other. -/
def cat (n : Nat) (g f : Nat → Nat) (i : Nat) : Nat := if i < n then g i else f (i - n)
theorem byl_cat (n m : Nat) (g f : Nat → Nat) : byl g n ++ byl f m = byl (cat n g f) (n + m) := by
  apply List.ext_getElem?
  intro i
  by_cases h : i < n
  · rw [List.getElem?_append_left (by rw [byl_len]; exact h), byl_get g n i h, byl_get _ _ i (by omega)]
    simp only [cat, if_pos h]
  · rw [List.getElem?_append_right (by rw [byl_len]; omega), byl_len]
    by_cases h2 : i - n < m
    · rw [byl_get f m _ h2, byl_get _ _ i (by omega)]
      simp only [cat, if_neg h]
    · rw [List.getElem?_eq_none (by rw [byl_len]; omega), List.getElem?_eq_none (by rw [byl_len]; omega)]
theorem By.own {w : World} {base n : Nat} {f : Nat → Nat} {v : Value} (h : w.ownsRow base 5 1 v n (byl f n)) (h0 : 0 < n) (hf : ∀ i, i < n → f i < 256) : ∃ blk cap, v = .slice (some ⟨blk, 0, none⟩) n cap ∧ n ≤ cap ∧ base ≤ blk ∧ By w blk 0 n f := by
  rcases h.2 with ⟨-, h1⟩ | ⟨g, cap, cur, rfl, hb, hg, hc, -, -, ht⟩
  · omega
  · refine ⟨g, cap, rfl, hc, hb, fun i hi => ⟨⟨?_, ?_⟩, hf i hi⟩⟩
    · have h2 := byl_get f n i hi
      rw [← ht, List.getElem?_take, if_pos (by omega)] at h2
      rw [Nat.zero_add, cell_of_row w g i cur 5 (0, 0) hg]
      simpa using h2
    · simp [World.frozen?, hg]
theorem wpList_append_new {w : World} {ops : Array Oper} {rest : List Oper} {o : Oper} {a : Act} {Q : Exit → Act → World → Prop}
    (hg : o.guard = none) (s x : Operand) (hop : o.op = Op.call { callee := Callee.builtin Builtin.append, args := #[s, x], argTypes := #[22, 22] })
    (b off n cap : Nat) (hs : a.eval s = .slice (some ⟨b, off, none⟩) n cap) (b2 o2 m c : Nat) (hx : a.eval x = .slice (some ⟨b2, o2, none⟩) m c) (g f : Nat → Nat)
    (hold : By w b off n g) (hsrc : By w b2 o2 m f) (hfull : cap < n + m) (hle : n + m ≤ 2147483747)
    (hK : ∀ blk cap' w', n + m ≤ cap' → w.heap.size ≤ blk → By w' blk 0 (n + m) (cat n g f) → Kp non w w' → wpList Try.prog ops Q rest (a.put o.dst (.slice (some ⟨blk, 0, none⟩) (n + m) cap')) w') :
    wpList Try.prog ops Q (o :: rest) a w := by
  have h5 : (Try.prog.info? 5).map (fun i => (i.zero, i.size, i.bytes)) = some (some (.int .u8 0), 1, 1) := by kernel_rfl
  obtain ⟨i, hi, h1⟩ := Option.map_eq_some_iff.1 h5
  simp only [Prod.mk.injEq] at h1
  obtain ⟨h2, h3, h4⟩ := h1
  refine wpList_append_grows w hg s x 22 hop 5 i _ 1 1 (by kernel_rfl) hi h2 h3 h4 rfl (by omega) (some ⟨b, off, none⟩) n cap (byl g n) hs (fun h => by cases h) (by rw [byl_len]; omega) (fun q hq j u hu => by cases hq; exact hold.src j u hu)
    ⟨b2, o2, none⟩ m c (byl f m) hx (by rw [byl_len]; omega) hsrc.src (fun u hu => byl_mem hu) hfull (Nat.le_trans hle (by decide)) (by omega) ?_
  intro v' w' hown hgr
  rw [byl_cat] at hown
  obtain ⟨blk, cap', rfl, e1, e2, e3⟩ := By.own hown (by omega) (fun i hi => by
    unfold cat
    split
    · exact (hold i (by omega)).2
    · exact (hsrc (i - n) (by omega)).2)
  exact hK blk cap' w' e1 e2 e3 (kp_grown hgr)
theorem eqnil (ad : Addr) (n c : Nat) (w : World) : (binOp .eql 22 (.slice (some ad) n c) (.slice none 0 0)).run Try.prog w = .ok (.bool false) w := by kernel_rfl
theorem eqnil2 (w : World) : (binOp .eql 22 (.slice none 0 0) (.slice none 0 0)).run Try.prog w = .ok (.bool true) w := by kernel_rfl
theorem c40 {w : World} {b o n c : Nat} {f : Nat → Nat} (hb : By w b o n f) (h0 : 0 < n) (hn : n ≤ 2147483647) :
    Calls Try.prog 40 #[.slice (some ⟨b, o, none⟩) n c] w (Sl n f w) := by
  have he := eqnil ⟨b, o, none⟩ n c w
  have k0 : Kp non w (w.alloc (.cells #[] 5)) := (Kp.refl _ w).alloc _
  have hb' := hb.kp k0 fun _ _ h => h
  have lt : 0 < 0 + n := by omega
  have hh := Lib.hid hn
  clear hb hn
  go_enter Try.func40, Try.ntmps40
  go_wp2_with (at_builtin; refine wpList_append_new rfl _ _ rfl w.heap.size 0 0 0 rfl b o n c rfl (fun _ => 0) f (fun i hi => absurd hi (by omega)) hb' lt (by have := hh.out; omega) ?_; rintro blk cap' w2 h1 h2 h3 h4)
  go_ret
  simp only [Nat.zero_add] at h1 h3 ⊢
  refine ⟨blk, cap', rfl, h1, Nat.le_trans (Nat.le_trans (Nat.le_succ _) (Nat.le_of_eq (size1 w (.cells #[] 5)).symm)) h2, h3.congr fun i hi => ?_, k0.non h4⟩
  simp only [cat, Nat.sub_zero]
  rw [if_neg (by omega)]
theorem wpList_append_none {w : World} {ops : Array Oper} {rest : List Oper} {o : Oper} {a : Act} {Q : Exit → Act → World → Prop}
    (hg : o.guard = none) (s x : Operand) (hop : o.op = Op.call { callee := Callee.builtin Builtin.append, args := #[s, x], argTypes := #[22, 22] })
    (b off n cap : Nat) (hs : a.eval s = .slice (some ⟨b, off, none⟩) n cap) (ad : Addr) (c : Nat) (hx : a.eval x = .slice (some ad) 0 c) (hroom : n ≤ cap)
    (h : wpList Try.prog ops Q rest (a.put o.dst (.slice (some ⟨b, off, none⟩) (n + 0) cap)) w) :
    wpList Try.prog ops Q (o :: rest) a w := by
  refine wpList_plain hg fun K hK' => ?_
  have h5 : (Try.prog.info? 5).map (·.size) = some 1 := by kernel_rfl
  obtain ⟨i, hi, h1⟩ := Option.map_eq_some_iff.1 h5
  have hrun := run_append_room_cells (P := Try.prog) w 22 o.type 5 i (by kernel_rfl) hi b off n cap ad 0 c [] (by rw [h1]; rfl) (fun j u hu => by simp at hu) (fun u hu => by simp at hu) hroom
    (fun j hj => by simp at hj) (fun j hj => by simp at hj)
  unfold Oper.wp
  simp [execOp, hop, resolve, invoke, builtin, hs, hx, hrun, Result.andThen, World.setCells]
  exact hK' _ _ h
/-- Nothing. -/
def Sl0 (w : World) (e : Ending) (w' : World) : Prop := ∃ v, e = .returned v ∧ ((∃ ad c, v = .slice (some ad) 0 c) ∨ v = .slice none 0 0) ∧ Kp non w w'
theorem c40_0 {w : World} {ad : Addr} {c : Nat} :
    Calls Try.prog 40 #[.slice (some ad) 0 c] w (Sl0 w) := by
  have he := eqnil ad 0 c w
  have k0 : Kp non w (w.alloc (.cells #[] 5)) := (Kp.refl _ w).alloc _
  go_enter Try.func40, Try.ntmps40
  go_wp2_with (at_builtin; refine wpList_append_none rfl _ _ rfl w.heap.size 0 0 0 rfl ad c rfl (by omega) ?_)
  go_ret
  exact ⟨_, rfl, .inl ⟨_, _, rfl⟩, k0⟩
theorem c40_nil {w : World} : Calls Try.prog 40 #[.slice none 0 0] w (Sl0 w) := by
  have he := eqnil2 w
  go_enter Try.func40, Try.ntmps40
  go_wp2_with fail
  go_ret
  exact ⟨_, rfl, .inr rfl, Kp.refl _ _⟩
end Go.Proofs.Ytjdjhccefnffmaa
set_option maxRecDepth 100000
set_option maxHeartbeats 400000
namespace Go.Proofs.Ytjdjhccefnffmaa
open Go LX Go.RowKit
/-- A slice of so many bytes. -/
def In (w : World) (v : Value) (n : Nat) (f : Nat → Nat) : Prop :=
  (n = 0 ∧ ((∃ ad c, v = .slice (some ad) 0 c) ∨ v = .slice none 0 0)) ∨ (0 < n ∧ n ≤ 2147483647 ∧ ∃ b o c, v = .slice (some ⟨b, o, none⟩) n c ∧ n ≤ c ∧ By w b o n f)
theorem In.kp {w w' : World} {v : Value} {n : Nat} {f : Nat → Nat} (h : In w v n f) (hk : Kp non w w') : In w' v n f := by
  rcases h with h | ⟨h0, h1, b, o, c, h2, h3, h4⟩
  · exact .inl h
  · exact .inr ⟨h0, h1, b, o, c, h2, h3, h4.kp hk fun _ _ h => h⟩
/-- The point of bytes, if there is one. -/
def rd (n : Nat) (f : Nat → Nat) : Option EC.Pt :=
  if n = 1 ∧ f 0 = 0 then some .far
  else if n = 65 ∧ f 0 = 4 then (rdL (hi8 (fun i => f (1 + i)) 32) (hi8 (fun i => f (33 + i)) 32)).map fun t => .aff t.1 t.2.1
  else if n = 33 ∧ (f 0 = 2 ∨ f 0 = 3) then (rdS (hi8 (fun i => f (1 + i)) 32) (f 0)).map fun t => .aff t.1 t.2.1
  else none
def Set55 (P : Option EC.Pt) (p1 p2 : Nat) (w : World) (e : Ending) (w' : World) : Prop :=
  match P with
  | some P => e = .returned (.tuple #[pt p1 p2, .nilIface]) ∧ Kp (at_ p1 p2 12) w w' ∧ PtAt w' p1 p2 P
  | none => ∃ b, e = .returned (.tuple #[.pointer none, .iface 138 (.pointer (some ⟨b, 0, none⟩))]) ∧ Kp non w w'
theorem on_poly {x y : EC.F} (h : y * y = poly x) : EC.On x y := by
  show y * y = x * x * x - 3 * x + EC.B
  rw [h]
  unfold poly
  generalize EC.B = b
  grind -lia -linarith
theorem selF_sq {c : Nat} {r a : EC.F} (h : r * r = a) : selF c (0 - r) r * selF c (0 - r) r = a := by
  unfold selF
  split
  · exact h
  · rw [← h]; grind -lia -linarith
theorem c55 {w : World} {p1 p2 n : Nat} {v : Value} {f : Nat → Nat} (hs : S3 w p1 p2) (hv : In w v n f) :
    Calls Try.prog 55 #[pt p1 p2, v] w (Set55 (rd n f) p1 p2 w) := by
  have other : n ≠ 1 → n ≠ 65 → n ≠ 33 → rd n f = none := fun h1 h2 h3 => by
    unfold rd
    rw [if_neg (fun h => h1 h.1), if_neg (fun h => h2 h.1), if_neg (fun h => h3 h.1)]
  rcases hv with ⟨rfl, hv⟩ | ⟨h0, hn, b, o, c, rfl, hc, hb⟩
  · rw [other (by omega) (by omega) (by omega)]
    rcases hv with ⟨ad, c, rfl⟩ | rfl
    · exact (c55_other (n := 0) (by omega) (by omega) (by omega)).mono fun _ _ h => h
    · exact (c55_other (n := 0) (by omega) (by omega) (by omega)).mono fun _ _ h => h
  · by_cases n1 : n = 1
    · subst n1
      by_cases hf : f 0 = 0
      · rw [show rd 1 f = some .far from if_pos ⟨rfl, hf⟩]
        refine (c55_far hs hb hf).mono ?_
        rintro e w' ⟨rfl, hk, h3⟩
        exact ⟨rfl, hk, trivial, _, _, _, h3, rfl, rfl, EC.one_ne⟩
      · have : rd 1 f = none := by
          unfold rd
          rw [if_neg (fun h => hf h.2), if_neg (by omega), if_neg (by omega)]
        rw [this]
        exact (c55_no1 hb hf).mono fun _ _ h => h
    · by_cases n65 : n = 65
      · subst n65
        by_cases hf : f 0 = 4
        · have : rd 65 f = (rdL (hi8 (fun i => f (1 + i)) 32) (hi8 (fun i => f (33 + i)) 32)).map fun t => .aff t.1 t.2.1 := by
            unfold rd
            rw [if_neg (by omega), if_pos ⟨rfl, hf⟩]
          rw [this]
          refine (c55_long hs hb hf hc).mono ?_
          generalize hi8 (fun i => f (1 + i)) 32 = X
          generalize hi8 (fun i => f (33 + i)) 32 = Y
          intro e w' h
          by_cases hr : X < PN ∧ Y < PN ∧ nF Y * nF Y = poly (nF X)
          · rw [rdL_some hr.1 hr.2.1 hr.2.2] at h ⊢
            obtain ⟨rfl, hk, h3⟩ := h
            exact ⟨rfl, hk, on_poly hr.2.2, _, _, _, h3, EC.Pt.rep_one _ _⟩
          · rw [rdL_none hr] at h ⊢
            exact h
        · have : rd 65 f = none := by
            unfold rd
            rw [if_neg (by omega), if_neg (fun h => hf h.2), if_neg (by omega)]
          rw [this]
          exact (c55_no65 hb hf).mono fun _ _ h => h
      · by_cases n33 : n = 33
        · subst n33
          by_cases hf : f 0 = 2 ∨ f 0 = 3
          · have : rd 33 f = (rdS (hi8 (fun i => f (1 + i)) 32) (f 0)).map fun t => .aff t.1 t.2.1 := by
              unfold rd
              rw [if_neg (by omega), if_neg (by omega), if_pos ⟨rfl, hf⟩]
            rw [this]
            have hh : Calls Try.prog 55 #[pt p1 p2, .slice (some ⟨b, o, none⟩) 33 c] w (St01 (rdS (hi8 (fun i => f (1 + i)) 32) (f 0)) p1 p2 w) := by
              rcases hf with hf | hf
              · rw [hf]; exact c55_two hs hb hf hc
              · rw [hf]; exact c55_three hs hb hf hc
            refine hh.mono ?_
            generalize hi8 (fun i => f (1 + i)) 32 = X
            intro e w' h
            by_cases hr : X < PN ∧ rt (poly (nF X)) * rt (poly (nF X)) = poly (nF X)
            · rw [rdS_some hr.1 hr.2] at h ⊢
              obtain ⟨rfl, hk, h3⟩ := h
              exact ⟨rfl, hk, on_poly (selF_sq hr.2), _, _, _, h3, EC.Pt.rep_one _ _⟩
            · rw [rdS_none hr] at h ⊢
              exact h
          · have : rd 33 f = none := by
              unfold rd
              rw [if_neg (by omega), if_neg (by omega), if_neg (fun h => hf h.2)]
            rw [this]
            exact (c55_no33 hb (fun h => hf (.inl h)) (fun h => hf (.inr h))).mono fun _ _ h => h
        · rw [other n1 n65 n33]
          exact (c55_other n1 n65 n33).mono fun _ _ h => h
/-- A clone. -/
def Cl01 (n : Nat) (f : Nat → Nat) (w : World) (e : Ending) (w' : World) : Prop := ∃ v, e = .returned v ∧ In w' v n f ∧ Kp non w w'
theorem c40i {w : World} {n : Nat} {v : Value} {f : Nat → Nat} (hv : In w v n f) : Calls Try.prog 40 #[v] w (Cl01 n f w) := by
  rcases hv with ⟨rfl, hv⟩ | ⟨h0, hn, b, o, c, rfl, hc, hb⟩
  · rcases hv with ⟨ad, c, rfl⟩ | rfl
    · refine c40_0.mono ?_
      rintro e w' ⟨v', rfl, h, hk⟩
      exact ⟨_, rfl, .inl ⟨rfl, h⟩, hk⟩
    · refine c40_nil.mono ?_
      rintro e w' ⟨v', rfl, h, hk⟩
      exact ⟨_, rfl, .inl ⟨rfl, h⟩, hk⟩
  · refine (c40 hb h0 hn).mono ?_
    rintro e w' ⟨b', cap, rfl, h1, h2, h3, h4⟩
    exact ⟨_, rfl, .inr ⟨h0, hn, b', 0, cap, rfl, h1, h3⟩, h4⟩
/-- What is read as a point: in a new block, or none. -/
def Po01 (P : Option EC.Pt) (w : World) (e : Ending) (w' : World) : Prop :=
  match P with
  | some P => ∃ b, e = .returned (.tuple #[pt b 0, .bool true]) ∧ w.heap.size ≤ b ∧ Kp non w w' ∧ PtAt w' b 0 P
  | none => e = .returned (.tuple #[.pointer none, .bool false]) ∧ Kp non w w'
theorem c38 {w : World} {n : Nat} {v : Value} {f : Nat → Nat} (hv : In w v n f) : Calls Try.prog 38 #[v] w (Po01 (rd n f) w) := by
  obtain ⟨R, hR⟩ : ∃ R, R = rd n f := ⟨_, rfl⟩
  rw [← hR]
  go_enter Try.func38, Try.ntmps38
  go_wp2_with fail
  refine (c44 w).mono ?_
  rintro e w1 ⟨rfl, hk, hp⟩
  replace hv := hv.kp hk
  have hlt := hp.sp.lt
  go_wp2_with fail
  refine (c40i hv).mono ?_
  clear hv
  rintro e w2 ⟨v2, rfl, hv, hk2⟩
  have hs := hp.sp.kp hk2 fun _ _ h => h
  replace hk := hk.non hk2
  clear hp hk2
  go_wp2_with fail
  refine (c55 hs hv).mono ?_
  clear hs hv
  rintro e w3 h
  rw [← hR] at h
  clear hR
  cases R with
  | none =>
    obtain ⟨b2, rfl, hk3⟩ := h
    have k3 := hk.non hk3
    clear hk hk3
    go_wp2_with fail
    go_still (by kernel_rfl)
    go_wp2_with fail
    go_ret2
    exact ⟨rfl, k3.drew⟩
  | some P =>
    obtain ⟨rfl, hk3, hp⟩ := h
    have k3 : Kp non w w3 := hk.trans hk3 (fun _ _ _ h => h) (fun _ _ _ h => by have := h.1; omega)
    clear hk hk3
    go_wp2_with fail
    go_still (by kernel_rfl)
    go_wp2_with fail
    go_ret2
    exact ⟨_, rfl, Nat.le_refl _, k3.drew, hp.drew⟩
end Go.Proofs.Ytjdjhccefnffmaa
