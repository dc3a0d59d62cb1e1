import Derived.Test.YtjdjhccefnffmaaB02
import Derived.Test.YtjdjhccefnffmaaB03
import Derived.Test.YtjdjhccefnffmaaB04
set_option linter.unusedVariables false
set_option linter.unusedSimpArgs false
namespace Go.Proofs.Ytjdjhccefnffmaa
open LX

/-! Lines of a run, as equations over the naturals. -/
theorem mulE {x y lo hi : Nat} (hl : lo = x * y % two64) (hh : hi = x * y / two64) : 18446744073709551616 * hi + lo = x * y := by
  subst hl hh; simp only [two64]; omega
theorem mulK {x y lo hi : Nat} (hl : lo = x * y % two64) (hh : hi = x * y / two64) : 18446744073709551616 * hi + lo = y * x := by
  rw [mulE hl hh, Nat.mul_comm]
theorem mulB {x y hi a b : Nat} (hh : hi = x * y / two64) (ha : x ≤ a) (hb : y ≤ b) (c : Nat) (hc : a * b / two64 ≤ c) : hi ≤ c :=
  hh ▸ Nat.le_trans (Nat.div_le_div_right (Nat.mul_le_mul ha hb)) hc
theorem loB {x y lo : Nat} (hl : lo = x * y % two64) : lo ≤ 18446744073709551615 := by subst hl; simp only [two64]; omega
theorem addE {x y c lo hi : Nat} (hl : lo = (x + y + c) % two64) (hh : hi = (x + y + c) / two64) : lo + 18446744073709551616 * hi = x + y + c := by
  subst hl hh; simp only [two64]; omega
theorem addB {x y c lo : Nat} (hl : lo = (x + y + c) % two64) : lo ≤ 18446744073709551615 := by subst hl; simp only [two64]; omega
theorem addC {x y c hi : Nat} (hh : hi = (x + y + c) / two64) {a b d : Nat} (h1 : x ≤ a) (h2 : y ≤ b) (h3 : c ≤ d) (e : Nat) (he : (a + b + d) / two64 ≤ e) : hi ≤ e :=
  hh ▸ Nat.le_trans (Nat.div_le_div_right (Nat.add_le_add (Nat.add_le_add h1 h2) h3)) he
theorem plnE {x y z : Nat} (h : z = (x + y) % 2 ^ Go.IntKind.u64.bits) {a b : Nat} (h1 : x ≤ a) (h2 : y ≤ b) (he : a + b < two64) : z = x + y := by
  have : (2 : Nat) ^ Go.IntKind.u64.bits = two64 := rfl
  rw [this] at h
  rw [h, Nat.mod_eq_of_lt (by omega)]
theorem plnB {x y z : Nat} (h : z = x + y) {a b : Nat} (h1 : x ≤ a) (h2 : y ≤ b) (c : Nat) (hc : a + b ≤ c) : z ≤ c := by omega
theorem lowZ {x hi lo s c : Nat} (h : 18446744073709551616 * hi + lo = 18446744073709551615 * x) (h2 : s + 18446744073709551616 * c = x + lo + 0) (hs : s ≤ 18446744073709551615) : s = 0 := by omega
theorem subE {x y c lo hi : Nat} (hl : lo = (x + two64 - y - c) % two64) (hh : hi = if x < y + c then 1 else 0) (hx : x ≤ 18446744073709551615) (hy : y ≤ 18446744073709551615) (hc : c ≤ 1) :
    lo + y + c = x + 18446744073709551616 * hi ∧ hi ≤ 1 ∧ lo ≤ 18446744073709551615 := by
  subst hl hh; simp only [two64]; split <;> omega

/-- The weight of four words. -/
def v4 (a b c d : Nat) : Nat := a + 18446744073709551616 * b + 340282366920938463463374607431768211456 * c + 6277101735386680763835789423207666416102355444464034512896 * d

def PN : Nat := 115792089210356248762697446949407573530086143415290314195533631308867097853951
def RN : Nat := 115792089237316195423570985008687907853269984665640564039457584007913129639936

theorem mont_lt {V a b M : Nat} (h : RN * V = a * b + PN * M) (ha : a < PN) (hb : b < PN) (hM : M < RN) : V < 2 * PN := by
  have h1 : a * b ≤ PN * RN := Nat.mul_le_mul (by omega) (by simp only [PN] at hb; simp only [RN]; omega)
  have h2 : PN * M < PN * RN := Nat.mul_lt_mul_of_pos_left hM (by decide)
  have h3 : RN * V < RN * (2 * PN) := by
    rw [h, show RN * (2 * PN) = PN * RN + PN * RN by decide +kernel]
    omega
  exact Nat.lt_of_mul_lt_mul_left h3

/-- Five words, less p where that can be. -/
theorem csub {a0 a1 a2 a3 a4 s0 s1 s2 s3 s4 t0 t1 t2 t3 t4 r0 r1 r2 r3 : Nat}
    (b0 : a0 ≤ 18446744073709551615) (b1 : a1 ≤ 18446744073709551615) (b2 : a2 ≤ 18446744073709551615) (b3 : a3 ≤ 18446744073709551615) (b4 : a4 ≤ 18446744073709551615)
    (hs0 : s0 = (a0 + two64 - 18446744073709551615 - 0) % two64) (ht0 : t0 = if a0 < 18446744073709551615 + 0 then 1 else 0)
    (hs1 : s1 = (a1 + two64 - 4294967295 - t0) % two64) (ht1 : t1 = if a1 < 4294967295 + t0 then 1 else 0)
    (hs2 : s2 = (a2 + two64 - 0 - t1) % two64) (ht2 : t2 = if a2 < 0 + t1 then 1 else 0)
    (hs3 : s3 = (a3 + two64 - 18446744069414584321 - t2) % two64) (ht3 : t3 = if a3 < 18446744069414584321 + t2 then 1 else 0)
    (hs4 : s4 = (a4 + two64 - 0 - t3) % two64) (ht4 : t4 = if a4 < 0 + t3 then 1 else 0)
    (hr0 : r0 = if t4 = 0 then s0 else a0) (hr1 : r1 = if t4 = 0 then s1 else a1) (hr2 : r2 = if t4 = 0 then s2 else a2) (hr3 : r3 = if t4 = 0 then s3 else a3)
    (hV : v4 a0 a1 a2 a3 + RN * a4 < 2 * PN) :
    v4 r0 r1 r2 r3 < PN ∧ (v4 r0 r1 r2 r3 = v4 a0 a1 a2 a3 + RN * a4 ∨ v4 r0 r1 r2 r3 + PN = v4 a0 a1 a2 a3 + RN * a4) ∧
      r0 < two64 ∧ r1 < two64 ∧ r2 < two64 ∧ r3 < two64 := by
  obtain ⟨e0, f0, g0⟩ := subE hs0 ht0 b0 (by omega) (by omega)
  obtain ⟨e1, f1, g1⟩ := subE hs1 ht1 b1 (by omega) f0
  obtain ⟨e2, f2, g2⟩ := subE hs2 ht2 b2 (by omega) f1
  obtain ⟨e3, f3, g3⟩ := subE hs3 ht3 b3 (by omega) f2
  obtain ⟨e4, f4, g4⟩ := subE hs4 ht4 b4 (by omega) f3
  clear hs0 ht0 hs1 ht1 hs2 ht2 hs3 ht3 hs4 ht4
  simp only [v4, PN, RN, two64] at *
  by_cases hz : t4 = 0
  · simp only [hz, if_true] at *
    subst hr0 hr1 hr2 hr3
    refine ⟨by omega, Or.inr (by omega), by omega, by omega, by omega, by omega⟩
  · have : t4 = 1 := by omega
    simp only [this] at *
    simp at hr0 hr1 hr2 hr3
    subst hr0 hr1 hr2 hr3
    refine ⟨by omega, Or.inl (by omega), by omega, by omega, by omega, by omega⟩

theorem v4_mul (a b c d a' b' c' d' : Nat) : v4 a b c d * v4 a' b' c' d' = 1 * (a * a') + 18446744073709551616 * (a * b') + 340282366920938463463374607431768211456 * (a * c') + 6277101735386680763835789423207666416102355444464034512896 * (a * d')
    + 18446744073709551616 * (b * a') + 340282366920938463463374607431768211456 * (b * b') + 6277101735386680763835789423207666416102355444464034512896 * (b * c') + 115792089237316195423570985008687907853269984665640564039457584007913129639936 * (b * d')
    + 340282366920938463463374607431768211456 * (c * a') + 6277101735386680763835789423207666416102355444464034512896 * (c * b') + 115792089237316195423570985008687907853269984665640564039457584007913129639936 * (c * c') + 2135987035920910082395021706169552114602704522356652769947041607822219725780640550022962086936576 * (c * d')
    + 6277101735386680763835789423207666416102355444464034512896 * (d * a') + 115792089237316195423570985008687907853269984665640564039457584007913129639936 * (d * b') + 2135987035920910082395021706169552114602704522356652769947041607822219725780640550022962086936576 * (d * c') + 39402006196394479212279040100143613805079739270465446667948293404245721771497210611414266254884915640806627990306816 * (d * d') := by
  simp only [v4]
  grind

theorem wt5 (a b c d e : Nat) : RN * (v4 a b c d + RN * e) = 115792089237316195423570985008687907853269984665640564039457584007913129639936 * (1 * a + 18446744073709551616 * b + 340282366920938463463374607431768211456 * c + 6277101735386680763835789423207666416102355444464034512896 * d + 115792089237316195423570985008687907853269984665640564039457584007913129639936 * e) := by simp only [v4, RN]; omega
theorem wt4 (a b c d : Nat) : PN * v4 a b c d = 115792089210356248762697446949407573530086143415290314195533631308867097853951 * (1 * a + 18446744073709551616 * b + 340282366920938463463374607431768211456 * c + 6277101735386680763835789423207666416102355444464034512896 * d) := by simp only [v4, PN]; omega
theorem v4_lt {a b c d : Nat} (ha : a ≤ 18446744073709551615) (hb : b ≤ 18446744073709551615) (hc : c ≤ 18446744073709551615) (hd : d ≤ 18446744073709551615) : v4 a b c d < RN := by simp only [v4, RN]; omega
theorem v4_fix (k a b c d : Nat) : v4 a b c d * k = 1 * (k * a) + 18446744073709551616 * (k * b) + 340282366920938463463374607431768211456 * (k * c) + 6277101735386680763835789423207666416102355444464034512896 * (k * d) := by
  simp only [v4]
  grind

theorem PN_eq : EC.P = PN := EC.P_lit
/-- The residue of a number. -/
def nF (n : Nat) : EC.F := EC.toF (n : Int)
theorem nF_add (a b : Nat) : nF (a + b) = nF a + nF b := by simp only [nF, Int.natCast_add, EC.toF_add]
theorem nF_mul (a b : Nat) : nF (a * b) = nF a * nF b := by simp only [nF, Int.natCast_mul, EC.toF_mul]
theorem nF_val (n : Nat) : (nF n).val = n % PN := by
  show (((n : Int) % (EC.P : Int))).toNat = _
  rw [PN_eq]
  have : ((n : Int) % (PN : Int)) = ((n % PN : Nat) : Int) := (Int.natCast_emod n PN).symm
  rw [this]; rfl
theorem nF_inj {a b : Nat} (ha : a < PN) (hb : b < PN) (h : nF a = nF b) : a = b := by
  have := congrArg Fin.val h
  rwa [nF_val, nF_val, Nat.mod_eq_of_lt ha, Nat.mod_eq_of_lt hb] at this
theorem nF_P : nF PN = 0 := by decide +kernel
theorem nF_of (x : EC.F) : nF x.val = x := Fin.ext (by rw [nF_val, Nat.mod_eq_of_lt (Nat.lt_of_lt_of_eq x.isLt PN_eq)])
theorem nF_zero : nF 0 = 0 := rfl

/-- 2^256 there. -/
def Rm : EC.F := nF RN
theorem Rm_ne : Rm ≠ 0 := by decide +kernel
/-- 2^-256 there. -/
def Ri : EC.F := 115792089183396302114378112356516095823261736990586219612555396166510339686400
theorem Ri_ne : Ri ≠ 0 := by decide +kernel
theorem Rm_Ri : Rm * Ri = 1 := by decide +kernel
end Go.Proofs.Ytjdjhccefnffmaa
namespace Go.Proofs.Ytjdjhccefnffmaa
namespace EC

/-- A point of the curve, or the one that is infinitely far. -/
inductive Pt where
  | far
  | aff (x y : F)
  deriving DecidableEq

namespace Pt
def Ok : Pt → Prop
  | far => True
  | aff x y => On x y

def neg : Pt → Pt
  | far => far
  | aff x y => aff x (-y)

/-- By chord and tangent. -/
def sum : Pt → Pt → Pt
  | far, q => q
  | aff x1 y1, far => aff x1 y1
  | aff x1 y1, aff x2 y2 =>
    if x1 ≠ x2 then
      aff ((y2 - y1) * inv (x2 - x1) * ((y2 - y1) * inv (x2 - x1)) - x1 - x2)
        ((y2 - y1) * inv (x2 - x1) * (x1 - ((y2 - y1) * inv (x2 - x1) * ((y2 - y1) * inv (x2 - x1)) - x1 - x2)) - y1)
    else if y1 ≠ y2 ∨ y1 = 0 then far
    else
      aff ((3 * (x1 * x1) - 3) * inv (y1 + y1) * ((3 * (x1 * x1) - 3) * inv (y1 + y1)) - x1 - x2)
        ((3 * (x1 * x1) - 3) * inv (y1 + y1) * (x1 - ((3 * (x1 * x1) - 3) * inv (y1 + y1) * ((3 * (x1 * x1) - 3) * inv (y1 + y1)) - x1 - x2)) - y1)

/-- What three coordinates are of a point. -/
def Rep (X Y Z : F) : Pt → Prop
  | far => X = 0 ∧ Z = 0 ∧ Y ≠ 0
  | aff x y => Z ≠ 0 ∧ X = x * Z ∧ Y = y * Z

theorem sub_ne {a b : F} (h : a ≠ b) : b - a ≠ 0 := fun h0 => h (by
  have : b = a := by
    generalize hz : (0 : F) = z at *
    grind -lia -linarith
  exact this.symm)

theorem dbl_ne {y : F} (h : y ≠ 0) : y + y ≠ 0 := fun h0 => by
  have : (2 : F) * y = 0 := by rw [← h0]; grind -lia -linarith
  rcases mul_zero_of this with h1 | h1
  · exact two_ne h1
  · exact h h1

theorem cube_ne {y : F} (h : y ≠ 0) : y * y * y ≠ 0 := mul_ne (mul_ne h h) h

theorem neg_ne {y : F} (h : y ≠ 0) : -y ≠ 0 := fun h0 => h (by
  have : y = -(-y) := by grind -lia -linarith
  rw [this, h0]; grind -lia -linarith)

/-- On one vertical line there are a point and its opposite alone. -/
theorem same_x {x y1 y2 : F} (h1 : On x y1) (h2 : On x y2) (hne : y1 ≠ y2) : y2 = -y1 := by
  unfold On at h1 h2
  have h : (y2 - y1) * (y2 + y1) = 0 := by
    have : y2 * y2 - y1 * y1 = 0 := by rw [h1, h2]; grind -lia -linarith
    rw [← this]; grind -lia -linarith
  rcases mul_zero_of h with h | h
  · exact absurd h (sub_ne hne)
  · have : y2 = (y2 + y1) - y1 := by grind -lia -linarith
    rw [this, h]; grind -lia -linarith

theorem sum_chord {x1 y1 x2 y2 : F} (h : x1 ≠ x2) : sum (aff x1 y1) (aff x2 y2) = aff ((y2 - y1) * inv (x2 - x1) * ((y2 - y1) * inv (x2 - x1)) - x1 - x2)
        ((y2 - y1) * inv (x2 - x1) * (x1 - ((y2 - y1) * inv (x2 - x1) * ((y2 - y1) * inv (x2 - x1)) - x1 - x2)) - y1) := by
  simp only [sum]; rw [if_pos h]

theorem sum_tangent {x y : F} (h : y ≠ 0) : sum (aff x y) (aff x y) = aff ((3 * (x * x) - 3) * inv (y + y) * ((3 * (x * x) - 3) * inv (y + y)) - x - x)
        ((3 * (x * x) - 3) * inv (y + y) * (x - ((3 * (x * x) - 3) * inv (y + y) * ((3 * (x * x) - 3) * inv (y + y)) - x - x)) - y) := by
  simp only [sum]; rw [if_neg (fun h => h rfl), if_neg (by rintro (h1 | h1); exact h1 rfl; exact h h1)]

theorem sum_opp {x y1 y2 : F} (h : y1 ≠ y2) : sum (aff x y1) (aff x y2) = far := by
  simp only [sum]; rw [if_neg (fun h => h rfl), if_pos (Or.inl h)]

theorem slope {a e : F} (h : e ≠ 0) : a * inv e * e = a := by
  have := mul_inv e h
  generalize inv e = i at *
  clear h
  grind -lia -linarith

/-- A sum of points of the curve is one. -/
theorem Ok.sum {p q : Pt} (hp : p.Ok) (hq : q.Ok) : (Pt.sum p q).Ok := by
  cases p with
  | far => exact hq
  | aff x1 y1 => cases q with
    | far => exact hp
    | aff x2 y2 =>
      by_cases h : x1 = x2
      · subst h
        by_cases hy : y1 = y2
        · subst hy
          rw [sum_tangent (On.ne hp)]
          exact tangent_on B x1 y1 _ _ hp (inv (y1 + y1)) (mul_inv _ (dbl_ne (On.ne hp))) rfl rfl
        · rw [sum_opp hy]; trivial
      · rw [sum_chord h]
        exact chord_on B x1 y1 x2 y2 _ _ hp hq (inv (x2 - x1)) (mul_inv _ (sub_ne h)) (slope (sub_ne h)) rfl

theorem On.neg {x y : F} (h : On x y) : On x (-y) := by
  unfold On at *; rw [← h]; grind -lia -linarith

theorem Ok.neg {p : Pt} (hp : p.Ok) : p.neg.Ok := by
  cases p with
  | far => trivial
  | aff x y => exact On.neg hp

/-- Two finite points by their own coordinates. -/
theorem rep_aff {x1 y1 x2 y2 : F} (h1 : On x1 y1) (h2 : On x2 y2) :
    Rep (fX B x1 y1 1 x2 y2 1) (fY B x1 y1 1 x2 y2 1) (fZ B x1 y1 1 x2 y2 1) (sum (aff x1 y1) (aff x2 y2)) := by
  by_cases h : x1 = x2
  · subst h
    by_cases hy : y1 = y2
    · subst hy
      have hy0 := On.ne h1
      have hd := mul_inv _ (dbl_ne hy0)
      rw [sum_tangent hy0]
      refine ⟨?_, tangent_X B x1 y1 _ _ h1 _ hd rfl rfl, tangent_Y B x1 y1 _ _ h1 _ hd rfl rfl⟩
      rw [tangent_Z B x1 y1 h1]
      exact mul_ne eight_ne (cube_ne hy0)
    · have e := same_x h1 h2 hy
      subst e
      rw [sum_opp hy]
      have hy0 := On.ne h1
      have hd := mul_inv _ (dbl_ne hy0)
      refine ⟨other_X B x1 y1, other_Z B x1 y1, ?_⟩
      rw [other_Y B x1 y1 _ _ h1 _ hd rfl rfl]
      exact mul_ne (mul_ne eight_ne (cube_ne hy0)) (On.ne (tangent_on B x1 y1 _ _ h1 _ hd rfl rfl))
  · rw [sum_chord h]
    have hd := mul_inv _ (sub_ne h)
    have hs : (y2 - y1) * inv (x2 - x1) * (x2 - x1) = y2 - y1 := slope (sub_ne h)
    refine ⟨?_, chord_X B x1 y1 x2 y2 _ _ h1 h2 _ hd hs rfl, chord_Y B x1 y1 x2 y2 _ _ h1 h2 _ hd hs rfl⟩
    have hs' : (-y2 - y1) * inv (x2 - x1) * (x2 - x1) = -y2 - y1 := slope (sub_ne h)
    rw [chord_Z B x1 y1 x2 y2 _ _ h1 h2 _ hd hs' rfl]
    refine mul_ne (On.ne (chord_on B x1 y1 x2 (-y2) _ _ h1 (On.neg h2) _ hd hs' rfl)) (cube_ne (sub_ne h))

theorem Rep.scale {X Y Z k : F} (hk : k ≠ 0) {p : Pt} (h : Rep X Y Z p) : Rep (k * X) (k * Y) (k * Z) p := by
  cases p with
  | far =>
    obtain ⟨rfl, rfl, hy⟩ := h
    exact ⟨by grind -lia -linarith, by grind -lia -linarith, mul_ne hk hy⟩
  | aff x y =>
    obtain ⟨hz, rfl, rfl⟩ := h
    exact ⟨mul_ne hk hz, by grind -lia -linarith, by grind -lia -linarith⟩

/-- THE COMPLETE FORMULA: the sum of any two points of the curve, by any coordinates. -/
theorem rep_sum {p q : Pt} (hp : p.Ok) (hq : q.Ok) {X1 Y1 Z1 X2 Y2 Z2 : F} (h1 : Rep X1 Y1 Z1 p) (h2 : Rep X2 Y2 Z2 q) :
    Rep (fX B X1 Y1 Z1 X2 Y2 Z2) (fY B X1 Y1 Z1 X2 Y2 Z2) (fZ B X1 Y1 Z1 X2 Y2 Z2) (sum p q) := by
  cases p with
  | far =>
    obtain ⟨rfl, rfl, hy⟩ := h1
    cases q with
    | far =>
      obtain ⟨rfl, rfl, hw⟩ := h2
      exact ⟨fars_X _ _ _, fars_Z _ _ _, by rw [fars_Y]; exact mul_ne (mul_ne hy hw) (mul_ne hy hw)⟩
    | aff x y =>
      obtain ⟨hz, rfl, rfl⟩ := h2
      rw [fX_comm, fY_comm, fZ_comm, far_X, far_Y, far_Z]
      exact ⟨mul_ne (On.ne hq) (mul_ne (mul_ne hy hy) (mul_ne hz hz)), rfl, rfl⟩
  | aff x1 y1 =>
    obtain ⟨hz, rfl, rfl⟩ := h1
    cases q with
    | far =>
      obtain ⟨rfl, rfl, hy⟩ := h2
      rw [far_X, far_Y, far_Z]
      exact ⟨mul_ne (On.ne hp) (mul_ne (mul_ne hy hy) (mul_ne hz hz)), rfl, rfl⟩
    | aff x2 y2 =>
      obtain ⟨hw, rfl, rfl⟩ := h2
      rw [fX_scale, fY_scale, fZ_scale]
      exact (rep_aff hp hq).scale (mul_ne (mul_ne hz hw) (mul_ne hz hw))

theorem mul_cancel {a b z : F} (hz : z ≠ 0) (h : a * z = b * z) : a = b := by
  have h1 := mul_inv z hz
  generalize inv z = i at *
  have : a * z * i = b * z * i := by rw [h]
  clear h hz
  have e1 : a * z * i = a * (z * i) := by grind -lia -linarith
  have e2 : b * z * i = b * (z * i) := by grind -lia -linarith
  rw [e1, e2, h1] at this
  grind -lia -linarith

/-- Coordinates that agree crosswise are of one point. -/
theorem Rep.uniq {X Y Z X' Y' Z' : F} {p q : Pt} (h1 : Rep X Y Z p) (h2 : Rep X' Y' Z' q) (hx : X * Z' = X' * Z) (hy : Y * Z' = Y' * Z) : p = q := by
  cases p with
  | far =>
    obtain ⟨rfl, rfl, hY⟩ := h1
    cases q with
    | far => rfl
    | aff x y =>
      obtain ⟨hz, rfl, rfl⟩ := h2
      exact absurd (hy.trans (by grind -lia -linarith)) (mul_ne hY hz)
  | aff x y =>
    obtain ⟨hz, rfl, rfl⟩ := h1
    cases q with
    | far =>
      obtain ⟨rfl, rfl, hY⟩ := h2
      exact absurd (hy.symm.trans (by grind -lia -linarith)) (mul_ne hY hz)
    | aff x' y' =>
      obtain ⟨hw, rfl, rfl⟩ := h2
      have hzw := mul_ne hz hw
      have e1 : x = x' := mul_cancel hzw (by
        have a1 : x * (Z * Z') = x * Z * Z' := by grind -lia -linarith
        have a2 : x' * (Z * Z') = x' * Z' * Z := by grind -lia -linarith
        rw [a1, a2, hx])
      have e2 : y = y' := mul_cancel hzw (by
        have a1 : y * (Z * Z') = y * Z * Z' := by grind -lia -linarith
        have a2 : y' * (Z * Z') = y' * Z' * Z := by grind -lia -linarith
        rw [a1, a2, hy])
      rw [e1, e2]

theorem rep_one (x y : F) : Rep x y 1 (aff x y) := ⟨one_ne, by grind -lia -linarith, by grind -lia -linarith⟩

theorem sum_comm {p q : Pt} (hp : p.Ok) (hq : q.Ok) : sum p q = sum q p := by
  cases p with
  | far => cases q <;> rfl
  | aff x1 y1 => cases q with
    | far => rfl
    | aff x2 y2 =>
      refine (rep_aff hp hq).uniq (rep_aff hq hp) ?_ ?_
      · rw [fX_comm B x1, fZ_comm B x1]
      · rw [fY_comm B x1, fZ_comm B x1]

theorem sum_assoc {p q r : Pt} (hp : p.Ok) (hq : q.Ok) (hr : r.Ok) : sum (sum p q) r = sum p (sum q r) := by
  cases p with
  | far => rfl
  | aff x1 y1 => cases q with
    | far => cases r <;> rfl
    | aff x2 y2 => cases r with
      | far => generalize hs : sum (aff x1 y1) (aff x2 y2) = s
               cases s <;> exact hs.symm ▸ rfl
      | aff x3 y3 =>
        have h := cross B x1 x2 x3 y1 y2 y3 hp hq hr _ _ _ _ _ _ rfl rfl rfl rfl rfl rfl
        exact (rep_sum (hp.sum hq) hr (rep_aff hp hq) (rep_one x3 y3)).uniq (rep_sum hp (hq.sum hr) (rep_one x1 y1) (rep_aff hq hr)) h.1 h.2

theorem sum_far (p : Pt) : sum p far = p := by cases p <;> rfl
theorem far_sum (p : Pt) : sum far p = p := rfl

theorem neg_sum {p : Pt} (hp : p.Ok) : sum p p.neg = far := by
  cases p with
  | far => rfl
  | aff x y =>
    refine sum_opp fun h => dbl_ne (On.ne hp) ?_
    have : y + y = y + -y := congrArg (y + ·) h
    rw [this]; grind -lia -linarith

theorem neg_neg (p : Pt) : p.neg.neg = p := by
  cases p with
  | far => rfl
  | aff x y => show aff x (- -y) = aff x y; congr 1; grind -lia -linarith

/-- n times a point. -/
def mul : Nat → Pt → Pt
  | 0, _ => far
  | n + 1, p => sum (mul n p) p

theorem Ok.mul {p : Pt} (hp : p.Ok) : ∀ n, (Pt.mul n p).Ok
  | 0 => trivial
  | n + 1 => (Ok.mul hp n).sum hp

theorem mul_add {p : Pt} (hp : p.Ok) (m : Nat) : ∀ n, mul (m + n) p = sum (mul m p) (mul n p)
  | 0 => (sum_far _).symm
  | n + 1 => by
    show sum (mul (m + n) p) p = sum (mul m p) (sum (mul n p) p)
    rw [mul_add hp m n, sum_assoc (hp.mul m) (hp.mul n) hp]

theorem mul_mul {p : Pt} (hp : p.Ok) (m : Nat) : ∀ n, mul n (mul m p) = mul (m * n) p
  | 0 => rfl
  | n + 1 => by
    show sum (mul n (mul m p)) (mul m p) = mul (m * (n + 1)) p
    rw [mul_mul hp m n, ← mul_add hp]; rfl

theorem sum_swap {a b c d : Pt} (ha : a.Ok) (hb : b.Ok) (hc : c.Ok) (hd : d.Ok) : sum (sum a b) (sum c d) = sum (sum a c) (sum b d) := by
  rw [sum_assoc ha hb (hc.sum hd), ← sum_assoc hb hc hd, sum_comm hb hc, sum_assoc hc hb hd, ← sum_assoc ha hc (hb.sum hd)]

theorem mul_sum {p q : Pt} (hp : p.Ok) (hq : q.Ok) : ∀ n, mul n (sum p q) = sum (mul n p) (mul n q)
  | 0 => rfl
  | n + 1 => by
    show sum (mul n (sum p q)) (sum p q) = sum (sum (mul n p) p) (sum (mul n q) q)
    rw [mul_sum hp hq n, sum_swap (hp.mul n) (hq.mul n) hp hq]

theorem mul_far : ∀ n, mul n far = far
  | 0 => rfl
  | n + 1 => by show sum (mul n far) far = far; rw [mul_far n]; rfl

theorem cancel {p q r : Pt} (hp : p.Ok) (hq : q.Ok) (hr : r.Ok) (h : sum p r = sum q r) : p = q := by
  have h1 : sum (sum p r) r.neg = sum (sum q r) r.neg := by rw [h]
  rw [sum_assoc hp hr hr.neg, sum_assoc hq hr hr.neg, neg_sum hr, sum_far, sum_far] at h1
  exact h1
end Pt
end EC
end Go.Proofs.Ytjdjhccefnffmaa
namespace Go.Proofs.Ytjdjhccefnffmaa
open Go LX

/-- Four words that hold a residue, in Montgomery's form. -/
def El (w : World) (b o : Nat) (x : EC.F) : Prop := ∃ a0 a1 a2 a3, W4 w b o a0 a1 a2 a3 ∧ v4 a0 a1 a2 a3 < PN ∧ nF (v4 a0 a1 a2 a3) = x * Rm

/-- The cells that a writer of n cells from o on may write. -/
def at_ (b o n : Nat) : Nat → Nat → Prop := fun k j => k = b ∧ o ≤ j ∧ j < o + n

theorem w4_out {w' : World} {b o : Nat} {ρ : Nat → Nat} {B : Nat → Nat × Nat} {outs : List (Option SV)} {r0 r1 r2 r3 : Nat}
    (ho : ∀ i v, i < 4 → outs[i]? = some (some v) → Cel w' b (o + i) (den B ρ v) ∧ ok ρ v)
    (e0 : outs[0]? = some (some (.s .u64 r0))) (e1 : outs[1]? = some (some (.s .u64 r1))) (e2 : outs[2]? = some (some (.s .u64 r2))) (e3 : outs[3]? = some (some (.s .u64 r3))) :
    W4 w' b o (ρ r0) (ρ r1) (ρ r2) (ρ r3) := by
  obtain ⟨c0, l0⟩ := ho 0 _ (by decide) e0
  obtain ⟨c1, l1⟩ := ho 1 _ (by decide) e1
  obtain ⟨c2, l2⟩ := ho 2 _ (by decide) e2
  obtain ⟨c3, l3⟩ := ho 3 _ (by decide) e3
  exact ⟨c0, c1, c2, c3, l0, l1, l2, l3⟩

def in3 (z0 z1 z2 z3 x0 x1 x2 x3 y0 y1 y2 y3 : Nat) : Nat → Nat
  | 0 => x0 | 1 => x1 | 2 => x2 | 3 => x3 | 4 => y0 | 5 => y1 | 6 => y2 | 7 => y3 | 8 => z0 | 9 => z1 | 10 => z2 | _ => z3
def in2 (z0 z1 z2 z3 x0 x1 x2 x3 : Nat) : Nat → Nat
  | 0 => x0 | 1 => x1 | 2 => x2 | 3 => x3 | 4 => z0 | 5 => z1 | 6 => z2 | _ => z3

theorem w4_le {w : World} {b o x0 x1 x2 x3 : Nat} (h : W4 w b o x0 x1 x2 x3) : x0 ≤ 18446744073709551615 ∧ x1 ≤ 18446744073709551615 ∧ x2 ≤ 18446744073709551615 ∧ x3 ≤ 18446744073709551615 := by
  have := h.l0; have := h.l1; have := h.l2; have := h.l3
  simp only [two64] at *
  omega

/-- A leaf of three pointers. -/
theorem leaf3 {f : FuncId} {fn : Func} {b : Code} {w : World} {p q r : Nat × Nat} {z0 z1 z2 z3 x0 x1 x2 x3 y0 y1 y2 y3 nt : Nat} {defs : List (Nat × FnS)} {outs : List (Option SV)}
    (hf : Try.prog.funcs[f]? = some fn) (hb : fn.body = some b) (hres : fn.results = #[]) (hnt : fn.ntmps = nt) (h3 : 3 ≤ nt)
    (hx : outcome ⟨3, 4, nt⟩ (exec env ⟨3, 4, nt⟩ b stIn3) = some (defs, outs)) (ho : orderly 12 defs defs = true) (hs : single defs = true)
    (wz : W4 w p.1 p.2 z0 z1 z2 z3) (wx : W4 w q.1 q.2 x0 x1 x2 x3) (wy : W4 w r.1 r.2 y0 y1 y2 y3) {r0 r1 r2 r3 : Nat}
    (e0 : outs[0]? = some (some (.s .u64 r0))) (e1 : outs[1]? = some (some (.s .u64 r1))) (e2 : outs[2]? = some (some (.s .u64 r2))) (e3 : outs[3]? = some (some (.s .u64 r3))) :
    Calls Try.prog f #[ptr p, ptr q, ptr r] w fun e w' => e = .returned (.tuple #[]) ∧ ∃ ρ, Hold ρ defs ∧ Kp (at_ p.1 p.2 4) w w' ∧ W4 w' p.1 p.2 (ρ r0) (ρ r1) (ρ r2) (ρ r3) ∧
      ρ 0 = x0 ∧ ρ 1 = x1 ∧ ρ 2 = x2 ∧ ρ 3 = x3 ∧ ρ 4 = y0 ∧ ρ 5 = y1 ∧ ρ 6 = y2 ∧ ρ 7 = y3 := by
  refine (leaf_call (E := env) (c := ⟨3, 4, nt⟩) (ext := ext3 p q r) (ρ0 := in3 z0 z1 z2 z3 x0 x1 x2 x3 y0 y1 y2 y3) (n := 12) env_holds (by show 0 < 3; omega) hf hb hres hx ho hs (fun ρ h => ?_)).mono ?_
  · rw [hnt]
    exact rel3 h3 wz wx wy (h 0 (by omega)) (h 1 (by omega)) (h 2 (by omega)) (h 3 (by omega)) (h 4 (by omega)) (h 5 (by omega)) (h 6 (by omega)) (h 7 (by omega)) (h 8 (by omega)) (h 9 (by omega)) (h 10 (by omega)) (h 11 (by omega))
  · rintro e w' ⟨rfl, ρ, h1, h2, hk, hv⟩
    refine ⟨rfl, ρ, h2.hold, hk, w4_out hv e0 e1 e2 e3, h1 0 (by omega), h1 1 (by omega), h1 2 (by omega), h1 3 (by omega), h1 4 (by omega), h1 5 (by omega), h1 6 (by omega), h1 7 (by omega)⟩

/-- A leaf of two pointers. -/
theorem leaf2 {f : FuncId} {fn : Func} {b : Code} {w : World} {p q : Nat × Nat} {z0 z1 z2 z3 x0 x1 x2 x3 nt : Nat} {defs : List (Nat × FnS)} {outs : List (Option SV)}
    (hf : Try.prog.funcs[f]? = some fn) (hb : fn.body = some b) (hres : fn.results = #[]) (hnt : fn.ntmps = nt) (h3 : 2 ≤ nt)
    (hx : outcome ⟨2, 4, nt⟩ (exec env ⟨2, 4, nt⟩ b stIn2) = some (defs, outs)) (ho : orderly 8 defs defs = true) (hs : single defs = true)
    (wz : W4 w p.1 p.2 z0 z1 z2 z3) (wx : W4 w q.1 q.2 x0 x1 x2 x3) {r0 r1 r2 r3 : Nat}
    (e0 : outs[0]? = some (some (.s .u64 r0))) (e1 : outs[1]? = some (some (.s .u64 r1))) (e2 : outs[2]? = some (some (.s .u64 r2))) (e3 : outs[3]? = some (some (.s .u64 r3))) :
    Calls Try.prog f #[ptr p, ptr q] w fun e w' => e = .returned (.tuple #[]) ∧ ∃ ρ, Hold ρ defs ∧ Kp (at_ p.1 p.2 4) w w' ∧ W4 w' p.1 p.2 (ρ r0) (ρ r1) (ρ r2) (ρ r3) ∧
      ρ 0 = x0 ∧ ρ 1 = x1 ∧ ρ 2 = x2 ∧ ρ 3 = x3 := by
  refine (leaf_call (E := env) (c := ⟨2, 4, nt⟩) (ext := ext2 p q) (ρ0 := in2 z0 z1 z2 z3 x0 x1 x2 x3) (n := 8) env_holds (by show 0 < 2; omega) hf hb hres hx ho hs (fun ρ h => ?_)).mono ?_
  · rw [hnt]
    exact rel2 h3 wz wx (h 0 (by omega)) (h 1 (by omega)) (h 2 (by omega)) (h 3 (by omega)) (h 4 (by omega)) (h 5 (by omega)) (h 6 (by omega)) (h 7 (by omega))
  · rintro e w' ⟨rfl, ρ, h1, h2, hk, hv⟩
    refine ⟨rfl, ρ, h2.hold, hk, w4_out hv e0 e1 e2 e3, h1 0 (by omega), h1 1 (by omega), h1 2 (by omega), h1 3 (by omega)⟩

theorem sum4 {a0 a1 a2 a3 c0 c1 c2 c3 x0 x1 x2 x3 y0 y1 y2 y3 : Nat} (e0 : a0 + 18446744073709551616 * c0 = x0 + y0 + 0) (e1 : a1 + 18446744073709551616 * c1 = x1 + y1 + c0) (e2 : a2 + 18446744073709551616 * c2 = x2 + y2 + c1)
    (e3 : a3 + 18446744073709551616 * c3 = x3 + y3 + c2) : v4 a0 a1 a2 a3 + RN * c3 = v4 x0 x1 x2 x3 + v4 y0 y1 y2 y3 := by
  simp only [v4, RN]; omega
theorem dif4 {a0 a1 a2 a3 c0 c1 c2 c3 x0 x1 x2 x3 y0 y1 y2 y3 : Nat} (e0 : a0 + y0 + 0 = x0 + 18446744073709551616 * c0) (e1 : a1 + y1 + c0 = x1 + 18446744073709551616 * c1) (e2 : a2 + y2 + c1 = x2 + 18446744073709551616 * c2)
    (e3 : a3 + y3 + c2 = x3 + 18446744073709551616 * c3) : v4 a0 a1 a2 a3 + v4 y0 y1 y2 y3 = v4 x0 x1 x2 x3 + RN * c3 := by
  simp only [v4, RN]; omega
theorem sub_fin {x y d r c t : Nat} (hx : x < PN) (hy : y < PN) (s1 : d + y = x + RN * c) (s2 : r + RN * t = d + PN * c) (hd : d < RN) (hr : r < RN) (hc : c = 0 ∨ c = 1) :
    r < PN ∧ (r + y = x ∨ r + y = x + PN) := by
  simp only [PN, RN] at *
  rcases hc with rfl | rfl
  · refine ⟨by omega, Or.inl (by omega)⟩
  · refine ⟨by omega, Or.inr (by omega)⟩
theorem mul_comm_ (a b : EC.F) : a * b = b * a := by grind -lia -linarith
theorem mul_assoc_ (a b c : EC.F) : a * b * c = a * (b * c) := by grind -lia -linarith
theorem mul_one_ (a : EC.F) : a * 1 = a := by grind -lia -linarith
theorem nF_one : nF 1 = 1 := rfl
theorem mont_F {c a b k l : Nat} (h : RN * c + PN * l = a * b + PN * k) : Rm * nF c = nF a * nF b := by
  have h2 := congrArg nF h
  rw [nF_add, nF_add, nF_mul, nF_mul, nF_mul, nF_mul, nF_P, EC.f_zm, EC.f_zm, EC.f_az, EC.f_az] at h2
  exact h2
theorem mont_mul {c : Nat} {x y : EC.F} {a b k l : Nat} (h : RN * c + PN * l = a * b + PN * k) (ha : nF a = x * Rm) (hb : nF b = y * Rm) : nF c = x * y * Rm := by
  have h1 := mont_F h
  rw [ha, hb] at h1
  refine EC.Pt.mul_cancel Rm_ne ?_
  grind -lia -linarith

end Go.Proofs.Ytjdjhccefnffmaa
