import Derived.Test.YtjdjhccefnffmaaB05
import Derived.Test.YtjdjhccefnffmaaB11
import Derived.Lib.Hide
import Derived.Below
set_option linter.unusedVariables false
set_option linter.unusedSimpArgs false
namespace Go.Proofs.Ytjdjhccefnffmaa
namespace EC

def N : Nat := 115792089210356248762697446949407573529996955224135760342422259061068512044369

theorem prN : Pr N := prime_n

theorem pigeon : ∀ k m (f : Nat → Nat), (∀ i, i < m → f i < k) → (∀ i j, i < m → j < m → f i = f j → i = j) → m ≤ k := by
  intro k
  induction k with
  | zero => intro m f h _; rcases Nat.eq_zero_or_pos m with h0 | h0
            · omega
            · have := h 0 h0; omega
  | succ k ih =>
    intro m f h hi
    by_cases hk : ∃ i, i < m ∧ f i = k
    · obtain ⟨i0, hi0, hf⟩ := hk
      have := ih (m - 1) (fun i => if i < i0 then f i else f (i + 1)) (fun i hi' => by
        by_cases h1 : i < i0
        · simp only [if_pos h1]
          have := h i (by omega)
          rcases Nat.lt_or_ge (f i) k with h2 | h2
          · exact h2
          · have := hi i i0 (by omega) hi0 (by omega); omega
        · simp only [if_neg h1]
          have := h (i + 1) (by omega)
          rcases Nat.lt_or_ge (f (i + 1)) k with h2 | h2
          · exact h2
          · have := hi (i + 1) i0 (by omega) hi0 (by omega); omega) (fun i j h1 h2 he => by
        by_cases h3 : i < i0
        · by_cases h4 : j < i0
          · simp only [if_pos h3, if_pos h4] at he; exact hi i j (by omega) (by omega) he
          · simp only [if_pos h3, if_neg h4] at he; have := hi i (j + 1) (by omega) (by omega) he; omega
        · by_cases h4 : j < i0
          · simp only [if_neg h3, if_pos h4] at he; have := hi (i + 1) j (by omega) (by omega) he; omega
          · simp only [if_neg h3, if_neg h4] at he; have := hi (i + 1) (j + 1) (by omega) (by omega) he; omega)
      omega
    · have := ih m f (fun i hi' => by
        have := h i hi'
        rcases Nat.lt_or_ge (f i) k with h2 | h2
        · exact h2
        · exact absurd ⟨i, hi', by omega⟩ hk) hi
      omega

namespace Pt

/-- A number for each point: twice the first coordinate and whether the second one is odd. -/
def code : Pt → Nat
  | far => 2 * P
  | aff x y => 2 * x.val + y.val % 2

theorem code_lt : ∀ p : Pt, code p < 2 * P + 1
  | far => Nat.lt_succ_self _
  | aff x y => by have := x.isLt; have := Nat.mod_lt y.val (by omega : 2 > 0); show 2 * x.val + y.val % 2 < 2 * P + 1; omega

theorem neg_val {y : F} (h : y ≠ 0) : (-y).val = P - y.val := by
  have h0 : y.val ≠ 0 := fun h0 => h (Fin.ext h0)
  have h1 := y.isLt
  have hz : y + -y = 0 := by grind -lia -linarith
  have h2 := congrArg Fin.val hz
  rw [Fin.val_add] at h2
  have h3 := (-y).isLt
  have h4 : (y.val + (-y).val) % P = 0 := h2
  have h5 := Nat.div_add_mod (y.val + (-y).val) P
  rw [h4] at h5
  generalize (-y).val = w at *
  have hq : (y.val + w) / P < 2 := Nat.div_lt_of_lt_mul (by omega)
  generalize (y.val + w) / P = q at *
  have : q = 0 ∨ q = 1 := by omega
  rcases this with rfl | rfl <;> omega

theorem P_odd : P % 2 = 1 := by decide

theorem code_inj {p q : Pt} (hp : p.Ok) (hq : q.Ok) (h : code p = code q) : p = q := by
  cases p with
  | far => cases q with
    | far => rfl
    | aff x y => have h' : 2 * P = 2 * x.val + y.val % 2 := h; have := x.isLt; have := Nat.mod_lt y.val (by omega : 2 > 0); omega
  | aff x1 y1 => cases q with
    | far => have h' : 2 * x1.val + y1.val % 2 = 2 * P := h; have := x1.isLt; have := Nat.mod_lt y1.val (by omega : 2 > 0); omega
    | aff x2 y2 =>
      have h' : 2 * x1.val + y1.val % 2 = 2 * x2.val + y2.val % 2 := h
      have m1 := Nat.mod_lt y1.val (by omega : 2 > 0)
      have m2 := Nat.mod_lt y2.val (by omega : 2 > 0)
      have e : x1 = x2 := Fin.ext (by omega)
      subst e
      by_cases hy : y1 = y2
      · rw [hy]
      · have e := same_x hp hq hy
        have hv := neg_val (On.ne hp)
        rw [← e] at hv
        have := P_odd
        have := y1.isLt
        omega

theorem mul_gcd {g : Pt} (hg : g.Ok) (x y : Nat) : mul x g = far → mul y g = far → mul (Nat.gcd x y) g = far := by
  induction x, y using Nat.gcd.induction with
  | H0 n => intro _ h; rwa [Nat.gcd_zero_left]
  | H1 m n hm ih =>
    intro h1 h2
    rw [Nat.gcd_rec]
    refine ih ?_ h1
    have e := Nat.div_add_mod n m
    rw [← e, mul_add hg, ← mul_mul hg, h1, mul_far] at h2
    exact h2

theorem mul_one (p : Pt) : mul 1 p = p := rfl

/-- Multiples of a point whose order is a prime differ. -/
theorem mul_inj {g : Pt} (hg : g.Ok) (h0 : g ≠ far) {n : Nat} (hn : Pr n) (h : mul n g = far) {i j : Nat} (hi : i < j) (hj : j < n) (he : mul i g = mul j g) : False := by
  have h1 : mul (j - i) g = far := by
    have e : i + (j - i) = j := by omega
    rw [← e, mul_add hg] at he
    refine cancel (hg.mul _) trivial (hg.mul i) ?_
    rw [sum_comm (hg.mul _) (hg.mul _), ← he]; rfl
  have h2 := mul_gcd hg (j - i) n h1 h
  have h3 : Nat.gcd (j - i) n = 1 := by
    rcases hn.div (Nat.gcd_dvd_right (j - i) n) with h | h
    · exact h
    · have := Nat.le_of_dvd (by omega) (Nat.gcd_dvd_left (j - i) n); omega
  rw [h3, mul_one] at h2
  exact h0 h2

/-- Nothing but the point that is infinitely far is far when doubled. -/
theorem two_far {q : Pt} (hq : q.Ok) (h : sum q q = far) : q = far := by
  cases q with
  | far => rfl
  | aff x y => rw [sum_tangent (On.ne hq)] at h; cases h

theorem mul_swap {p : Pt} (hp : p.Ok) (m n : Nat) : mul n (mul m p) = mul m (mul n p) := by
  rw [mul_mul hp, mul_mul hp, Nat.mul_comm]

/-- The order of the group: where a point has the order n, a prime, and 3 n points are too many, each point is far n times. -/
theorem order_of {g : Pt} (hg : g.Ok) (h0 : g ≠ far) {n : Nat} (hn : Pr n) (h : mul n g = far) (h3 : 2 * P + 1 < 3 * n) {p : Pt} (hp : p.Ok) : mul n p = far := by
  by_cases hc : mul n p = far
  · exact hc
  · exfalso
    have hok : ∀ i j, (sum (mul i g) (mul j p)).Ok := fun i j => (hg.mul i).sum (hp.mul j)
    have key : ∀ i j i' d, i < n → i' < n → d < 3 → sum (mul i g) (mul j p) = sum (mul i' g) (mul (j + d) p) → d = 0 ∧ i = i' := by
      intro i j i' d hi hi' hd he
      rw [mul_add hp, sum_comm (hp.mul j) (hp.mul d), ← sum_assoc (hg.mul i') (hp.mul d) (hp.mul j)] at he
      have e1 := cancel (hg.mul i) ((hg.mul i').sum (hp.mul d)) (hp.mul j) he
      have e2 : mul n (mul i g) = mul n (sum (mul i' g) (mul d p)) := by rw [e1]
      rw [mul_swap hg, h, mul_far, mul_sum (hg.mul i') (hp.mul d), mul_swap hg, h, mul_far, far_sum, mul_swap hp] at e2
      have : d = 0 ∨ d = 1 ∨ d = 2 := by omega
      rcases this with rfl | rfl | rfl
      · refine ⟨rfl, ?_⟩
        have e3 : mul i g = mul i' g := e1.trans (sum_far _)
        rcases Nat.lt_trichotomy i i' with hlt | heq | hlt
        · exact (mul_inj hg h0 hn h hlt hi' e3).elim
        · exact heq
        · exact (mul_inj hg h0 hn h hlt hi e3.symm).elim
      · exact absurd e2.symm hc
      · exact absurd (two_far (hp.mul n) e2.symm) hc
    have hn2 := hn.1
    have := pigeon (2 * P + 1) (3 * n) (fun t => code (sum (mul (t % n) g) (mul (t / n) p))) (fun i _ => code_lt _) (fun a b ha hb he => by
      have e := code_inj (hok _ _) (hok _ _) he
      have ma := Nat.mod_lt a (by omega : n > 0)
      have mb := Nat.mod_lt b (by omega : n > 0)
      have da : a / n < 3 := Nat.div_lt_of_lt_mul (by omega)
      have db : b / n < 3 := Nat.div_lt_of_lt_mul (by omega)
      have ea := Nat.div_add_mod a n
      have eb := Nat.div_add_mod b n
      rcases Nat.le_total (a / n) (b / n) with hle | hle
      · have e1 : b / n = a / n + (b / n - a / n) := by omega
        rw [e1] at e
        have hd3 : b / n - a / n < 3 := Nat.lt_of_le_of_lt (Nat.sub_le _ _) db
        have hk := key _ _ _ _ ma mb hd3 e
        have e2 : a / n = b / n := by omega
        rw [← ea, ← eb, hk.2, e2]
      · have e1 : a / n = b / n + (a / n - b / n) := by omega
        rw [e1] at e
        have hd3 : a / n - b / n < 3 := Nat.lt_of_le_of_lt (Nat.sub_le _ _) da
        have hk := key _ _ _ _ mb ma hd3 e.symm
        have e2 : a / n = b / n := by omega
        rw [← ea, ← eb, hk.2, e2])
    omega

def Gx : F := 0x6b17d1f2e12c4247f8bce6e563a440f277037d812deb33a0f4a13945d898c296
def Gy : F := 0x4fe342e2fe1a7f9b8ee7eb4a7c0f9e162bce33576b315ececbb6406837bf51f5
def G : Pt := aff Gx Gy

theorem G_ok : G.Ok := by show Gy * Gy = Gx * Gx * Gx - 3 * Gx + B; decide +kernel

def padd (s t : F × F × F) : F × F × F := (fX B s.1 s.2.1 s.2.2 t.1 t.2.1 t.2.2, fY B s.1 s.2.1 s.2.2 t.1 t.2.1 t.2.2, fZ B s.1 s.2.1 s.2.2 t.1 t.2.1 t.2.2)

def lad (g : F × F × F) : Nat → Nat → F × F × F
  | 0, _ => (0, 1, 0)
  | k + 1, n => if n % 2 = 1 then padd (padd (lad g k (n / 2)) (lad g k (n / 2))) g else padd (lad g k (n / 2)) (lad g k (n / 2))

theorem lad_rep {g : Pt} (hg : g.Ok) {t : F × F × F} (ht : Rep t.1 t.2.1 t.2.2 g) : ∀ k n, n < 2 ^ k → Rep (lad t k n).1 (lad t k n).2.1 (lad t k n).2.2 (mul n g)
  | 0, n, h => by
    have : n = 0 := by simpa using h
    subst this; exact ⟨rfl, rfl, one_ne⟩
  | k + 1, n, h => by
    have h2 : n / 2 < 2 ^ k := by rw [Nat.pow_succ] at h; omega
    have ih := lad_rep hg ht k (n / 2) h2
    have hd := rep_sum (hg.mul (n / 2)) (hg.mul (n / 2)) ih ih
    rw [← mul_add hg] at hd
    have e := Nat.div_add_mod n 2
    unfold lad
    split
    · rename_i h1
      have e1 : n = n / 2 + n / 2 + 1 := by omega
      have := rep_sum (hg.mul (n / 2 + n / 2)) hg hd ht
      rw [e1]
      have h3 : (n / 2 + n / 2 + 1) / 2 = n / 2 := by omega
      rw [h3]
      exact this
    · have e1 : n / 2 + n / 2 = n := by omega
      rw [e1] at hd
      exact hd

theorem rep_far {X Y Z : F} {p : Pt} (h : Rep X Y Z p) (hz : Z = 0) : p = far := by
  cases p with
  | far => rfl
  | aff x y => exact absurd hz h.1

theorem lad_G : (lad (Gx, Gy, 1) 256 N).2.2 = 0 := by decide +kernel

theorem order_G (n : Nat) (hn : n = N) : mul n G = far := by
  have h := lad_rep (t := (Gx, Gy, 1)) G_ok (rep_one Gx Gy) 256 n (by rw [hn]; decide)
  exact rep_far h (by rw [hn]; exact lad_G)

/-- So often as there are points, each point is the one that is infinitely far. -/
theorem order {p : Pt} (hp : p.Ok) (n : Nat) (hn : n = N) : mul n p = far :=
  order_of G_ok (fun h => by cases h) (hn ▸ prN) (order_G n hn) (by rw [hn]; decide) hp
end Pt
end EC
end Go.Proofs.Ytjdjhccefnffmaa
set_option maxRecDepth 100000
set_option maxHeartbeats 1000000
namespace Go.Proofs.Ytjdjhccefnffmaa
open Go LX Go.RowKit

/-- Nothing that was there is written. -/
def non : Nat → Nat → Prop := fun _ _ => False

/-- Elements in blocks of their own, made since w0. -/
structure MM (S : Nat → Nat → Prop) (w0 w : World) (l : List (Nat × EC.F)) : Prop where
  k : Kp S w0 w
  el : ∀ e ∈ l, w0.heap.size ≤ e.1 ∧ El w e.1 0 e.2
  sep : l.Pairwise fun a b => a.1 ≠ b.1

theorem El.lt {w : World} {b o : Nat} {x : EC.F} (h : El w b o x) : b < w.heap.size := by
  obtain ⟨_, _, _, _, h1, -⟩ := h
  exact h1.c0.lt

theorem MM.nil (w : World) : MM non w w [] := ⟨Kp.refl _ _, fun e h => (by cases h), .nil⟩
theorem MM.drew {S : Nat → Nat → Prop} {w0 w : World} {l : List (Nat × EC.F)} (m : MM S w0 w l)  : MM S w0 w.drew l := ⟨m.k.drew, fun e h => ⟨(m.el e h).1, (m.el e h).2.drew⟩, m.sep⟩
theorem MM.get {S : Nat → Nat → Prop} {w0 w : World} {l : List (Nat × EC.F)} (m : MM S w0 w l) (i : Nat) {b : Nat} {x : EC.F} (h : l[i]? = some (b, x)) : El w b 0 x := (m.el _ (List.mem_of_getElem? h)).2
theorem MM.old {w0 w : World} {l : List (Nat × EC.F)} (m : MM non w0 w l) {b o : Nat} {x : EC.F} (h : El w0 b o x) : El w b o x := h.kp m.k fun _ _ h => h
theorem MM.set {S : Nat → Nat → Prop} {w0 w w' : World} {l : List (Nat × EC.F)} (m : MM S w0 w l) (i : Nat) {b : Nat} {x0 x : EC.F} (h : l[i]? = some (b, x0)) (hk : Kp (at_ b 0 4) w w') (he : El w' b 0 x) : MM S w0 w' (l.set i (b, x)) := by
  have hi : i < l.length := (List.getElem?_eq_some_iff.1 h).1
  have hb : w0.heap.size ≤ b := (m.el _ (List.mem_of_getElem? h)).1
  refine ⟨m.k.trans hk (fun _ _ _ h => h) (fun x o hx h => by have := h.1; omega), fun e hm => ?_, ?_⟩
  · obtain ⟨j, hj⟩ := List.mem_iff_getElem?.1 hm
    by_cases hij : i = j
    · subst hij
      rw [List.getElem?_set_self hi] at hj
      cases hj
      exact ⟨hb, he⟩
    · rw [List.getElem?_set_ne hij] at hj
      have h1 := m.el e (List.mem_of_getElem? hj)
      refine ⟨h1.1, h1.2.kp hk fun k _ hS => ?_⟩
      have hne := List.pairwise_iff_getElem.1 m.sep
      have hjl : j < l.length := (List.getElem?_eq_some_iff.1 hj).1
      have e1 : l[i] = (b, x0) := (List.getElem?_eq_some_iff.1 h).2
      have e2 : l[j] = e := (List.getElem?_eq_some_iff.1 hj).2
      rcases Nat.lt_or_gt_of_ne hij with h' | h'
      · have := hne i j hi hjl h'
        rw [e1, e2] at this
        exact this hS.1.symm
      · have := hne j i hjl hi h'
        rw [e1, e2] at this
        exact this hS.1
  · rw [List.pairwise_iff_getElem] at *
    have hs := m.sep
    rw [List.pairwise_iff_getElem] at hs
    have e1 : l[i] = (b, x0) := (List.getElem?_eq_some_iff.1 h).2
    intro j k hj hk hjk
    have hj' : j < l.length := by simpa using hj
    have hk' : k < l.length := by simpa using hk
    have := hs j k hj' hk' hjk
    simp only [List.getElem_set]
    split
    · split
      · omega
      · rename_i h1 h2; subst h1; rw [e1] at this; exact this
    · split
      · rename_i h1 h2; subst h2; rw [e1] at this; exact this
      · exact this
theorem MM.join {S : Nat → Nat → Prop} {w0 w w' : World} {l : List (Nat × EC.F)} (m : MM S w0 w l) {b : Nat} {x : EC.F} (hk : Kp non w w') (hb : w.heap.size ≤ b) (he : El w' b 0 x) : MM S w0 w' (l ++ [(b, x)]) := by
  refine ⟨m.k.trans hk (fun _ _ _ h => h) (fun _ _ _ h => h.elim), fun e hm => ?_, ?_⟩
  · rcases List.mem_append.1 hm with h | h
    · exact ⟨(m.el e h).1, (m.el e h).2.kp hk fun _ _ h => h⟩
    · rw [List.mem_singleton] at h; subst h
      exact ⟨Nat.le_trans m.k.size hb, he⟩
  · rw [List.pairwise_append]
    refine ⟨m.sep, List.pairwise_singleton .., fun a ha c hc => ?_⟩
    rw [List.mem_singleton] at hc; subst hc
    have := (m.el a ha).2.lt
    show a.1 ≠ b
    omega
theorem El.zero (w : World) (t : TypeId) : El (w.alloc (.cells #[.int .u64 0, .int .u64 0, .int .u64 0, .int .u64 0] t)) w.heap.size 0 0 :=
  ⟨0, 0, 0, 0, ⟨Cel.new _ _ _ 0 _ rfl, Cel.new _ _ _ 1 _ rfl, Cel.new _ _ _ 2 _ rfl, Cel.new _ _ _ 3 _ rfl, by decide, by decide, by decide, by decide⟩, by decide, by decide +kernel⟩
theorem MM.new {S : Nat → Nat → Prop} {w0 w : World} {l : List (Nat × EC.F)} (m : MM S w0 w l) (t : TypeId) : MM S w0 (w.alloc (.cells #[.int .u64 0, .int .u64 0, .int .u64 0, .int .u64 0] t)) (l ++ [(w.heap.size, 0)]) :=
  m.join ((Kp.refl _ _).alloc _) (Nat.le_refl _) (El.zero w t)
end Go.Proofs.Ytjdjhccefnffmaa
namespace Go.Proofs.Ytjdjhccefnffmaa
open Go LX Go.RowKit
/-- A pointer. -/
abbrev pt (b o : Nat) : Value := .pointer (some ⟨b, o, none⟩)
theorem MM.mul {S : Nat → Nat → Prop} {w0 w : World} {l : List (Nat × EC.F)} (m : MM S w0 w l) (i : Nat) {b q1 q2 r1 r2 : Nat} {x0 x y : EC.F} (h : l[i]? = some (b, x0)) (hx : El w q1 q2 x) (hy : El w r1 r2 y) :
    Calls Try.prog 67 #[pt b 0, pt q1 q2, pt r1 r2] w fun e w' => e = .returned (pt b 0) ∧ ∃ z, Hid (z = x * y) ∧ MM S w0 w' (l.set i (b, z)) :=
  (c67 (p := (b, 0)) (q := (q1, q2)) (r := (r1, r2)) (m.get i h).sp hx hy).mono fun _ _ ⟨e, hk, he⟩ => ⟨e, _, Lib.hid rfl, m.set i h hk he⟩
theorem MM.add {S : Nat → Nat → Prop} {w0 w : World} {l : List (Nat × EC.F)} (m : MM S w0 w l) (i : Nat) {b q1 q2 r1 r2 : Nat} {x0 x y : EC.F} (h : l[i]? = some (b, x0)) (hx : El w q1 q2 x) (hy : El w r1 r2 y) :
    Calls Try.prog 68 #[pt b 0, pt q1 q2, pt r1 r2] w fun e w' => e = .returned (pt b 0) ∧ ∃ z, Hid (z = x + y) ∧ MM S w0 w' (l.set i (b, z)) :=
  (c68 (p := (b, 0)) (q := (q1, q2)) (r := (r1, r2)) (m.get i h).sp hx hy).mono fun _ _ ⟨e, hk, he⟩ => ⟨e, _, Lib.hid rfl, m.set i h hk he⟩
theorem MM.sub {S : Nat → Nat → Prop} {w0 w : World} {l : List (Nat × EC.F)} (m : MM S w0 w l) (i : Nat) {b q1 q2 r1 r2 : Nat} {x0 x y : EC.F} (h : l[i]? = some (b, x0)) (hx : El w q1 q2 x) (hy : El w r1 r2 y) :
    Calls Try.prog 70 #[pt b 0, pt q1 q2, pt r1 r2] w fun e w' => e = .returned (pt b 0) ∧ ∃ z, Hid (z = x - y) ∧ MM S w0 w' (l.set i (b, z)) :=
  (c70 (p := (b, 0)) (q := (q1, q2)) (r := (r1, r2)) (m.get i h).sp hx hy).mono fun _ _ ⟨e, hk, he⟩ => ⟨e, _, Lib.hid rfl, m.set i h hk he⟩
theorem MM.sqr {S : Nat → Nat → Prop} {w0 w : World} {l : List (Nat × EC.F)} (m : MM S w0 w l) (i : Nat) {b q1 q2 : Nat} {x0 x : EC.F} (h : l[i]? = some (b, x0)) (hx : El w q1 q2 x) :
    Calls Try.prog 66 #[pt b 0, pt q1 q2] w fun e w' => e = .returned (pt b 0) ∧ ∃ z, Hid (z = x * x) ∧ MM S w0 w' (l.set i (b, z)) :=
  (c66 (p := (b, 0)) (q := (q1, q2)) (m.get i h).sp hx).mono fun _ _ ⟨e, hk, he⟩ => ⟨e, _, Lib.hid rfl, m.set i h hk he⟩
end Go.Proofs.Ytjdjhccefnffmaa

namespace Go.Proofs.Ytjdjhccefnffmaa
open Go LX Go.RowKit
theorem LX.Kp.wide {S T : Nat → Nat → Prop} {w w' : World} (h : Kp S w w') (hT : ∀ b o, b < w.heap.size → S b o → T b o) : Kp T w w' := (Kp.refl S w).trans h (fun _ _ hx hs => hT _ _ hx hs) hT
theorem MM.wide {S T : Nat → Nat → Prop} {w0 w : World} {l : List (Nat × EC.F)} (m : MM S w0 w l) (hT : ∀ b o, b < w0.heap.size → S b o → T b o) : MM T w0 w l := ⟨m.k.wide hT, m.el, m.sep⟩
/-- An old element is written. -/
theorem MM.wr {S : Nat → Nat → Prop} {w0 w w' : World} {l : List (Nat × EC.F)} (m : MM S w0 w l) {b o : Nat} (hb : b < w0.heap.size) (hS : ∀ i, i < 4 → S b (o + i)) (hk : Kp (at_ b o 4) w w') : MM S w0 w' l := by
  refine ⟨m.k.trans hk (fun _ _ _ h => h) (fun x j _ h => ?_), fun e he => ⟨(m.el e he).1, (m.el e he).2.kp hk fun i _ h => ?_⟩, m.sep⟩
  · obtain ⟨rfl, h1, h2⟩ := h
    have := hS (j - o) (by omega)
    rwa [show o + (j - o) = j by omega] at this
  · have := (m.el e he).1
    have := h.1
    omega
theorem El.cast {w : World} {b o : Nat} {x y : EC.F} (h : El w b o x) (e : x = y) : El w b o y := e ▸ h
/-- Three elements on end. -/
structure P3 (w : World) (b o : Nat) (X Y Z : EC.F) : Prop where
  x : El w b o X
  y : El w b (o + 4) Y
  z : El w b (o + 8) Z
structure S3 (w : World) (b o : Nat) : Prop where
  x : Sp w b o
  y : Sp w b (o + 4)
  z : Sp w b (o + 8)
theorem P3.sp {w : World} {b o : Nat} {X Y Z : EC.F} (h : P3 w b o X Y Z) : S3 w b o := ⟨h.x.sp, h.y.sp, h.z.sp⟩
theorem P3.kp {w w' : World} {b o : Nat} {X Y Z : EC.F} {S : Nat → Nat → Prop} (h : P3 w b o X Y Z) (hk : Kp S w w') (hS : ∀ i, i < 12 → ¬ S b (o + i)) : P3 w' b o X Y Z :=
  ⟨h.x.kp hk fun i hi => hS i (by omega), h.y.kp hk fun i hi => by rw [Nat.add_assoc]; exact hS _ (by omega), h.z.kp hk fun i hi => by rw [Nat.add_assoc]; exact hS _ (by omega)⟩
theorem P3.drew {w : World} {b o : Nat} {X Y Z : EC.F} (h : P3 w b o X Y Z) : P3 w.drew b o X Y Z := ⟨h.x.drew, h.y.drew, h.z.drew⟩
theorem Sp.kp {w w' : World} {b o : Nat} {S : Nat → Nat → Prop} (h : Sp w b o) (hk : Kp S w w') (hS : ∀ i, i < 4 → ¬ S b (o + i)) : Sp w' b o := by
  obtain ⟨_, _, _, _, h⟩ := h
  exact ⟨_, _, _, _, h.kp hk hS⟩
theorem Sp.drew {w : World} {b o : Nat} (h : Sp w b o) : Sp w.drew b o := by
  obtain ⟨_, _, _, _, h⟩ := h
  exact ⟨_, _, _, _, h.drew⟩
/-- Set of an old element to one of the new ones. -/
theorem MM.out {S : Nat → Nat → Prop} {w0 w : World} {l : List (Nat × EC.F)} (m : MM S w0 w l) (i : Nat) {b q o : Nat} {x : EC.F} (h : l[i]? = some (b, x)) (hq : Sp w q o) (hlt : q < w0.heap.size) (hS : ∀ i, i < 4 → S q (o + i)) :
    Calls Try.prog 71 #[pt q o, pt b 0] w fun e w' => e = .returned (pt q o) ∧ MM S w0 w' l ∧ Kp (at_ q o 4) w w' ∧ El w' q o x :=
  (c71 (p := (q, o)) (q := (b, 0)) hq (m.get i h)).mono fun _ _ ⟨e, hk, he⟩ => ⟨e, m.wr hlt hS hk, hk, he⟩
end Go.Proofs.Ytjdjhccefnffmaa
set_option maxRecDepth 100000
set_option maxHeartbeats 0
namespace Go.Proofs.Ytjdjhccefnffmaa
open Go LX
noncomputable def b95 : Code := match Try.f95.body with | some c => c | none => .skip
def d95 : List (Nat × FnS) := [(91, .bin .add .u64 (.s .u64 36) (.s .u64 90)), (90, .bin .add .u64 (.s .u64 37) (.s .u64 89)), (89, .bin .add .u64 (.s .u64 38) (.s .u64 88)), (88, .bin .add .u64 (.s .u64 39) (.s .u64 87)), (87, .bin .add .u64 (.s .u64 40) (.s .u64 86)), (86, .bin .add .u64 (.s .u64 41) (.s .u64 85)), (85, .bin .add .u64 (.s .u64 42) (.s .u64 24)), (84, .bin .add .u64 (.s .u64 43) (.s .u64 83)), (83, .bin .add .u64 (.s .u64 44) (.s .u64 82)), (82, .bin .add .u64 (.s .u64 45) (.s .u64 81)), (81, .bin .add .u64 (.s .u64 46) (.s .u64 80)), (80, .bin .add .u64 (.s .u64 47) (.s .u64 79)), (79, .bin .add .u64 (.s .u64 48) (.s .u64 78)), (78, .bin .add .u64 (.s .u64 49) (.s .u64 16)), (77, .bin .add .u64 (.s .u64 50) (.s .u64 76)), (76, .bin .add .u64 (.s .u64 51) (.s .u64 75)), (75, .bin .add .u64 (.s .u64 52) (.s .u64 74)), (74, .bin .add .u64 (.s .u64 53) (.s .u64 73)), (73, .bin .add .u64 (.s .u64 54) (.s .u64 72)), (72, .bin .add .u64 (.s .u64 55) (.s .u64 71)), (71, .bin .add .u64 (.s .u64 56) (.s .u64 8)), (70, .bin .add .u64 (.s .u64 57) (.s .u64 69)), (69, .bin .add .u64 (.s .u64 58) (.s .u64 68)), (68, .bin .add .u64 (.s .u64 59) (.s .u64 67)), (67, .bin .add .u64 (.s .u64 60) (.s .u64 66)), (66, .bin .add .u64 (.s .u64 61) (.s .u64 65)), (65, .bin .add .u64 (.s .u64 62) (.s .u64 64)), (64, .bin .add .u64 (.s .u64 63) (.s .u64 0)), (63, .bin .shl .u64 (.s .u64 1) (.k .u64 8)), (62, .bin .shl .u64 (.s .u64 2) (.k .u64 16)), (61, .bin .shl .u64 (.s .u64 3) (.k .u64 24)), (60, .bin .shl .u64 (.s .u64 4) (.k .u64 32)), (59, .bin .shl .u64 (.s .u64 5) (.k .u64 40)), (58, .bin .shl .u64 (.s .u64 6) (.k .u64 48)), (57, .bin .shl .u64 (.s .u64 7) (.k .u64 56)), (56, .bin .shl .u64 (.s .u64 9) (.k .u64 8)), (55, .bin .shl .u64 (.s .u64 10) (.k .u64 16)), (54, .bin .shl .u64 (.s .u64 11) (.k .u64 24)), (53, .bin .shl .u64 (.s .u64 12) (.k .u64 32)), (52, .bin .shl .u64 (.s .u64 13) (.k .u64 40)), (51, .bin .shl .u64 (.s .u64 14) (.k .u64 48)), (50, .bin .shl .u64 (.s .u64 15) (.k .u64 56)), (49, .bin .shl .u64 (.s .u64 17) (.k .u64 8)), (48, .bin .shl .u64 (.s .u64 18) (.k .u64 16)), (47, .bin .shl .u64 (.s .u64 19) (.k .u64 24)), (46, .bin .shl .u64 (.s .u64 20) (.k .u64 32)), (45, .bin .shl .u64 (.s .u64 21) (.k .u64 40)), (44, .bin .shl .u64 (.s .u64 22) (.k .u64 48)), (43, .bin .shl .u64 (.s .u64 23) (.k .u64 56)), (42, .bin .shl .u64 (.s .u64 25) (.k .u64 8)), (41, .bin .shl .u64 (.s .u64 26) (.k .u64 16)), (40, .bin .shl .u64 (.s .u64 27) (.k .u64 24)), (39, .bin .shl .u64 (.s .u64 28) (.k .u64 32)), (38, .bin .shl .u64 (.s .u64 29) (.k .u64 40)), (37, .bin .shl .u64 (.s .u64 30) (.k .u64 48)), (36, .bin .shl .u64 (.s .u64 31) (.k .u64 56))]
def o95 : List (Option SV) := [some (.s .u64 70), some (.s .u64 77), some (.s .u64 84), some (.s .u64 91)]
theorem run95 : outcome ⟨2, 4, 352⟩ (exec env ⟨2, 4, 352⟩ b95 stFrom) = some (d95, o95) := by kernel_rfl
theorem ord95 : orderly 36 d95 d95 = true := by decide +kernel
theorem sgl95 : single d95 = true := by decide +kernel
theorem ar95 {ρ : Nat → Nat} (hρ : Hold ρ d95) (l : ∀ i, i < 32 → ρ i < 256) : v4 (ρ 70) (ρ 77) (ρ 84) (ρ 91) = num8 ρ 32 := by
  have h91 := hρ.1; replace hρ := hρ.2
  have h90 := hρ.1; replace hρ := hρ.2
  have h89 := hρ.1; replace hρ := hρ.2
  have h88 := hρ.1; replace hρ := hρ.2
  have h87 := hρ.1; replace hρ := hρ.2
  have h86 := hρ.1; replace hρ := hρ.2
  have h85 := hρ.1; replace hρ := hρ.2
  have h84 := hρ.1; replace hρ := hρ.2
  have h83 := hρ.1; replace hρ := hρ.2
  have h82 := hρ.1; replace hρ := hρ.2
  have h81 := hρ.1; replace hρ := hρ.2
  have h80 := hρ.1; replace hρ := hρ.2
  have h79 := hρ.1; replace hρ := hρ.2
  have h78 := hρ.1; replace hρ := hρ.2
  have h77 := hρ.1; replace hρ := hρ.2
  have h76 := hρ.1; replace hρ := hρ.2
  have h75 := hρ.1; replace hρ := hρ.2
  have h74 := hρ.1; replace hρ := hρ.2
  have h73 := hρ.1; replace hρ := hρ.2
  have h72 := hρ.1; replace hρ := hρ.2
  have h71 := hρ.1; replace hρ := hρ.2
  have h70 := hρ.1; replace hρ := hρ.2
  have h69 := hρ.1; replace hρ := hρ.2
  have h68 := hρ.1; replace hρ := hρ.2
  have h67 := hρ.1; replace hρ := hρ.2
  have h66 := hρ.1; replace hρ := hρ.2
  have h65 := hρ.1; replace hρ := hρ.2
  have h64 := hρ.1; replace hρ := hρ.2
  have h63 := hρ.1; replace hρ := hρ.2
  have h62 := hρ.1; replace hρ := hρ.2
  have h61 := hρ.1; replace hρ := hρ.2
  have h60 := hρ.1; replace hρ := hρ.2
  have h59 := hρ.1; replace hρ := hρ.2
  have h58 := hρ.1; replace hρ := hρ.2
  have h57 := hρ.1; replace hρ := hρ.2
  have h56 := hρ.1; replace hρ := hρ.2
  have h55 := hρ.1; replace hρ := hρ.2
  have h54 := hρ.1; replace hρ := hρ.2
  have h53 := hρ.1; replace hρ := hρ.2
  have h52 := hρ.1; replace hρ := hρ.2
  have h51 := hρ.1; replace hρ := hρ.2
  have h50 := hρ.1; replace hρ := hρ.2
  have h49 := hρ.1; replace hρ := hρ.2
  have h48 := hρ.1; replace hρ := hρ.2
  have h47 := hρ.1; replace hρ := hρ.2
  have h46 := hρ.1; replace hρ := hρ.2
  have h45 := hρ.1; replace hρ := hρ.2
  have h44 := hρ.1; replace hρ := hρ.2
  have h43 := hρ.1; replace hρ := hρ.2
  have h42 := hρ.1; replace hρ := hρ.2
  have h41 := hρ.1; replace hρ := hρ.2
  have h40 := hρ.1; replace hρ := hρ.2
  have h39 := hρ.1; replace hρ := hρ.2
  have h38 := hρ.1; replace hρ := hρ.2
  have h37 := hρ.1; replace hρ := hρ.2
  have h36 := hρ.1; replace hρ := hρ.2
  clear hρ
  have b0 : ρ 0 ≤ 255 := Nat.le_of_lt_succ (l 0 (by omega))
  have b1 : ρ 1 ≤ 255 := Nat.le_of_lt_succ (l 1 (by omega))
  have b2 : ρ 2 ≤ 255 := Nat.le_of_lt_succ (l 2 (by omega))
  have b3 : ρ 3 ≤ 255 := Nat.le_of_lt_succ (l 3 (by omega))
  have b4 : ρ 4 ≤ 255 := Nat.le_of_lt_succ (l 4 (by omega))
  have b5 : ρ 5 ≤ 255 := Nat.le_of_lt_succ (l 5 (by omega))
  have b6 : ρ 6 ≤ 255 := Nat.le_of_lt_succ (l 6 (by omega))
  have b7 : ρ 7 ≤ 255 := Nat.le_of_lt_succ (l 7 (by omega))
  have b8 : ρ 8 ≤ 255 := Nat.le_of_lt_succ (l 8 (by omega))
  have b9 : ρ 9 ≤ 255 := Nat.le_of_lt_succ (l 9 (by omega))
  have b10 : ρ 10 ≤ 255 := Nat.le_of_lt_succ (l 10 (by omega))
  have b11 : ρ 11 ≤ 255 := Nat.le_of_lt_succ (l 11 (by omega))
  have b12 : ρ 12 ≤ 255 := Nat.le_of_lt_succ (l 12 (by omega))
  have b13 : ρ 13 ≤ 255 := Nat.le_of_lt_succ (l 13 (by omega))
  have b14 : ρ 14 ≤ 255 := Nat.le_of_lt_succ (l 14 (by omega))
  have b15 : ρ 15 ≤ 255 := Nat.le_of_lt_succ (l 15 (by omega))
  have b16 : ρ 16 ≤ 255 := Nat.le_of_lt_succ (l 16 (by omega))
  have b17 : ρ 17 ≤ 255 := Nat.le_of_lt_succ (l 17 (by omega))
  have b18 : ρ 18 ≤ 255 := Nat.le_of_lt_succ (l 18 (by omega))
  have b19 : ρ 19 ≤ 255 := Nat.le_of_lt_succ (l 19 (by omega))
  have b20 : ρ 20 ≤ 255 := Nat.le_of_lt_succ (l 20 (by omega))
  have b21 : ρ 21 ≤ 255 := Nat.le_of_lt_succ (l 21 (by omega))
  have b22 : ρ 22 ≤ 255 := Nat.le_of_lt_succ (l 22 (by omega))
  have b23 : ρ 23 ≤ 255 := Nat.le_of_lt_succ (l 23 (by omega))
  have b24 : ρ 24 ≤ 255 := Nat.le_of_lt_succ (l 24 (by omega))
  have b25 : ρ 25 ≤ 255 := Nat.le_of_lt_succ (l 25 (by omega))
  have b26 : ρ 26 ≤ 255 := Nat.le_of_lt_succ (l 26 (by omega))
  have b27 : ρ 27 ≤ 255 := Nat.le_of_lt_succ (l 27 (by omega))
  have b28 : ρ 28 ≤ 255 := Nat.le_of_lt_succ (l 28 (by omega))
  have b29 : ρ 29 ≤ 255 := Nat.le_of_lt_succ (l 29 (by omega))
  have b30 : ρ 30 ≤ 255 := Nat.le_of_lt_succ (l 30 (by omega))
  have b31 : ρ 31 ≤ 255 := Nat.le_of_lt_succ (l 31 (by omega))
  have e36 : ρ 36 = 72057594037927936 * ρ 31 := by rw [show ρ 36 = ρ 31 * 2 ^ 56 % 2 ^ Go.IntKind.u64.bits from h36]; exact shl_u64 _ 56 _ (l 31 (by omega)) (by decide) (by decide)
  have b36 : ρ 36 ≤ 18374686479671623680 := by rw [e36]; exact Nat.mul_le_mul_left 72057594037927936 b31
  have e37 : ρ 37 = 281474976710656 * ρ 30 := by rw [show ρ 37 = ρ 30 * 2 ^ 48 % 2 ^ Go.IntKind.u64.bits from h37]; exact shl_u64 _ 48 _ (l 30 (by omega)) (by decide) (by decide)
  have b37 : ρ 37 ≤ 71776119061217280 := by rw [e37]; exact Nat.mul_le_mul_left 281474976710656 b30
  have e38 : ρ 38 = 1099511627776 * ρ 29 := by rw [show ρ 38 = ρ 29 * 2 ^ 40 % 2 ^ Go.IntKind.u64.bits from h38]; exact shl_u64 _ 40 _ (l 29 (by omega)) (by decide) (by decide)
  have b38 : ρ 38 ≤ 280375465082880 := by rw [e38]; exact Nat.mul_le_mul_left 1099511627776 b29
  have e39 : ρ 39 = 4294967296 * ρ 28 := by rw [show ρ 39 = ρ 28 * 2 ^ 32 % 2 ^ Go.IntKind.u64.bits from h39]; exact shl_u64 _ 32 _ (l 28 (by omega)) (by decide) (by decide)
  have b39 : ρ 39 ≤ 1095216660480 := by rw [e39]; exact Nat.mul_le_mul_left 4294967296 b28
  have e40 : ρ 40 = 16777216 * ρ 27 := by rw [show ρ 40 = ρ 27 * 2 ^ 24 % 2 ^ Go.IntKind.u64.bits from h40]; exact shl_u64 _ 24 _ (l 27 (by omega)) (by decide) (by decide)
  have b40 : ρ 40 ≤ 4278190080 := by rw [e40]; exact Nat.mul_le_mul_left 16777216 b27
  have e41 : ρ 41 = 65536 * ρ 26 := by rw [show ρ 41 = ρ 26 * 2 ^ 16 % 2 ^ Go.IntKind.u64.bits from h41]; exact shl_u64 _ 16 _ (l 26 (by omega)) (by decide) (by decide)
  have b41 : ρ 41 ≤ 16711680 := by rw [e41]; exact Nat.mul_le_mul_left 65536 b26
  have e42 : ρ 42 = 256 * ρ 25 := by rw [show ρ 42 = ρ 25 * 2 ^ 8 % 2 ^ Go.IntKind.u64.bits from h42]; exact shl_u64 _ 8 _ (l 25 (by omega)) (by decide) (by decide)
  have b42 : ρ 42 ≤ 65280 := by rw [e42]; exact Nat.mul_le_mul_left 256 b25
  have e43 : ρ 43 = 72057594037927936 * ρ 23 := by rw [show ρ 43 = ρ 23 * 2 ^ 56 % 2 ^ Go.IntKind.u64.bits from h43]; exact shl_u64 _ 56 _ (l 23 (by omega)) (by decide) (by decide)
  have b43 : ρ 43 ≤ 18374686479671623680 := by rw [e43]; exact Nat.mul_le_mul_left 72057594037927936 b23
  have e44 : ρ 44 = 281474976710656 * ρ 22 := by rw [show ρ 44 = ρ 22 * 2 ^ 48 % 2 ^ Go.IntKind.u64.bits from h44]; exact shl_u64 _ 48 _ (l 22 (by omega)) (by decide) (by decide)
  have b44 : ρ 44 ≤ 71776119061217280 := by rw [e44]; exact Nat.mul_le_mul_left 281474976710656 b22
  have e45 : ρ 45 = 1099511627776 * ρ 21 := by rw [show ρ 45 = ρ 21 * 2 ^ 40 % 2 ^ Go.IntKind.u64.bits from h45]; exact shl_u64 _ 40 _ (l 21 (by omega)) (by decide) (by decide)
  have b45 : ρ 45 ≤ 280375465082880 := by rw [e45]; exact Nat.mul_le_mul_left 1099511627776 b21
  have e46 : ρ 46 = 4294967296 * ρ 20 := by rw [show ρ 46 = ρ 20 * 2 ^ 32 % 2 ^ Go.IntKind.u64.bits from h46]; exact shl_u64 _ 32 _ (l 20 (by omega)) (by decide) (by decide)
  have b46 : ρ 46 ≤ 1095216660480 := by rw [e46]; exact Nat.mul_le_mul_left 4294967296 b20
  have e47 : ρ 47 = 16777216 * ρ 19 := by rw [show ρ 47 = ρ 19 * 2 ^ 24 % 2 ^ Go.IntKind.u64.bits from h47]; exact shl_u64 _ 24 _ (l 19 (by omega)) (by decide) (by decide)
  have b47 : ρ 47 ≤ 4278190080 := by rw [e47]; exact Nat.mul_le_mul_left 16777216 b19
  have e48 : ρ 48 = 65536 * ρ 18 := by rw [show ρ 48 = ρ 18 * 2 ^ 16 % 2 ^ Go.IntKind.u64.bits from h48]; exact shl_u64 _ 16 _ (l 18 (by omega)) (by decide) (by decide)
  have b48 : ρ 48 ≤ 16711680 := by rw [e48]; exact Nat.mul_le_mul_left 65536 b18
  have e49 : ρ 49 = 256 * ρ 17 := by rw [show ρ 49 = ρ 17 * 2 ^ 8 % 2 ^ Go.IntKind.u64.bits from h49]; exact shl_u64 _ 8 _ (l 17 (by omega)) (by decide) (by decide)
  have b49 : ρ 49 ≤ 65280 := by rw [e49]; exact Nat.mul_le_mul_left 256 b17
  have e50 : ρ 50 = 72057594037927936 * ρ 15 := by rw [show ρ 50 = ρ 15 * 2 ^ 56 % 2 ^ Go.IntKind.u64.bits from h50]; exact shl_u64 _ 56 _ (l 15 (by omega)) (by decide) (by decide)
  have b50 : ρ 50 ≤ 18374686479671623680 := by rw [e50]; exact Nat.mul_le_mul_left 72057594037927936 b15
  have e51 : ρ 51 = 281474976710656 * ρ 14 := by rw [show ρ 51 = ρ 14 * 2 ^ 48 % 2 ^ Go.IntKind.u64.bits from h51]; exact shl_u64 _ 48 _ (l 14 (by omega)) (by decide) (by decide)
  have b51 : ρ 51 ≤ 71776119061217280 := by rw [e51]; exact Nat.mul_le_mul_left 281474976710656 b14
  have e52 : ρ 52 = 1099511627776 * ρ 13 := by rw [show ρ 52 = ρ 13 * 2 ^ 40 % 2 ^ Go.IntKind.u64.bits from h52]; exact shl_u64 _ 40 _ (l 13 (by omega)) (by decide) (by decide)
  have b52 : ρ 52 ≤ 280375465082880 := by rw [e52]; exact Nat.mul_le_mul_left 1099511627776 b13
  have e53 : ρ 53 = 4294967296 * ρ 12 := by rw [show ρ 53 = ρ 12 * 2 ^ 32 % 2 ^ Go.IntKind.u64.bits from h53]; exact shl_u64 _ 32 _ (l 12 (by omega)) (by decide) (by decide)
  have b53 : ρ 53 ≤ 1095216660480 := by rw [e53]; exact Nat.mul_le_mul_left 4294967296 b12
  have e54 : ρ 54 = 16777216 * ρ 11 := by rw [show ρ 54 = ρ 11 * 2 ^ 24 % 2 ^ Go.IntKind.u64.bits from h54]; exact shl_u64 _ 24 _ (l 11 (by omega)) (by decide) (by decide)
  have b54 : ρ 54 ≤ 4278190080 := by rw [e54]; exact Nat.mul_le_mul_left 16777216 b11
  have e55 : ρ 55 = 65536 * ρ 10 := by rw [show ρ 55 = ρ 10 * 2 ^ 16 % 2 ^ Go.IntKind.u64.bits from h55]; exact shl_u64 _ 16 _ (l 10 (by omega)) (by decide) (by decide)
  have b55 : ρ 55 ≤ 16711680 := by rw [e55]; exact Nat.mul_le_mul_left 65536 b10
  have e56 : ρ 56 = 256 * ρ 9 := by rw [show ρ 56 = ρ 9 * 2 ^ 8 % 2 ^ Go.IntKind.u64.bits from h56]; exact shl_u64 _ 8 _ (l 9 (by omega)) (by decide) (by decide)
  have b56 : ρ 56 ≤ 65280 := by rw [e56]; exact Nat.mul_le_mul_left 256 b9
  have e57 : ρ 57 = 72057594037927936 * ρ 7 := by rw [show ρ 57 = ρ 7 * 2 ^ 56 % 2 ^ Go.IntKind.u64.bits from h57]; exact shl_u64 _ 56 _ (l 7 (by omega)) (by decide) (by decide)
  have b57 : ρ 57 ≤ 18374686479671623680 := by rw [e57]; exact Nat.mul_le_mul_left 72057594037927936 b7
  have e58 : ρ 58 = 281474976710656 * ρ 6 := by rw [show ρ 58 = ρ 6 * 2 ^ 48 % 2 ^ Go.IntKind.u64.bits from h58]; exact shl_u64 _ 48 _ (l 6 (by omega)) (by decide) (by decide)
  have b58 : ρ 58 ≤ 71776119061217280 := by rw [e58]; exact Nat.mul_le_mul_left 281474976710656 b6
  have e59 : ρ 59 = 1099511627776 * ρ 5 := by rw [show ρ 59 = ρ 5 * 2 ^ 40 % 2 ^ Go.IntKind.u64.bits from h59]; exact shl_u64 _ 40 _ (l 5 (by omega)) (by decide) (by decide)
  have b59 : ρ 59 ≤ 280375465082880 := by rw [e59]; exact Nat.mul_le_mul_left 1099511627776 b5
  have e60 : ρ 60 = 4294967296 * ρ 4 := by rw [show ρ 60 = ρ 4 * 2 ^ 32 % 2 ^ Go.IntKind.u64.bits from h60]; exact shl_u64 _ 32 _ (l 4 (by omega)) (by decide) (by decide)
  have b60 : ρ 60 ≤ 1095216660480 := by rw [e60]; exact Nat.mul_le_mul_left 4294967296 b4
  have e61 : ρ 61 = 16777216 * ρ 3 := by rw [show ρ 61 = ρ 3 * 2 ^ 24 % 2 ^ Go.IntKind.u64.bits from h61]; exact shl_u64 _ 24 _ (l 3 (by omega)) (by decide) (by decide)
  have b61 : ρ 61 ≤ 4278190080 := by rw [e61]; exact Nat.mul_le_mul_left 16777216 b3
  have e62 : ρ 62 = 65536 * ρ 2 := by rw [show ρ 62 = ρ 2 * 2 ^ 16 % 2 ^ Go.IntKind.u64.bits from h62]; exact shl_u64 _ 16 _ (l 2 (by omega)) (by decide) (by decide)
  have b62 : ρ 62 ≤ 16711680 := by rw [e62]; exact Nat.mul_le_mul_left 65536 b2
  have e63 : ρ 63 = 256 * ρ 1 := by rw [show ρ 63 = ρ 1 * 2 ^ 8 % 2 ^ Go.IntKind.u64.bits from h63]; exact shl_u64 _ 8 _ (l 1 (by omega)) (by decide) (by decide)
  have b63 : ρ 63 ≤ 65280 := by rw [e63]; exact Nat.mul_le_mul_left 256 b1
  have e64 : ρ 64 = ρ 63 + ρ 0 := plnE h64 b63 b0 (by decide)
  have b64 : ρ 64 ≤ 65535 := plnB e64 b63 b0 _ (by decide)
  have e65 : ρ 65 = ρ 62 + ρ 64 := plnE h65 b62 b64 (by decide)
  have b65 : ρ 65 ≤ 16777215 := plnB e65 b62 b64 _ (by decide)
  have e66 : ρ 66 = ρ 61 + ρ 65 := plnE h66 b61 b65 (by decide)
  have b66 : ρ 66 ≤ 4294967295 := plnB e66 b61 b65 _ (by decide)
  have e67 : ρ 67 = ρ 60 + ρ 66 := plnE h67 b60 b66 (by decide)
  have b67 : ρ 67 ≤ 1099511627775 := plnB e67 b60 b66 _ (by decide)
  have e68 : ρ 68 = ρ 59 + ρ 67 := plnE h68 b59 b67 (by decide)
  have b68 : ρ 68 ≤ 281474976710655 := plnB e68 b59 b67 _ (by decide)
  have e69 : ρ 69 = ρ 58 + ρ 68 := plnE h69 b58 b68 (by decide)
  have b69 : ρ 69 ≤ 72057594037927935 := plnB e69 b58 b68 _ (by decide)
  have e70 : ρ 70 = ρ 57 + ρ 69 := plnE h70 b57 b69 (by decide)
  have b70 : ρ 70 ≤ 18446744073709551615 := plnB e70 b57 b69 _ (by decide)
  have e71 : ρ 71 = ρ 56 + ρ 8 := plnE h71 b56 b8 (by decide)
  have b71 : ρ 71 ≤ 65535 := plnB e71 b56 b8 _ (by decide)
  have e72 : ρ 72 = ρ 55 + ρ 71 := plnE h72 b55 b71 (by decide)
  have b72 : ρ 72 ≤ 16777215 := plnB e72 b55 b71 _ (by decide)
  have e73 : ρ 73 = ρ 54 + ρ 72 := plnE h73 b54 b72 (by decide)
  have b73 : ρ 73 ≤ 4294967295 := plnB e73 b54 b72 _ (by decide)
  have e74 : ρ 74 = ρ 53 + ρ 73 := plnE h74 b53 b73 (by decide)
  have b74 : ρ 74 ≤ 1099511627775 := plnB e74 b53 b73 _ (by decide)
  have e75 : ρ 75 = ρ 52 + ρ 74 := plnE h75 b52 b74 (by decide)
  have b75 : ρ 75 ≤ 281474976710655 := plnB e75 b52 b74 _ (by decide)
  have e76 : ρ 76 = ρ 51 + ρ 75 := plnE h76 b51 b75 (by decide)
  have b76 : ρ 76 ≤ 72057594037927935 := plnB e76 b51 b75 _ (by decide)
  have e77 : ρ 77 = ρ 50 + ρ 76 := plnE h77 b50 b76 (by decide)
  have b77 : ρ 77 ≤ 18446744073709551615 := plnB e77 b50 b76 _ (by decide)
  have e78 : ρ 78 = ρ 49 + ρ 16 := plnE h78 b49 b16 (by decide)
  have b78 : ρ 78 ≤ 65535 := plnB e78 b49 b16 _ (by decide)
  have e79 : ρ 79 = ρ 48 + ρ 78 := plnE h79 b48 b78 (by decide)
  have b79 : ρ 79 ≤ 16777215 := plnB e79 b48 b78 _ (by decide)
  have e80 : ρ 80 = ρ 47 + ρ 79 := plnE h80 b47 b79 (by decide)
  have b80 : ρ 80 ≤ 4294967295 := plnB e80 b47 b79 _ (by decide)
  have e81 : ρ 81 = ρ 46 + ρ 80 := plnE h81 b46 b80 (by decide)
  have b81 : ρ 81 ≤ 1099511627775 := plnB e81 b46 b80 _ (by decide)
  have e82 : ρ 82 = ρ 45 + ρ 81 := plnE h82 b45 b81 (by decide)
  have b82 : ρ 82 ≤ 281474976710655 := plnB e82 b45 b81 _ (by decide)
  have e83 : ρ 83 = ρ 44 + ρ 82 := plnE h83 b44 b82 (by decide)
  have b83 : ρ 83 ≤ 72057594037927935 := plnB e83 b44 b82 _ (by decide)
  have e84 : ρ 84 = ρ 43 + ρ 83 := plnE h84 b43 b83 (by decide)
  have b84 : ρ 84 ≤ 18446744073709551615 := plnB e84 b43 b83 _ (by decide)
  have e85 : ρ 85 = ρ 42 + ρ 24 := plnE h85 b42 b24 (by decide)
  have b85 : ρ 85 ≤ 65535 := plnB e85 b42 b24 _ (by decide)
  have e86 : ρ 86 = ρ 41 + ρ 85 := plnE h86 b41 b85 (by decide)
  have b86 : ρ 86 ≤ 16777215 := plnB e86 b41 b85 _ (by decide)
  have e87 : ρ 87 = ρ 40 + ρ 86 := plnE h87 b40 b86 (by decide)
  have b87 : ρ 87 ≤ 4294967295 := plnB e87 b40 b86 _ (by decide)
  have e88 : ρ 88 = ρ 39 + ρ 87 := plnE h88 b39 b87 (by decide)
  have b88 : ρ 88 ≤ 1099511627775 := plnB e88 b39 b87 _ (by decide)
  have e89 : ρ 89 = ρ 38 + ρ 88 := plnE h89 b38 b88 (by decide)
  have b89 : ρ 89 ≤ 281474976710655 := plnB e89 b38 b88 _ (by decide)
  have e90 : ρ 90 = ρ 37 + ρ 89 := plnE h90 b37 b89 (by decide)
  have b90 : ρ 90 ≤ 72057594037927935 := plnB e90 b37 b89 _ (by decide)
  have e91 : ρ 91 = ρ 36 + ρ 90 := plnE h91 b36 b90 (by decide)
  have b91 : ρ 91 ≤ 18446744073709551615 := plnB e91 b36 b90 _ (by decide)
  have q0 : ρ 0 + 256 * (ρ 1 + 256 * (ρ 2 + 256 * (ρ 3 + 256 * (ρ 4 + 256 * (ρ 5 + 256 * (ρ 6 + 256 * ρ 7)))))) = ρ 70 := by
    rw [e70, e57, e69, e58, e68, e59, e67, e60, e66, e61, e65, e62, e64, e63]
    exact horner8 _ _ _ _ _ _ _ _
  have q1 : ρ 8 + 256 * (ρ 9 + 256 * (ρ 10 + 256 * (ρ 11 + 256 * (ρ 12 + 256 * (ρ 13 + 256 * (ρ 14 + 256 * ρ 15)))))) = ρ 77 := by
    rw [e77, e50, e76, e51, e75, e52, e74, e53, e73, e54, e72, e55, e71, e56]
    exact horner8 _ _ _ _ _ _ _ _
  have q2 : ρ 16 + 256 * (ρ 17 + 256 * (ρ 18 + 256 * (ρ 19 + 256 * (ρ 20 + 256 * (ρ 21 + 256 * (ρ 22 + 256 * ρ 23)))))) = ρ 84 := by
    rw [e84, e43, e83, e44, e82, e45, e81, e46, e80, e47, e79, e48, e78, e49]
    exact horner8 _ _ _ _ _ _ _ _
  have q3 : ρ 24 + 256 * (ρ 25 + 256 * (ρ 26 + 256 * (ρ 27 + 256 * (ρ 28 + 256 * (ρ 29 + 256 * (ρ 30 + 256 * ρ 31)))))) = ρ 91 := by
    rw [e91, e36, e90, e37, e89, e38, e88, e39, e87, e40, e86, e41, e85, e42]
    exact horner8 _ _ _ _ _ _ _ _
  exact (num8_32 q0 q1 q2 q3).symm
/-- p256FromBytes. -/
theorem c95 {w : World} {p q : Nat × Nat} {z0 z1 z2 z3 : Nat} {f : Nat → Nat} (wz : W4 w p.1 p.2 z0 z1 z2 z3) (wx : By w q.1 q.2 32 f) :
    Calls Try.prog 95 #[ptr p, ptr q] w fun e w' => e = .returned (.tuple #[]) ∧ Kp (at_ p.1 p.2 4) w w' ∧ ∃ r0 r1 r2 r3, W4 w' p.1 p.2 r0 r1 r2 r3 ∧ v4 r0 r1 r2 r3 = num8 f 32 := by
  refine (leaf_call (E := env) (c := ⟨2, 4, 352⟩) (ext := ext2 p q) (ρ0 := inF z0 z1 z2 z3 f) (n := 36) env_holds (by show 0 < 2; omega) Try.func95 (b := b95) (by kernel_rfl) (by kernel_rfl) run95 ord95 sgl95 (fun ρ h => ?_)).mono ?_
  · rw [Try.ntmps95]
    exact relF (by omega) wz wx h
  · rintro e w' ⟨rfl, ρ, h1, h2, hk, hv⟩
    have hf : ∀ i, i < 32 → ρ i = f i := fun i hi => by rw [h1 i (by omega)]; unfold inF; rw [if_pos hi]
    refine ⟨rfl, hk, _, _, _, _, w4_out hv rfl rfl rfl rfl, ?_⟩
    rw [ar95 h2.hold (fun i hi => by rw [hf i hi]; exact (wx i hi).2)]
    exact num8_congr hf

end Go.Proofs.Ytjdjhccefnffmaa
