import Derived.Test.YtjdjhccefnffmaaB03
set_option linter.unusedVariables false
set_option linter.unusedSimpArgs false
namespace Go.Proofs.Ytjdjhccefnffmaa
namespace EC
def P : Nat := 0xffffffff00000001000000000000000000000000ffffffffffffffffffffffff
instance : NeZero P := ⟨by decide⟩
abbrev F := Fin P

structure Ops (C : Type) where
  add : C → C → C
  mul : C → C → C
  num : Int → C

inductive Ex where
  | var (i : Nat)
  | num (n : Int)
  | add (a b : Ex)
  | mul (a b : Ex)

def Ex.at {C : Type} (o : Ops C) (v : Nat → C) : Ex → C
  | .var i => v i
  | .num n => o.num n
  | .add a b => o.add (a.at o v) (b.at o v)
  | .mul a b => o.mul (a.at o v) (b.at o v)

structure Rel {C D : Type} (o : Ops C) (o' : Ops D) (R : C → D → Prop) : Prop where
  add : ∀ {a a' b b'}, R a a' → R b b' → R (o.add a b) (o'.add a' b')
  mul : ∀ {a a' b b'}, R a a' → R b b' → R (o.mul a b) (o'.mul a' b')
  num : ∀ n, R (o.num n) (o'.num n)

theorem Rel.at {C D : Type} {o : Ops C} {o' : Ops D} {R : C → D → Prop} (h : Rel o o' R) {v : Nat → C} {v' : Nat → D} (hv : ∀ i, R (v i) (v' i)) :
    ∀ e : Ex, R (e.at o v) (e.at o' v')
  | .var i => hv i
  | .num n => h.num n
  | .add a b => h.add (Rel.at h hv a) (Rel.at h hv b)
  | .mul a b => h.mul (Rel.at h hv a) (Rel.at h hv b)

def quad {C : Type} (o : Ops C) (f : C) : Ops (C × C) where
  add a b := (o.add a.1 b.1, o.add a.2 b.2)
  mul a b := (o.add (o.mul a.1 b.1) (o.mul f (o.mul a.2 b.2)), o.add (o.mul a.1 b.2) (o.mul a.2 b.1))
  num n := (o.num n, o.num 0)

theorem Rel.qd {C D : Type} {o : Ops C} {o' : Ops D} {R : C → D → Prop} (h : Rel o o' R) {f : C} {f' : D} (hf : R f f') :
    Rel (quad o f) (quad o' f') (fun a b => R a.1 b.1 ∧ R a.2 b.2) where
  add ha hb := ⟨h.add ha.1 hb.1, h.add ha.2 hb.2⟩
  mul ha hb := ⟨h.add (h.mul ha.1 hb.1) (h.mul hf (h.mul ha.2 hb.2)), h.add (h.mul ha.1 hb.2) (h.mul ha.2 hb.1)⟩
  num n := ⟨h.num n, h.num 0⟩

def intOps : Ops Int := ⟨(· + ·), (· * ·), id⟩
def natOps : Ops Nat := ⟨(· + ·), (· * ·), Int.natAbs⟩

def toF (z : Int) : F := ⟨(z % P).toNat, by have : (0 : Int) < P := by decide
                                            have := Int.emod_lt_of_pos z this; have := Int.emod_nonneg z (b := (P : Int)) (by decide); omega⟩

def fOps : Ops F := ⟨(· + ·), (· * ·), toF⟩

theorem toF_add (a b : Int) : toF (a + b) = toF a + toF b := by
  apply Fin.ext
  have hp : (0 : Int) < P := by decide
  have h1 := Int.emod_nonneg a (b := (P : Int)) (by decide)
  have h2 := Int.emod_nonneg b (b := (P : Int)) (by decide)
  have h3 := Int.emod_nonneg (a + b) (b := (P : Int)) (by decide)
  simp only [toF, Fin.val_add]
  apply Int.ofNat.inj
  simp only [Int.ofNat_eq_natCast, Int.natCast_emod, Int.natCast_add, Int.toNat_of_nonneg h1, Int.toNat_of_nonneg h2, Int.toNat_of_nonneg h3]
  rw [Int.emod_add_emod, Int.add_emod_emod]

theorem toF_mul (a b : Int) : toF (a * b) = toF a * toF b := by
  apply Fin.ext
  have h1 := Int.emod_nonneg a (b := (P : Int)) (by decide)
  have h2 := Int.emod_nonneg b (b := (P : Int)) (by decide)
  have h3 := Int.emod_nonneg (a * b) (b := (P : Int)) (by decide)
  simp only [toF, Fin.val_mul]
  apply Int.ofNat.inj
  simp only [Int.ofNat_eq_natCast, Int.natCast_emod, Int.natCast_mul, Int.toNat_of_nonneg h1, Int.toNat_of_nonneg h2, Int.toNat_of_nonneg h3]
  rw [← Int.mul_emod]

/-- Polynomials over C: the lowest coefficient first. -/
def addL {C : Type} (o : Ops C) : List C → List C → List C
  | [], b => b
  | a, [] => a
  | x :: a, y :: b => o.add x y :: addL o a b

def mulL {C : Type} (o : Ops C) : List C → List C → List C
  | [], _ => []
  | x :: a, b => addL o (b.map (o.mul x)) (o.num 0 :: mulL o a b)

def poly {C : Type} (o : Ops C) : Ops (List C) where
  add := addL o
  mul := mulL o
  num n := [o.num n]

def evF {C : Type} (ev : C → F) (t : F) : List C → F
  | [] => 0
  | x :: a => ev x + t * evF ev t a

def evZ {C : Type} (ev : C → Int) (t : Int) : List C → Int
  | [] => 0
  | x :: a => ev x + t * evZ ev t a

def evN {C : Type} (ev : C → Nat) (t : Nat) : List C → Nat
  | [] => 0
  | x :: a => ev x + t * evN ev t a

section
variable {C : Type} {o : Ops C}
theorem evF_add {ev : C → F} (h : Rel o fOps fun c z => ev c = z) (t : F) : ∀ a b : List C, evF ev t (addL o a b) = evF ev t a + evF ev t b
  | [], b => by simp [addL, evF]
  | x :: a, [] => by simp [addL, evF]
  | x :: a, y :: b => by
    have h1 := h.add (a := x) (b := y) rfl rfl
    simp only [addL, evF, evF_add h t a b, h1]; show (ev x + ev y) + _ = _; grind
theorem evF_scale {ev : C → F} (h : Rel o fOps fun c z => ev c = z) (t : F) (x : C) : ∀ b : List C, evF ev t (b.map (o.mul x)) = ev x * evF ev t b
  | [] => by simp only [List.map_nil, evF]; grind
  | y :: b => by
    have h1 := h.mul (a := x) (b := y) rfl rfl
    simp only [List.map_cons, evF, evF_scale h t x b, h1]; show (ev x * ev y) + _ = _; grind
theorem toF_zero : toF 0 = 0 := rfl
theorem evF_mul {ev : C → F} (h : Rel o fOps fun c z => ev c = z) (t : F) : ∀ a b : List C, evF ev t (mulL o a b) = evF ev t a * evF ev t b
  | [], b => by simp only [mulL, evF]; grind
  | x :: a, b => by
    have h1 : ev (o.num 0) = 0 := h.num 0
    simp only [mulL, evF_add h, evF_scale h, evF, evF_mul h t a b, h1]; grind
theorem Rel.polyF {ev : C → F} (h : Rel o fOps fun c z => ev c = z) (t : F) : Rel (poly o) fOps fun c z => evF ev t c = z where
  add ha hb := by subst ha; subst hb; exact evF_add h t _ _
  mul ha hb := by subst ha; subst hb; exact evF_mul h t _ _
  num n := by
    have h1 : ev (o.num n) = toF n := h.num n
    show ev (o.num n) + t * 0 = toF n; rw [h1]; grind

theorem evZ_add {ev : C → Int} (h : Rel o intOps fun c z => ev c = z) (t : Int) : ∀ a b : List C, evZ ev t (addL o a b) = evZ ev t a + evZ ev t b
  | [], b => by simp [addL, evZ]
  | x :: a, [] => by simp [addL, evZ]
  | x :: a, y :: b => by
    have h1 := h.add (a := x) (b := y) rfl rfl
    simp only [addL, evZ, evZ_add h t a b, h1]; show (ev x + ev y) + _ = _; grind
theorem evZ_scale {ev : C → Int} (h : Rel o intOps fun c z => ev c = z) (t : Int) (x : C) : ∀ b : List C, evZ ev t (b.map (o.mul x)) = ev x * evZ ev t b
  | [] => by simp [evZ]
  | y :: b => by
    have h1 := h.mul (a := x) (b := y) rfl rfl
    simp only [List.map_cons, evZ, evZ_scale h t x b, h1]; show (ev x * ev y) + _ = _; grind
theorem evZ_mul {ev : C → Int} (h : Rel o intOps fun c z => ev c = z) (t : Int) : ∀ a b : List C, evZ ev t (mulL o a b) = evZ ev t a * evZ ev t b
  | [], b => by simp [mulL, evZ]
  | x :: a, b => by
    have h1 : ev (o.num 0) = 0 := h.num 0
    simp only [mulL, evZ_add h, evZ_scale h, evZ, evZ_mul h t a b, h1]; grind
theorem Rel.polyZ {ev : C → Int} (h : Rel o intOps fun c z => ev c = z) (t : Int) : Rel (poly o) intOps fun c z => evZ ev t c = z where
  add ha hb := by subst ha; subst hb; exact evZ_add h t _ _
  mul ha hb := by subst ha; subst hb; exact evZ_mul h t _ _
  num n := by
    have h1 : ev (o.num n) = n := h.num n
    show ev (o.num n) + t * 0 = n; rw [h1]; grind

theorem evN_add {ev : C → Nat} (h : Rel o natOps fun c z => ev c ≤ z) (t : Nat) : ∀ a b : List C, evN ev t (addL o a b) ≤ evN ev t a + evN ev t b
  | [], b => by simp [addL, evN]
  | x :: a, [] => by simp [addL, evN]
  | x :: a, y :: b => by
    have h1 : ev (o.add x y) ≤ ev x + ev y := h.add (Nat.le_refl _) (Nat.le_refl _)
    have h2 := Nat.mul_le_mul_left t (evN_add h t a b)
    simp only [addL, evN]; rw [Nat.mul_add] at h2; omega
theorem evN_scale {ev : C → Nat} (h : Rel o natOps fun c z => ev c ≤ z) (t : Nat) (x : C) : ∀ b : List C, evN ev t (b.map (o.mul x)) ≤ ev x * evN ev t b
  | [] => by simp [evN]
  | y :: b => by
    have h1 : ev (o.mul x y) ≤ ev x * ev y := h.mul (Nat.le_refl _) (Nat.le_refl _)
    have h2 := Nat.mul_le_mul_left t (evN_scale h t x b)
    simp only [List.map_cons, evN]; rw [Nat.mul_left_comm] at h2; rw [Nat.mul_add]; omega
theorem evN_mul {ev : C → Nat} (h : Rel o natOps fun c z => ev c ≤ z) (t : Nat) : ∀ a b : List C, evN ev t (mulL o a b) ≤ evN ev t a * evN ev t b
  | [], b => by simp [mulL, evN]
  | x :: a, b => by
    have h1 : ev (o.num 0) ≤ 0 := h.num 0
    have h2 := evN_add h t (b.map (o.mul x)) (o.num 0 :: mulL o a b)
    have h3 := evN_scale h t x b
    have h4 := Nat.mul_le_mul_left t (evN_mul h t a b)
    simp only [evN] at h2
    simp only [mulL, evN]
    rw [Nat.add_mul, Nat.mul_assoc]; omega
theorem Rel.polyN {ev : C → Nat} (h : Rel o natOps fun c z => ev c ≤ z) (t : Nat) : Rel (poly o) natOps fun c z => evN ev t c ≤ z where
  add ha hb := Nat.le_trans (evN_add h t _ _) (Nat.add_le_add ha hb)
  mul ha hb := Nat.le_trans (evN_mul h t _ _) (Nat.mul_le_mul ha hb)
  num n := by
    have h1 : ev (o.num n) ≤ n.natAbs := h.num n
    show ev (o.num n) + t * 0 ≤ n.natAbs; omega
end

/-- Polynomials in k variables. -/
def MP : Nat → Type
  | 0 => Int
  | k + 1 => List (MP k)
def mops : (k : Nat) → Ops (MP k)
  | 0 => intOps
  | k + 1 => poly (mops k)
def mF (x : Nat → F) : (k : Nat) → MP k → F
  | 0 => toF
  | k + 1 => evF (mF x k) (x k)
def mZ (β : Nat → Nat) : (k : Nat) → MP k → Int
  | 0 => id
  | k + 1 => evZ (mZ β k) (β k)
def mN (τ : Nat → Nat) : (k : Nat) → MP k → Nat
  | 0 => Int.natAbs
  | k + 1 => evN (mN τ k) (τ k)

theorem rel_mF (x : Nat → F) : ∀ k, Rel (mops k) fOps fun c z => mF x k c = z
  | 0 => ⟨fun ha hb => by subst ha; subst hb; exact toF_add _ _, fun ha hb => by subst ha; subst hb; exact toF_mul _ _, fun _ => rfl⟩
  | k + 1 => (rel_mF x k).polyF _
theorem rel_mZ (β : Nat → Nat) : ∀ k, Rel (mops k) intOps fun c z => mZ β k c = z
  | 0 => ⟨fun ha hb => by subst ha; subst hb; rfl, fun ha hb => by subst ha; subst hb; rfl, fun _ => rfl⟩
  | k + 1 => (rel_mZ β k).polyZ _
theorem rel_mN (τ : Nat → Nat) : ∀ k, Rel (mops k) natOps fun c z => mN τ k c ≤ z
  | 0 => ⟨fun ha hb => Nat.le_trans (Int.natAbs_add_le _ _) (Nat.add_le_add ha hb), fun {a _ b _} ha hb => Nat.le_trans (Nat.le_of_eq (Int.natAbs_mul (a : Int) (b : Int))) (Nat.mul_le_mul ha hb), fun _ => Nat.le_refl _⟩
  | k + 1 => (rel_mN τ k).polyN _

theorem mZ_le (β : Nat → Nat) : ∀ k (c : MP k), (mZ β k c).natAbs ≤ mN β k c
  | 0, _ => Nat.le_refl _
  | k + 1, l => by
    induction l with
    | nil => exact Nat.le_refl 0
    | cons x a ih =>
      have h1 := mZ_le β k x
      have h2 := Nat.mul_le_mul_left (β k) ih
      show (mZ β k x + (β k : Int) * evZ (mZ β k) (β k) a).natAbs ≤ mN β k x + β k * evN (mN β k) (β k) a
      have h3 := Int.natAbs_add_le (mZ β k x) ((β k : Int) * evZ (mZ β k) (β k) a)
      rw [Int.natAbs_mul, Int.natAbs_natCast] at h3
      exact Nat.le_trans h3 (Nat.add_le_add h1 h2)

theorem mN_congr {τ τ' : Nat → Nat} : ∀ k (c : MP k), (∀ i, i < k → τ i = τ' i) → mN τ k c = mN τ' k c
  | 0, _, _ => rfl
  | k + 1, l, h => by
    have e : mN τ k = mN τ' k := funext fun c => mN_congr k c fun i hi => h i (by omega)
    show evN (mN τ k) (τ k) l = evN (mN τ' k) (τ' k) l
    rw [e, h k (by omega)]

theorem mN_mem {τ : Nat → Nat} {k : Nat} (h1 : 1 ≤ τ k) {c : MP k} : ∀ {l : List (MP k)}, c ∈ l → mN τ k c ≤ evN (mN τ k) (τ k) l
  | x :: a, h => by
    rcases List.mem_cons.1 h with h | h
    · subst h; exact Nat.le_add_right _ _
    · have := mN_mem h1 h
      have h2 := Nat.le_mul_of_pos_left (evN (mN τ k) (τ k) a) h1
      show _ ≤ mN τ k x + τ k * evN (mN τ k) (τ k) a
      omega

theorem digits {C : Type} (ev : C → Int) (β : Nat) (hβ : 0 < β) : ∀ l : List C, (∀ c ∈ l, (ev c).natAbs < β) → evZ ev β l = 0 → ∀ c ∈ l, ev c = 0
  | [], _, _, c, hc => by cases hc
  | x :: a, hb, h, c, hc => by
    have hx := hb x (by simp)
    simp only [evZ] at h
    have h0 : ev x = 0 := by
      have : (β : Int) ∣ ev x := ⟨- evZ ev β a, by rw [Int.mul_neg]; omega⟩
      exact Int.eq_zero_of_dvd_of_natAbs_lt_natAbs this (by simpa using hx)
    rcases List.mem_cons.1 hc with h1 | h1
    · subst h1; exact h0
    · rw [h0, Int.zero_add] at h
      rcases Int.mul_eq_zero.1 h with h2 | h2
      · omega
      · exact digits ev β hβ a (fun c hc => hb c (by simp [hc])) h2 c h1

/-- The bases: what is below variable j stands at its base, all else at 1. -/
def upto (β : Nat → Nat) (j i : Nat) : Nat := if i < j then β i else 1

theorem f_zero (t : F) : 0 + t * 0 = 0 := Fin.ext (by simp [Fin.val_mul])

theorem evF_zero {C : Type} (ev : C → F) (t : F) : ∀ l : List C, (∀ c ∈ l, ev c = 0) → evF ev t l = 0
  | [], _ => rfl
  | x :: a, h => by
    show ev x + t * evF ev t a = 0
    rw [h x (by simp), evF_zero ev t a (fun c hc => h c (by simp [hc]))]; exact f_zero t

theorem vanish (β : Nat → Nat) (x : Nat → F) : ∀ k (c : MP k), (∀ j, j < k → mN (upto β j) k c < β j) → mZ β k c = 0 → mF x k c = 0
  | 0, c, _, h => by
    have h1 : c = (0 : Int) := h
    rw [h1]; rfl
  | k + 1, l, hb, h => by
    have hk := hb k (by omega)
    have hpos : 0 < β k := by omega
    have hup : upto β k k = 1 := by simp [upto]
    have hmem : ∀ j, j ≤ k → ∀ c : MP k, c ∈ (show List (MP k) from l) → mN (upto β j) k c ≤ mN (upto β j) (k + 1) l := fun j hj c hc =>
      mN_mem (τ := upto β j) (by have : upto β j k = 1 := by simp [upto]; omega
                                 omega) hc
    have h1 : ∀ c : MP k, c ∈ (show List (MP k) from l) → mZ β k c = 0 := by
      refine digits (mZ β k) (β k) hpos l (fun c hc => ?_) h
      have e1 := mZ_le β k c
      have e2 : mN β k c = mN (upto β k) k c := mN_congr k c fun i hi => by simp [upto, hi]
      have e3 := hmem k (Nat.le_refl k) c hc
      omega
    refine evF_zero (mF x k) (x k) l fun c hc => vanish β x k c (fun j hj => ?_) (h1 c hc)
    have e3 := hmem j (by omega) c hc
    have := hb j (by omega)
    omega

def qF {C : Type} (ev : C → F) (y : F) (p : C × C) : F := ev p.1 + y * ev p.2

theorem Rel.quadF {C : Type} {o : Ops C} {ev : C → F} (h : Rel o fOps fun c z => ev c = z) {f : C} {y : F} (hf : ev f = y * y) :
    Rel (quad o f) fOps fun c z => qF ev y c = z where
  add {a _ b _} ha hb := by
    subst ha; subst hb
    have h1 := h.add (a := a.1) (b := b.1) rfl rfl
    have h2 := h.add (a := a.2) (b := b.2) rfl rfl
    show ev (o.add a.1 b.1) + y * ev (o.add a.2 b.2) = (ev a.1 + y * ev a.2) + (ev b.1 + y * ev b.2)
    rw [h1, h2]; show (ev a.1 + ev b.1) + y * (ev a.2 + ev b.2) = _; grind
  mul {a _ b _} ha hb := by
    subst ha; subst hb
    have h1 := h.mul (a := a.1) (b := b.1) rfl rfl
    have h2 := h.mul (a := a.2) (b := b.2) rfl rfl
    have h3 := h.mul (a := a.1) (b := b.2) rfl rfl
    have h4 := h.mul (a := a.2) (b := b.1) rfl rfl
    have h5 := h.add h1 (h.mul hf h2)
    have h6 := h.add h3 h4
    show ev (o.add (o.mul a.1 b.1) (o.mul f (o.mul a.2 b.2))) + y * ev (o.add (o.mul a.1 b.2) (o.mul a.2 b.1)) = (ev a.1 + y * ev a.2) * (ev b.1 + y * ev b.2)
    rw [h5, h6]; show (ev a.1 * ev b.1 + y * y * (ev a.2 * ev b.2)) + y * (ev a.1 * ev b.2 + ev a.2 * ev b.1) = _; grind
  num n := by
    have h1 : ev (o.num n) = toF n := h.num n
    have h2 : ev (o.num 0) = toF 0 := h.num 0
    show ev (o.num n) + y * ev (o.num 0) = toF n
    rw [h1, h2, toF_zero]; grind

/-- The curve's right side. -/
def side {C : Type} (o : Ops C) (x b : C) : C := o.add (o.add (o.mul (o.mul x x) x) (o.mul (o.num (-3)) x)) b

abbrev Tw (C : Type) : Type := ((C × C) × (C × C)) × ((C × C) × (C × C))
def tow {C : Type} (o : Ops C) (v : Nat → C) : Ops (Tw C) :=
  quad (quad (quad o (side o (v 1) (v 0))) (side o (v 2) (v 0), o.num 0)) ((side o (v 3) (v 0), o.num 0), (o.num 0, o.num 0))
def emb {C : Type} (o : Ops C) (c : C) : Tw C := (((c, o.num 0), (o.num 0, o.num 0)), ((o.num 0, o.num 0), (o.num 0, o.num 0)))
def tv {C : Type} (o : Ops C) (v : Nat → C) : Nat → Tw C
  | 4 => (((o.num 0, o.num 1), (o.num 0, o.num 0)), ((o.num 0, o.num 0), (o.num 0, o.num 0)))
  | 5 => (((o.num 0, o.num 0), (o.num 1, o.num 0)), ((o.num 0, o.num 0), (o.num 0, o.num 0)))
  | 6 => (((o.num 0, o.num 0), (o.num 0, o.num 0)), ((o.num 1, o.num 0), (o.num 0, o.num 0)))
  | n => emb o (v n)

def RT {C D : Type} (R : C → D → Prop) (a : Tw C) (b : Tw D) : Prop :=
  ((R a.1.1.1 b.1.1.1 ∧ R a.1.1.2 b.1.1.2) ∧ (R a.1.2.1 b.1.2.1 ∧ R a.1.2.2 b.1.2.2)) ∧ ((R a.2.1.1 b.2.1.1 ∧ R a.2.1.2 b.2.1.2) ∧ (R a.2.2.1 b.2.2.1 ∧ R a.2.2.2 b.2.2.2))

section
variable {C D : Type} {o : Ops C} {o' : Ops D} {R : C → D → Prop}
theorem Rel.side (h : Rel o o' R) {x b : C} {x' b' : D} (hx : R x x') (hb : R b b') : R (side o x b) (side o' x' b') :=
  h.add (h.add (h.mul (h.mul hx hx) hx) (h.mul (h.num _) hx)) hb

theorem Rel.tow (h : Rel o o' R) {v : Nat → C} {v' : Nat → D} (hv : ∀ i, R (v i) (v' i)) : Rel (tow o v) (tow o' v') (RT R) :=
  ((h.qd (h.side (hv 1) (hv 0))).qd ⟨h.side (hv 2) (hv 0), h.num 0⟩).qd ⟨⟨h.side (hv 3) (hv 0), h.num 0⟩, ⟨h.num 0, h.num 0⟩⟩

theorem Rel.emb (h : Rel o o' R) {c : C} {c' : D} (hc : R c c') : RT R (emb o c) (emb o' c') :=
  ⟨⟨⟨hc, h.num 0⟩, ⟨h.num 0, h.num 0⟩⟩, ⟨⟨h.num 0, h.num 0⟩, ⟨h.num 0, h.num 0⟩⟩⟩

theorem Rel.tv (h : Rel o o' R) {v : Nat → C} {v' : Nat → D} (hv : ∀ i, R (v i) (v' i)) : ∀ i, RT R (tv o v i) (tv o' v' i)
  | 0 => h.emb (hv _) | 1 => h.emb (hv _) | 2 => h.emb (hv _) | 3 => h.emb (hv _)
  | 4 => ⟨⟨⟨h.num 0, h.num 1⟩, ⟨h.num 0, h.num 0⟩⟩, ⟨⟨h.num 0, h.num 0⟩, ⟨h.num 0, h.num 0⟩⟩⟩
  | 5 => ⟨⟨⟨h.num 0, h.num 0⟩, ⟨h.num 1, h.num 0⟩⟩, ⟨⟨h.num 0, h.num 0⟩, ⟨h.num 0, h.num 0⟩⟩⟩
  | 6 => ⟨⟨⟨h.num 0, h.num 0⟩, ⟨h.num 0, h.num 0⟩⟩, ⟨⟨h.num 1, h.num 0⟩, ⟨h.num 0, h.num 0⟩⟩⟩
  | _ + 7 => h.emb (hv _)
end

/-- The four variables as polynomials. -/
def mvar : Nat → MP 4
  | 0 => ([[[[(0 : Int), (1 : Int)]]]] : List (List (List (List Int))))
  | 1 => ([[[[(0 : Int)], [(1 : Int)]]]] : List (List (List (List Int))))
  | 2 => ([[[[(0 : Int)]], [[(1 : Int)]]]] : List (List (List (List Int))))
  | 3 => ([[[[(0 : Int)]]], [[[(1 : Int)]]]] : List (List (List (List Int))))
  | _ => ([] : List (List (List (List Int))))

def below4 {α : Type} (z : α) (x : Nat → α) (i : Nat) : α := if i < 4 then x i else z

theorem mvarF (x : Nat → F) : ∀ i, mF x 4 (mvar i) = below4 0 x i
  | 0 => by show (((toF 0 + x 0 * (toF 1 + x 0 * 0)) + x 1 * 0) + x 2 * 0) + x 3 * 0 = x 0; have : toF 1 = 1 := rfl; rw [this, toF_zero]; grind
  | 1 => by show ((((toF 0 + x 0 * 0) + x 1 * ((toF 1 + x 0 * 0) + x 1 * 0))) + x 2 * 0) + x 3 * 0 = x 1; have : toF 1 = 1 := rfl; rw [this, toF_zero]; grind
  | 2 => by show ((((toF 0 + x 0 * 0) + x 1 * 0)) + x 2 * (((toF 1 + x 0 * 0) + x 1 * 0) + x 2 * 0)) + x 3 * 0 = x 2; have : toF 1 = 1 := rfl; rw [this, toF_zero]; grind
  | 3 => by show ((((toF 0 + x 0 * 0) + x 1 * 0)) + x 2 * 0) + x 3 * (((((toF 1 + x 0 * 0) + x 1 * 0)) + x 2 * 0) + x 3 * 0) = x 3; have : toF 1 = 1 := rfl; rw [this, toF_zero]; grind
  | _ + 4 => rfl

theorem mvarZ (β : Nat → Nat) : ∀ i, mZ β 4 (mvar i) = below4 0 (fun i => (β i : Int)) i
  | 0 => by show ((((0 : Int) + (β 0 : Int) * (1 + β 0 * 0)) + β 1 * 0) + β 2 * 0) + β 3 * 0 = β 0; grind
  | 1 => by show (((((0 : Int) + β 0 * 0) + β 1 * ((1 + β 0 * 0) + β 1 * 0))) + β 2 * 0) + β 3 * 0 = β 1; grind
  | 2 => by show (((((0 : Int) + β 0 * 0) + β 1 * 0)) + β 2 * (((1 + β 0 * 0) + β 1 * 0) + β 2 * 0)) + β 3 * 0 = β 2; grind
  | 3 => by show (((((0 : Int) + β 0 * 0) + β 1 * 0)) + β 2 * 0) + β 3 * (((((1 + β 0 * 0) + β 1 * 0)) + β 2 * 0) + β 3 * 0) = β 3; grind
  | _ + 4 => rfl

theorem mvarN (β : Nat → Nat) : ∀ i, mN β 4 (mvar i) = below4 0 β i
  | 0 => by show ((((0 : Nat) + β 0 * (1 + β 0 * 0)) + β 1 * 0) + β 2 * 0) + β 3 * 0 = β 0; grind
  | 1 => by show (((((0 : Nat) + β 0 * 0) + β 1 * ((1 + β 0 * 0) + β 1 * 0))) + β 2 * 0) + β 3 * 0 = β 1; grind
  | 2 => by show (((((0 : Nat) + β 0 * 0) + β 1 * 0)) + β 2 * (((1 + β 0 * 0) + β 1 * 0) + β 2 * 0)) + β 3 * 0 = β 2; grind
  | 3 => by show (((((0 : Nat) + β 0 * 0) + β 1 * 0)) + β 2 * 0) + β 3 * (((((1 + β 0 * 0) + β 1 * 0)) + β 2 * 0) + β 3 * 0) = β 3; grind
  | _ + 4 => rfl

def allZ (t : Tw Int) : Bool :=
  ((t.1.1.1 == 0 && t.1.1.2 == 0) && (t.1.2.1 == 0 && t.1.2.2 == 0)) && ((t.2.1.1 == 0 && t.2.1.2 == 0) && (t.2.2.1 == 0 && t.2.2.2 == 0))
def allB (n : Nat) (t : Tw Nat) : Bool :=
  ((Nat.blt t.1.1.1 n && Nat.blt t.1.1.2 n) && (Nat.blt t.1.2.1 n && Nat.blt t.1.2.2 n)) && ((Nat.blt t.2.1.1 n && Nat.blt t.2.1.2 n) && (Nat.blt t.2.2.1 n && Nat.blt t.2.2.2 n))

/-- The closed test: at the bases all is 0, and below each base the sizes stay below it. -/
def test (β : Nat → Nat) (e : Ex) : Bool :=
  allZ (e.at (tow intOps (below4 0 fun i => (β i : Int))) (tv intOps (below4 0 fun i => (β i : Int)))) &&
  (allB (β 0) (e.at (tow natOps (below4 0 (upto β 0))) (tv natOps (below4 0 (upto β 0)))) &&
   (allB (β 1) (e.at (tow natOps (below4 0 (upto β 1))) (tv natOps (below4 0 (upto β 1)))) &&
    (allB (β 2) (e.at (tow natOps (below4 0 (upto β 2))) (tv natOps (below4 0 (upto β 2)))) &&
     allB (β 3) (e.at (tow natOps (below4 0 (upto β 3))) (tv natOps (below4 0 (upto β 3)))))))

def curve7 (b x1 x2 x3 y1 y2 y3 : F) : Nat → F
  | 0 => b | 1 => x1 | 2 => x2 | 3 => x3 | 4 => y1 | 5 => y2 | 6 => y3 | _ => 0

theorem test_zero {β : Nat → Nat} {e : Ex} (h : test β e = true) (b x1 x2 x3 y1 y2 y3 : F) (h1 : y1 * y1 = x1 * x1 * x1 - 3 * x1 + b)
    (h2 : y2 * y2 = x2 * x2 * x2 - 3 * x2 + b) (h3 : y3 * y3 = x3 * x3 * x3 - 3 * x3 + b) :
    e.at fOps (curve7 b x1 x2 x3 y1 y2 y3) = 0 := by
  simp only [test, Bool.and_eq_true] at h
  obtain ⟨hz, hb0, hb1, hb2, hb3⟩ := h
  let x : Nat → F := curve7 b x1 x2 x3 y1 y2 y3
  have rF := rel_mF x 4
  have hm : ∀ i, mF x 4 (mvar i) = below4 0 x i := mvarF x
  have m3 : toF (-3) = -3 := by decide +kernel
  have e1 : mF x 4 (side (mops 4) (mvar 1) (mvar 0)) = y1 * y1 := by
    rw [rF.side (hm 1) (hm 0), h1]
    show ((x1 * x1) * x1 + toF (-3) * x1) + b = _; rw [m3]; grind
  have e2 : mF x 4 (side (mops 4) (mvar 2) (mvar 0)) = y2 * y2 := by
    rw [rF.side (hm 2) (hm 0), h2]
    show ((x2 * x2) * x2 + toF (-3) * x2) + b = _; rw [m3]; grind
  have e3 : mF x 4 (side (mops 4) (mvar 3) (mvar 0)) = y3 * y3 := by
    rw [rF.side (hm 3) (hm 0), h3]
    show ((x3 * x3) * x3 + toF (-3) * x3) + b = _; rw [m3]; grind
  have z0 : mF x 4 ((mops 4).num 0) = 0 := rF.num 0
  have z1 : mF x 4 ((mops 4).num 1) = 1 := rF.num 1
  have rT := ((rF.quadF e1).quadF (f := (side (mops 4) (mvar 2) (mvar 0), (mops 4).num 0)) (y := y2) (by show mF x 4 _ + y1 * mF x 4 _ = _; rw [e2, z0]; grind)).quadF
    (f := ((side (mops 4) (mvar 3) (mvar 0), (mops 4).num 0), ((mops 4).num 0, (mops 4).num 0))) (y := y3)
    (by show (mF x 4 _ + y1 * mF x 4 _) + y2 * (mF x 4 _ + y1 * mF x 4 _) = _; rw [e3, z0]; grind)
  have hv : ∀ i, qF (qF (qF (mF x 4) y1) y2) y3 (tv (mops 4) mvar i) = x i := by
    intro i
    have emb0 : ∀ c, qF (qF (qF (mF x 4) y1) y2) y3 (emb (mops 4) c) = mF x 4 c := by
      intro c
      simp only [qF, emb, z0]; grind
    match i with
    | 0 => exact (emb0 _).trans (hm 0)
    | 1 => exact (emb0 _).trans (hm 1)
    | 2 => exact (emb0 _).trans (hm 2)
    | 3 => exact (emb0 _).trans (hm 3)
    | 4 => show _ = y1
           simp only [qF, tv, z0, z1]; grind
    | 5 => show _ = y2
           simp only [qF, tv, z0, z1]; grind
    | 6 => show _ = y3
           simp only [qF, tv, z0, z1]; grind
    | n + 7 => exact (emb0 _).trans (hm (n + 7))
  have key := rT.at hv e
  rw [← key]
  have rZ := (rel_mZ β 4)
  have kz := (rZ.tow (mvarZ β)).at (rZ.tv (mvarZ β)) e
  have rN := fun j => rel_mN (upto β j) 4
  have hN : ∀ j i, mN (upto β j) 4 (mvar i) ≤ below4 0 (upto β j) i := fun j i => Nat.le_of_eq (mvarN _ i)
  have kn := fun j => ((rN j).tow (hN j)).at ((rN j).tv (hN j)) e
  have k0 := kn 0; have k1 := kn 1; have k2 := kn 2; have k3 := kn 3
  show qF (qF (qF (mF x 4) y1) y2) y3 (e.at (tow (mops 4) mvar) (tv (mops 4) mvar)) = 0
  clear key hv rT kn
  simp only [allZ, allB, Bool.and_eq_true, beq_iff_eq, Nat.blt_eq] at hz hb0 hb1 hb2 hb3
  obtain ⟨⟨⟨k0a, k0b⟩, ⟨k0c, k0d⟩⟩, ⟨⟨k0e, k0f⟩, ⟨k0g, k0h⟩⟩⟩ := k0
  obtain ⟨⟨⟨k1a, k1b⟩, ⟨k1c, k1d⟩⟩, ⟨⟨k1e, k1f⟩, ⟨k1g, k1h⟩⟩⟩ := k1
  obtain ⟨⟨⟨k2a, k2b⟩, ⟨k2c, k2d⟩⟩, ⟨⟨k2e, k2f⟩, ⟨k2g, k2h⟩⟩⟩ := k2
  obtain ⟨⟨⟨k3a, k3b⟩, ⟨k3c, k3d⟩⟩, ⟨⟨k3e, k3f⟩, ⟨k3g, k3h⟩⟩⟩ := k3
  obtain ⟨⟨⟨b0a, b0b⟩, ⟨b0c, b0d⟩⟩, ⟨⟨b0e, b0f⟩, ⟨b0g, b0h⟩⟩⟩ := hb0
  obtain ⟨⟨⟨b1a, b1b⟩, ⟨b1c, b1d⟩⟩, ⟨⟨b1e, b1f⟩, ⟨b1g, b1h⟩⟩⟩ := hb1
  obtain ⟨⟨⟨b2a, b2b⟩, ⟨b2c, b2d⟩⟩, ⟨⟨b2e, b2f⟩, ⟨b2g, b2h⟩⟩⟩ := hb2
  obtain ⟨⟨⟨b3a, b3b⟩, ⟨b3c, b3d⟩⟩, ⟨⟨b3e, b3f⟩, ⟨b3g, b3h⟩⟩⟩ := hb3
  obtain ⟨⟨⟨za, zb⟩, ⟨zc, zd⟩⟩, ⟨⟨ze, zf⟩, ⟨zg, zh⟩⟩⟩ := hz
  obtain ⟨⟨⟨ka, kb⟩, ⟨kc, kd⟩⟩, ⟨⟨ke, kf⟩, ⟨kg, kh⟩⟩⟩ := kz
  have fin : ∀ c : MP 4, mN (upto β 0) 4 c < β 0 → mN (upto β 1) 4 c < β 1 → mN (upto β 2) 4 c < β 2 → mN (upto β 3) 4 c < β 3 → mZ β 4 c = 0 → mF x 4 c = 0 :=
    fun c a0 a1 a2 a3 hz => vanish β x 4 c (fun j hj => match j with
      | 0 => a0 | 1 => a1 | 2 => a2 | 3 => a3 | n + 4 => by omega) hz
  have qz : ∀ {C : Type} (ev : C → F) (y : F) (p : C × C), ev p.1 = 0 → ev p.2 = 0 → qF ev y p = 0 := fun ev y p h1 h2 => by
    show ev p.1 + y * ev p.2 = 0; rw [h1, h2]; exact f_zero y
  refine qz _ _ _ (qz _ _ _ (qz _ _ _ ?_ ?_) (qz _ _ _ ?_ ?_)) (qz _ _ _ (qz _ _ _ ?_ ?_) (qz _ _ _ ?_ ?_))
  · exact fin _ (Nat.lt_of_le_of_lt k0a b0a) (Nat.lt_of_le_of_lt k1a b1a) (Nat.lt_of_le_of_lt k2a b2a) (Nat.lt_of_le_of_lt k3a b3a) (ka.trans za)
  · exact fin _ (Nat.lt_of_le_of_lt k0b b0b) (Nat.lt_of_le_of_lt k1b b1b) (Nat.lt_of_le_of_lt k2b b2b) (Nat.lt_of_le_of_lt k3b b3b) (kb.trans zb)
  · exact fin _ (Nat.lt_of_le_of_lt k0c b0c) (Nat.lt_of_le_of_lt k1c b1c) (Nat.lt_of_le_of_lt k2c b2c) (Nat.lt_of_le_of_lt k3c b3c) (kc.trans zc)
  · exact fin _ (Nat.lt_of_le_of_lt k0d b0d) (Nat.lt_of_le_of_lt k1d b1d) (Nat.lt_of_le_of_lt k2d b2d) (Nat.lt_of_le_of_lt k3d b3d) (kd.trans zd)
  · exact fin _ (Nat.lt_of_le_of_lt k0e b0e) (Nat.lt_of_le_of_lt k1e b1e) (Nat.lt_of_le_of_lt k2e b2e) (Nat.lt_of_le_of_lt k3e b3e) (ke.trans ze)
  · exact fin _ (Nat.lt_of_le_of_lt k0f b0f) (Nat.lt_of_le_of_lt k1f b1f) (Nat.lt_of_le_of_lt k2f b2f) (Nat.lt_of_le_of_lt k3f b3f) (kf.trans zf)
  · exact fin _ (Nat.lt_of_le_of_lt k0g b0g) (Nat.lt_of_le_of_lt k1g b1g) (Nat.lt_of_le_of_lt k2g b2g) (Nat.lt_of_le_of_lt k3g b3g) (kg.trans zg)
  · exact fin _ (Nat.lt_of_le_of_lt k0h b0h) (Nat.lt_of_le_of_lt k1h b1h) (Nat.lt_of_le_of_lt k2h b2h) (Nat.lt_of_le_of_lt k3h b3h) (kh.trans zh)

/-- The sum of two points of three coordinates, over whatever numbers (the complete formula of a = -3). -/
def gX {C : Type} (o : Ops C) (b X1 Y1 Z1 X2 Y2 Z2 : C) : C :=
  let m3 := o.num (-3); let p3 := o.num 3; let m1 := o.num (-1)
  let xz := o.add (o.mul X1 Z2) (o.mul X2 Z1)
  let bz := o.mul b (o.mul Z1 Z2)
  o.add (o.mul (o.add (o.mul X1 Y2) (o.mul X2 Y1)) (o.add (o.add (o.mul Y1 Y2) (o.mul p3 xz)) (o.mul m3 bz)))
    (o.mul m1 (o.mul (o.add (o.mul Y1 Z2) (o.mul Y2 Z1)) (o.add (o.add (o.mul p3 (o.mul b xz)) (o.mul m3 (o.mul X1 X2))) (o.mul (o.num (-9)) (o.mul Z1 Z2)))))
def gY {C : Type} (o : Ops C) (b X1 Y1 Z1 X2 Y2 Z2 : C) : C :=
  let m3 := o.num (-3); let p3 := o.num 3
  let xz := o.add (o.mul X1 Z2) (o.mul X2 Z1)
  let bz := o.mul b (o.mul Z1 Z2)
  o.add (o.mul (o.add (o.mul p3 (o.mul X1 X2)) (o.mul m3 (o.mul Z1 Z2))) (o.add (o.add (o.mul p3 (o.mul b xz)) (o.mul m3 (o.mul X1 X2))) (o.mul (o.num (-9)) (o.mul Z1 Z2))))
    (o.mul (o.add (o.add (o.mul Y1 Y2) (o.mul m3 xz)) (o.mul p3 bz)) (o.add (o.add (o.mul Y1 Y2) (o.mul p3 xz)) (o.mul m3 bz)))
def gZ {C : Type} (o : Ops C) (b X1 Y1 Z1 X2 Y2 Z2 : C) : C :=
  let m3 := o.num (-3); let p3 := o.num 3
  let xz := o.add (o.mul X1 Z2) (o.mul X2 Z1)
  let bz := o.mul b (o.mul Z1 Z2)
  o.add (o.mul (o.add (o.mul Y1 Z2) (o.mul Y2 Z1)) (o.add (o.add (o.mul Y1 Y2) (o.mul m3 xz)) (o.mul p3 bz)))
    (o.mul (o.add (o.mul X1 Y2) (o.mul X2 Y1)) (o.add (o.mul p3 (o.mul X1 X2)) (o.mul m3 (o.mul Z1 Z2))))

def exOps : Ops Ex := ⟨.add, .mul, .num⟩
def eb : Ex := .var 0
def ex1 : Ex := .var 1
def ex2 : Ex := .var 2
def ex3 : Ex := .var 3
def ey1 : Ex := .var 4
def ey2 : Ex := .var 5
def ey3 : Ex := .var 6
def e1 : Ex := .num 1
def pqX : Ex := gX exOps eb ex1 ey1 e1 ex2 ey2 e1
def pqY : Ex := gY exOps eb ex1 ey1 e1 ex2 ey2 e1
def pqZ : Ex := gZ exOps eb ex1 ey1 e1 ex2 ey2 e1
def qrX : Ex := gX exOps eb ex2 ey2 e1 ex3 ey3 e1
def qrY : Ex := gY exOps eb ex2 ey2 e1 ex3 ey3 e1
def qrZ : Ex := gZ exOps eb ex2 ey2 e1 ex3 ey3 e1
def aX : Ex := gX exOps eb pqX pqY pqZ ex3 ey3 e1
def aY : Ex := gY exOps eb pqX pqY pqZ ex3 ey3 e1
def aZ : Ex := gZ exOps eb pqX pqY pqZ ex3 ey3 e1
def cX : Ex := gX exOps eb ex1 ey1 e1 qrX qrY qrZ
def cY : Ex := gY exOps eb ex1 ey1 e1 qrX qrY qrZ
def cZ : Ex := gZ exOps eb ex1 ey1 e1 qrX qrY qrZ
def crossX : Ex := .add (.mul aX cZ) (.mul (.num (-1)) (.mul cX aZ))
def crossY : Ex := .add (.mul aY cZ) (.mul (.num (-1)) (.mul cY aZ))
def bases : Nat → Nat
  | 0 => 2 ^ 44 | 1 => 2 ^ 500 | 2 => 2 ^ 5500 | 3 => 2 ^ 75000 | _ => 1
theorem crossX_test : test bases crossX = true := by decide +kernel
theorem crossY_test : test bases crossY = true := by decide +kernel
end EC
end Go.Proofs.Ytjdjhccefnffmaa
namespace Go.Proofs.Ytjdjhccefnffmaa
namespace EC

def fX (b X1 Y1 Z1 X2 Y2 Z2 : F) : F := (X1*Y2+X2*Y1)*(Y1*Y2 + 3*(X1*Z2+X2*Z1) - 3*b*Z1*Z2) - (Y1*Z2+Y2*Z1)*(3*b*(X1*Z2+X2*Z1) - 3*X1*X2 - 9*Z1*Z2)
def fY (b X1 Y1 Z1 X2 Y2 Z2 : F) : F := (3*X1*X2 - 3*Z1*Z2)*(3*b*(X1*Z2+X2*Z1) - 3*X1*X2 - 9*Z1*Z2) + (Y1*Y2 - 3*(X1*Z2+X2*Z1) + 3*b*Z1*Z2)*(Y1*Y2 + 3*(X1*Z2+X2*Z1) - 3*b*Z1*Z2)
def fZ (b X1 Y1 Z1 X2 Y2 Z2 : F) : F := (Y1*Z2+Y2*Z1)*(Y1*Y2 - 3*(X1*Z2+X2*Z1) + 3*b*Z1*Z2) + (X1*Y2+X2*Y1)*(3*X1*X2 - 3*Z1*Z2)

theorem m3 : toF (-3) = -3 := by decide +kernel
theorem p3 : toF 3 = 3 := by decide +kernel
theorem m1 : toF (-1) = -1 := by decide +kernel
theorem m9 : toF (-9) = -9 := by decide +kernel
theorem p1 : toF 1 = 1 := rfl

theorem gX_eq (b X1 Y1 Z1 X2 Y2 Z2 : F) : gX fOps b X1 Y1 Z1 X2 Y2 Z2 = fX b X1 Y1 Z1 X2 Y2 Z2 := by
  simp only [gX, fX, fOps, m3, p3, m1, m9]; grind -lia -linarith
theorem gY_eq (b X1 Y1 Z1 X2 Y2 Z2 : F) : gY fOps b X1 Y1 Z1 X2 Y2 Z2 = fY b X1 Y1 Z1 X2 Y2 Z2 := by
  simp only [gY, fY, fOps, m3, p3, m9]; grind -lia -linarith
theorem gZ_eq (b X1 Y1 Z1 X2 Y2 Z2 : F) : gZ fOps b X1 Y1 Z1 X2 Y2 Z2 = fZ b X1 Y1 Z1 X2 Y2 Z2 := by
  simp only [gZ, fZ, fOps, m3, p3]; grind -lia -linarith

/-- The law of three points by coordinates: both ways of adding give the same first coordinate, and the same second one. -/
theorem cross (b x1 x2 x3 y1 y2 y3 : F) (h1 : y1 * y1 = x1 * x1 * x1 - 3 * x1 + b)
    (h2 : y2 * y2 = x2 * x2 * x2 - 3 * x2 + b) (h3 : y3 * y3 = x3 * x3 * x3 - 3 * x3 + b) (u1 u2 u3 w1 w2 w3 : F)
    (hu1 : u1 = fX b x1 y1 1 x2 y2 1) (hu2 : u2 = fY b x1 y1 1 x2 y2 1) (hu3 : u3 = fZ b x1 y1 1 x2 y2 1)
    (hw1 : w1 = fX b x2 y2 1 x3 y3 1) (hw2 : w2 = fY b x2 y2 1 x3 y3 1) (hw3 : w3 = fZ b x2 y2 1 x3 y3 1) :
    fX b u1 u2 u3 x3 y3 1 * fZ b x1 y1 1 w1 w2 w3 = fX b x1 y1 1 w1 w2 w3 * fZ b u1 u2 u3 x3 y3 1 ∧
    fY b u1 u2 u3 x3 y3 1 * fZ b x1 y1 1 w1 w2 w3 = fY b x1 y1 1 w1 w2 w3 * fZ b u1 u2 u3 x3 y3 1 := by
  have hX := test_zero crossX_test b x1 x2 x3 y1 y2 y3 h1 h2 h3
  have hY := test_zero crossY_test b x1 x2 x3 y1 y2 y3 h1 h2 h3
  have tX : crossX.at fOps (curve7 b x1 x2 x3 y1 y2 y3) = gX fOps b (gX fOps b x1 y1 (toF 1) x2 y2 (toF 1)) (gY fOps b x1 y1 (toF 1) x2 y2 (toF 1)) (gZ fOps b x1 y1 (toF 1) x2 y2 (toF 1)) x3 y3 (toF 1)
      * gZ fOps b x1 y1 (toF 1) (gX fOps b x2 y2 (toF 1) x3 y3 (toF 1)) (gY fOps b x2 y2 (toF 1) x3 y3 (toF 1)) (gZ fOps b x2 y2 (toF 1) x3 y3 (toF 1))
      + toF (-1) * (gX fOps b x1 y1 (toF 1) (gX fOps b x2 y2 (toF 1) x3 y3 (toF 1)) (gY fOps b x2 y2 (toF 1) x3 y3 (toF 1)) (gZ fOps b x2 y2 (toF 1) x3 y3 (toF 1))
      * gZ fOps b (gX fOps b x1 y1 (toF 1) x2 y2 (toF 1)) (gY fOps b x1 y1 (toF 1) x2 y2 (toF 1)) (gZ fOps b x1 y1 (toF 1) x2 y2 (toF 1)) x3 y3 (toF 1)) := rfl
  have tY : crossY.at fOps (curve7 b x1 x2 x3 y1 y2 y3) = gY fOps b (gX fOps b x1 y1 (toF 1) x2 y2 (toF 1)) (gY fOps b x1 y1 (toF 1) x2 y2 (toF 1)) (gZ fOps b x1 y1 (toF 1) x2 y2 (toF 1)) x3 y3 (toF 1)
      * gZ fOps b x1 y1 (toF 1) (gX fOps b x2 y2 (toF 1) x3 y3 (toF 1)) (gY fOps b x2 y2 (toF 1) x3 y3 (toF 1)) (gZ fOps b x2 y2 (toF 1) x3 y3 (toF 1))
      + toF (-1) * (gY fOps b x1 y1 (toF 1) (gX fOps b x2 y2 (toF 1) x3 y3 (toF 1)) (gY fOps b x2 y2 (toF 1) x3 y3 (toF 1)) (gZ fOps b x2 y2 (toF 1) x3 y3 (toF 1))
      * gZ fOps b (gX fOps b x1 y1 (toF 1) x2 y2 (toF 1)) (gY fOps b x1 y1 (toF 1) x2 y2 (toF 1)) (gZ fOps b x1 y1 (toF 1) x2 y2 (toF 1)) x3 y3 (toF 1)) := rfl
  rw [tX] at hX
  rw [tY] at hY
  simp only [gX_eq, gY_eq, gZ_eq, m1, p1] at hX hY
  rw [← hu1, ← hu2, ← hu3, ← hw1, ← hw2, ← hw3] at hX hY
  generalize fX b u1 u2 u3 x3 y3 1 = A at *
  generalize fY b u1 u2 u3 x3 y3 1 = A2 at *
  generalize fZ b u1 u2 u3 x3 y3 1 = A3 at *
  generalize fX b x1 y1 1 w1 w2 w3 = D at *
  generalize fY b x1 y1 1 w1 w2 w3 = D2 at *
  generalize fZ b x1 y1 1 w1 w2 w3 = D3 at *
  clear hu1 hu2 hu3 hw1 hw2 hw3 h1 h2 h3 tX tY
  constructor
  · grind -lia -linarith
  · grind -lia -linarith
end EC
end Go.Proofs.Ytjdjhccefnffmaa
namespace Go.Proofs.Ytjdjhccefnffmaa
namespace EC

-- the complete formula, case by case (b any)
theorem fX_scale (b x1 y1 z1 x2 y2 z2 : F) : fX b (x1*z1) (y1*z1) z1 (x2*z2) (y2*z2) z2 = (z1*z2)*(z1*z2) * fX b x1 y1 1 x2 y2 1 := by
  unfold fX; grind -lia -linarith
theorem fY_scale (b x1 y1 z1 x2 y2 z2 : F) : fY b (x1*z1) (y1*z1) z1 (x2*z2) (y2*z2) z2 = (z1*z2)*(z1*z2) * fY b x1 y1 1 x2 y2 1 := by
  unfold fY; grind -lia -linarith
theorem fZ_scale (b x1 y1 z1 x2 y2 z2 : F) : fZ b (x1*z1) (y1*z1) z1 (x2*z2) (y2*z2) z2 = (z1*z2)*(z1*z2) * fZ b x1 y1 1 x2 y2 1 := by
  unfold fZ; grind -lia -linarith

theorem chord_k (b x1 y1 x2 y2 l : F) (h1 : y1*y1 = x1*x1*x1 - 3*x1 + b) (h2 : y2*y2 = x2*x2*x2 - 3*x2 + b) (d : F) (hd : (x2 - x1) * d = 1)
    (hl : l * (x2 - x1) = y2 - y1) : l * (y1 + y2) = x1*x1 + x1*x2 + x2*x2 - 3 := by
  have h : (x2 - x1) * (l * (y1 + y2) - (x1*x1 + x1*x2 + x2*x2 - 3)) = 0 := by grind -lia -linarith
  have h' : d * ((x2 - x1) * (l * (y1 + y2) - (x1*x1 + x1*x2 + x2*x2 - 3))) = 0 := by rw [h]; grind -lia -linarith
  generalize l * (y1 + y2) - (x1*x1 + x1*x2 + x2*x2 - 3) = q at *
  clear h
  have : q = 0 := by grind -lia -linarith
  grind -lia -linarith
theorem chord_on' (b x1 y1 x2 l : F) (h1 : y1*y1 = x1*x1*x1 - 3*x1 + b) 
    (hk : l * (y1 + (y1 + l * (x2 - x1))) = x1*x1 + x1*x2 + x2*x2 - 3)  : 
    (l*(x1 - (l*l - x1 - x2)) - y1)*(l*(x1 - (l*l - x1 - x2)) - y1) = (l*l - x1 - x2)*(l*l - x1 - x2)*(l*l - x1 - x2) - 3*(l*l - x1 - x2) + b := by
  grind -lia -linarith
theorem chord_X' (b x1 y1 x2 l : F) (h1 : y1*y1 = x1*x1*x1 - 3*x1 + b) 
    (hk : l * (y1 + (y1 + l * (x2 - x1))) = x1*x1 + x1*x2 + x2*x2 - 3)  : 
    fX b x1 y1 1 x2 (y1 + l * (x2 - x1)) 1 = (l*l - x1 - x2) * fZ b x1 y1 1 x2 (y1 + l * (x2 - x1)) 1 := by
  unfold fX fZ; grind -lia -linarith
theorem chord_Y' (b x1 y1 x2 l : F) (h1 : y1*y1 = x1*x1*x1 - 3*x1 + b) 
    (hk : l * (y1 + (y1 + l * (x2 - x1))) = x1*x1 + x1*x2 + x2*x2 - 3)  : 
    fY b x1 y1 1 x2 (y1 + l * (x2 - x1)) 1 = (l*(x1 - (l*l - x1 - x2)) - y1) * fZ b x1 y1 1 x2 (y1 + l * (x2 - x1)) 1 := by
  unfold fY fZ; grind -lia -linarith

theorem chord_on (b x1 y1 x2 y2 l x : F) (h1 : y1*y1 = x1*x1*x1 - 3*x1 + b) (h2 : y2*y2 = x2*x2*x2 - 3*x2 + b) (d : F) (hd : (x2 - x1) * d = 1)
    (hl : l * (x2 - x1) = y2 - y1) (hx : x = l*l - x1 - x2) :
    (l*(x1 - x) - y1)*(l*(x1 - x) - y1) = x*x*x - 3*x + b := by
  have hk := chord_k b x1 y1 x2 y2 l h1 h2 d hd hl
  have e : y2 = y1 + l * (x2 - x1) := by rw [hl]; grind -lia -linarith
  subst e; subst hx; exact chord_on' b x1 y1 x2 l h1 hk
theorem chord_X (b x1 y1 x2 y2 l x : F) (h1 : y1*y1 = x1*x1*x1 - 3*x1 + b) (h2 : y2*y2 = x2*x2*x2 - 3*x2 + b) (d : F) (hd : (x2 - x1) * d = 1)
    (hl : l * (x2 - x1) = y2 - y1) (hx : x = l*l - x1 - x2) : fX b x1 y1 1 x2 y2 1 = x * fZ b x1 y1 1 x2 y2 1 := by
  have hk := chord_k b x1 y1 x2 y2 l h1 h2 d hd hl
  have e : y2 = y1 + l * (x2 - x1) := by rw [hl]; grind -lia -linarith
  subst e; subst hx; exact chord_X' b x1 y1 x2 l h1 hk
theorem chord_Y (b x1 y1 x2 y2 l x : F) (h1 : y1*y1 = x1*x1*x1 - 3*x1 + b) (h2 : y2*y2 = x2*x2*x2 - 3*x2 + b) (d : F) (hd : (x2 - x1) * d = 1)
    (hl : l * (x2 - x1) = y2 - y1) (hx : x = l*l - x1 - x2) : fY b x1 y1 1 x2 y2 1 = (l*(x1 - x) - y1) * fZ b x1 y1 1 x2 y2 1 := by
  have hk := chord_k b x1 y1 x2 y2 l h1 h2 d hd hl
  have e : y2 = y1 + l * (x2 - x1) := by rw [hl]; grind -lia -linarith
  subst e; subst hx; exact chord_Y' b x1 y1 x2 l h1 hk
theorem chord_Z' (b x1 y1 x2 l : F) (h1 : y1*y1 = x1*x1*x1 - 3*x1 + b) 
    (hk : l * (y1 + (y1 + l * (x2 - x1))) = x1*x1 + x1*x2 + x2*x2 - 3)  : 
    fZ b x1 y1 1 x2 (-(y1 + l * (x2 - x1))) 1 = (l*(x1 - (l*l - x1 - x2)) - y1) * ((x2-x1)*(x2-x1)*(x2-x1)) := by
  unfold fZ; grind -lia -linarith
/-- The last coordinate is, but for a cube that is not 0, the second one of the difference. -/
theorem chord_Z (b x1 y1 x2 y2 l x : F) (h1 : y1*y1 = x1*x1*x1 - 3*x1 + b) (h2 : y2*y2 = x2*x2*x2 - 3*x2 + b) (d : F) (hd : (x2 - x1) * d = 1)
    (hl : l * (x2 - x1) = -y2 - y1) (hx : x = l*l - x1 - x2) :
   fZ b x1 y1 1 x2 y2 1 = (l*(x1 - x) - y1) * ((x2-x1)*(x2-x1)*(x2-x1)) := by
  have hk := chord_k b x1 y1 x2 (-y2) l h1 (by rw [← h2]; grind -lia -linarith) d hd hl
  have e : y2 = -(y1 + l * (x2 - x1)) := by rw [hl]; grind -lia -linarith
  subst e; subst hx; exact chord_Z' b x1 y1 x2 l h1 (by rw [← hk]; grind -lia -linarith)

theorem tangent_on (b x1 y1 l x : F) (h1 : y1*y1 = x1*x1*x1 - 3*x1 + b) (d : F) (hd : (y1 + y1) * d = 1)
    (hl : l = (3*(x1*x1) - 3) * d) (hx : x = l*l - x1 - x1) :
    (l*(x1 - x) - y1)*(l*(x1 - x) - y1) = x*x*x - 3*x + b := by
  grind -lia -linarith

theorem tangent_Z (b x y : F) (h1 : y*y = x*x*x - 3*x + b) : fZ b x y 1 x y 1 = 8*(y*y*y) := by
  unfold fZ; grind -lia -linarith
theorem tangent_X (b x1 y1 l x : F) (h1 : y1*y1 = x1*x1*x1 - 3*x1 + b) (d : F) (hd : (y1 + y1) * d = 1)
    (hl : l = (3*(x1*x1) - 3) * d) (hx : x = l*l - x1 - x1) : fX b x1 y1 1 x1 y1 1 = x * fZ b x1 y1 1 x1 y1 1 := by
  unfold fX fZ; grind -lia -linarith
theorem tangent_Y (b x1 y1 l x : F) (h1 : y1*y1 = x1*x1*x1 - 3*x1 + b) (d : F) (hd : (y1 + y1) * d = 1)
    (hl : l = (3*(x1*x1) - 3) * d) (hx : x = l*l - x1 - x1) : fY b x1 y1 1 x1 y1 1 = (l*(x1 - x) - y1) * fZ b x1 y1 1 x1 y1 1 := by
  unfold fY fZ; grind -lia -linarith
theorem other_X (b x y : F) : fX b x y 1 x (-y) 1 = 0 := by unfold fX; grind -lia -linarith
theorem other_Z (b x y : F) : fZ b x y 1 x (-y) 1 = 0 := by unfold fZ; grind -lia -linarith
theorem other_Y (b x1 y1 l x : F) (h1 : y1*y1 = x1*x1*x1 - 3*x1 + b) (d : F) (hd : (y1 + y1) * d = 1)
    (hl : l = (3*(x1*x1) - 3) * d) (hx : x = l*l - x1 - x1) : fY b x1 y1 1 x1 (-y1) 1 = 8*(y1*y1*y1) * (l*(x1 - x) - y1) := by
  unfold fY; grind -lia -linarith
theorem far_X (b x y z Y : F) : fX b (x*z) (y*z) z 0 Y 0 = x * (y*(Y*Y*(z*z))) := by unfold fX; grind -lia -linarith
theorem far_Y (b x y z Y : F) : fY b (x*z) (y*z) z 0 Y 0 = y * (y*(Y*Y*(z*z))) := by unfold fY; grind -lia -linarith
theorem far_Z (b x y z Y : F) : fZ b (x*z) (y*z) z 0 Y 0 = y*(Y*Y*(z*z)) := by unfold fZ; grind -lia -linarith
theorem fars_X (b Y W : F) : fX b 0 Y 0 0 W 0 = 0 := by unfold fX; grind -lia -linarith
theorem fars_Y (b Y W : F) : fY b 0 Y 0 0 W 0 = Y*W*(Y*W) := by unfold fY; grind -lia -linarith
theorem fars_Z (b Y W : F) : fZ b 0 Y 0 0 W 0 = 0 := by unfold fZ; grind -lia -linarith
theorem fX_comm (b X1 Y1 Z1 X2 Y2 Z2 : F) : fX b X1 Y1 Z1 X2 Y2 Z2 = fX b X2 Y2 Z2 X1 Y1 Z1 := by unfold fX; grind -lia -linarith
theorem fY_comm (b X1 Y1 Z1 X2 Y2 Z2 : F) : fY b X1 Y1 Z1 X2 Y2 Z2 = fY b X2 Y2 Z2 X1 Y1 Z1 := by unfold fY; grind -lia -linarith
theorem fZ_comm (b X1 Y1 Z1 X2 Y2 Z2 : F) : fZ b X1 Y1 Z1 X2 Y2 Z2 = fZ b X2 Y2 Z2 X1 Y1 Z1 := by unfold fZ; grind -lia -linarith
end EC
end Go.Proofs.Ytjdjhccefnffmaa
namespace Go.Proofs.Ytjdjhccefnffmaa
namespace EC

def B : F := 0x5ac635d8aa3a93e7b3ebbd55769886bc651d06b0cc53b0f63bce3c3e27d2604b

theorem P_lit : P = 115792089210356248762697446949407573530086143415290314195533631308867097853951 := by decide +kernel
theorem prP : Pr P := P_lit ▸ prime_p

theorem pow_inv {p : Nat} (hp : Pr p) (a : Nat) (h0 : 0 < a) (h : a < p) : a * (a ^ (p - 2) % p) % p = 1 := by
  have h2 := hp.1
  rw [Nat.mul_mod_mod, ← Nat.pow_succ']
  have : (p - 2).succ = p - 1 := by omega
  rw [this]
  exact hp.unit a fun hd => by have := Nat.le_of_dvd h0 hd; omega

/-- 1 / a; of 0 it is 0. -/
def inv (a : F) : F := ⟨a.val ^ (P - 2) % P, Nat.mod_lt _ (by decide)⟩
attribute [irreducible] inv

theorem inv_val (a : F) : (inv a).val = a.val ^ (P - 2) % P := by unfold inv; rfl

theorem mul_inv (a : F) (h : a ≠ 0) : a * inv a = 1 := by
  apply Fin.ext
  rw [Fin.val_mul, inv_val, pow_inv prP a.val (by
    rcases Nat.eq_zero_or_pos a.val with h0 | h0
    · exact absurd (Fin.ext h0) h
    · exact h0) a.isLt]
  rfl

theorem mul_zero_of {a b : F} (h : a * b = 0) : a = 0 ∨ b = 0 := by
  by_cases ha : a = 0
  · exact .inl ha
  · right
    have h1 := mul_inv a ha
    have : inv a * (a * b) = inv a * 0 := by rw [h]
    generalize inv a = i at *
    clear h ha
    grind -lia -linarith

theorem mul_ne {a b : F} (ha : a ≠ 0) (hb : b ≠ 0) : a * b ≠ 0 := fun h => by
  rcases mul_zero_of h with h | h
  · exact ha h
  · exact hb h

theorem f_zm (x : F) : 0 * x = 0 := by grind -lia -linarith
theorem f_az (x : F) : x + 0 = x := by grind -lia -linarith
theorem two_ne : (2 : F) ≠ 0 := by decide +kernel
theorem eight_ne : (8 : F) ≠ 0 := by decide +kernel
theorem one_ne : (1 : F) ≠ 0 := by decide +kernel

def On (x y : F) : Prop := y*y = x*x*x - 3*x + B

-- no point has 0 for its second coordinate: x^p is x, and modulo x^3 - 3 x + b that leaves no root

def fpow (x : F) : Nat → F
  | 0 => 1
  | n + 1 => fpow x n * x

theorem fpow_val (x : F) (n : Nat) : (fpow x n).val = x.val ^ n % P := by
  induction n with
  | zero => rfl
  | succ n ih => rw [fpow, Fin.val_mul, ih, Nat.pow_succ, Nat.mod_mul_mod]

theorem fpow_fermat (x : F) : ∀ p, p = P → fpow x p = x := fun p hp => by
  apply Fin.ext
  rw [fpow_val, hp, prP.fermat, Nat.mod_eq_of_lt x.isLt]

theorem fpow_add (x : F) (m n : Nat) : fpow x (m + n) = fpow x m * fpow x n := by
  induction n with
  | zero => simp only [fpow, Nat.add_zero]; grind -lia -linarith
  | succ n ih => rw [← Nat.add_assoc, fpow, ih, fpow]; grind -lia -linarith

theorem fpow_two (x : F) (n : Nat) : fpow (x * x) n = fpow x (2 * n) := by
  induction n with
  | zero => rfl
  | succ n ih => rw [fpow, ih, Nat.mul_add, fpow_add]; simp only [fpow]; grind -lia -linarith

/-- Numbers modulo the cubic: c0 + c1 x + c2 x^2. -/
def cmul (a b : F × F × F) : F × F × F :=
  let d0 := a.1 * b.1
  let d1 := a.1 * b.2.1 + a.2.1 * b.1
  let d2 := a.1 * b.2.2 + a.2.1 * b.2.1 + a.2.2 * b.1
  let d3 := a.2.1 * b.2.2 + a.2.2 * b.2.1
  let d4 := a.2.2 * b.2.2
  (d0 - B * d3, d1 + 3 * d3 - B * d4, d2 + 3 * d4)
def cat_ (x : F) (a : F × F × F) : F := a.1 + a.2.1 * x + a.2.2 * (x * x)

theorem cat_mul (x : F) (h : x*x*x - 3*x + B = 0) (a b : F × F × F) : cat_ x (cmul a b) = cat_ x a * cat_ x b := by
  obtain ⟨a0, a1, a2⟩ := a
  obtain ⟨b0, b1, b2⟩ := b
  simp only [cat_, cmul]
  generalize B = B at *
  grind -lia -linarith

def cpow : Nat → F × F × F → Nat → F × F × F
  | 0, _, _ => (1, 0, 0)
  | k + 1, a, e => if e % 2 = 1 then cmul a (cpow k (cmul a a) (e / 2)) else cpow k (cmul a a) (e / 2)

theorem cat_pow (x : F) (h : x*x*x - 3*x + B = 0) : ∀ k a e, e < 2 ^ k → cat_ x (cpow k a e) = fpow (cat_ x a) e := by
  intro k
  induction k with
  | zero => intro a e he; have : e = 0 := by simpa using he
            subst this; show 1 + 0 * x + 0 * (x * x) = 1; rw [f_zm, f_zm, f_az, f_az]
  | succ k ih =>
    intro a e he
    have h2 : e / 2 < 2 ^ k := by rw [Nat.pow_succ] at he; omega
    unfold cpow
    have hh := ih (cmul a a) (e / 2) h2
    rw [cat_mul x h, fpow_two] at hh
    have he2 := Nat.div_add_mod e 2
    split
    · rename_i h1
      rw [cat_mul x h, hh]
      have : e = 2 * (e / 2) + 1 := by omega
      rw [this, fpow]
      have h3 : (2 * (e / 2) + 1) / 2 = e / 2 := by omega
      rw [h3]
      generalize fpow (cat_ x a) (2 * (e / 2)) = q
      grind -lia -linarith
    · have : 2 * (e / 2) = e := by omega
      rw [hh, this]

def vinv : F × F × F := (76626890310466861426869089647039036757962535851890885406097439786770458211455, 74462945259064871768191128030512052509059297803194871526163573358218695456204, 34768139465301476436978405170953382516735956999154666452188405812258086013549)
theorem no_root_test : cmul vinv ((cpow 256 (0, 1, 0) P).1, (cpow 256 (0, 1, 0) P).2.1 - 1, (cpow 256 (0, 1, 0) P).2.2) = (1, 0, 0) := by decide +kernel

theorem no_root (x : F) : x*x*x - 3*x + B ≠ 0 := fun h => by
  have h1 := cat_pow x h 256 (0, 1, 0) P (by decide)
  have h2 : cat_ x (0, 1, 0) = x := by show 0 + 1 * x + 0 * (x * x) = x; grind -lia -linarith
  rw [h2, fpow_fermat x P rfl] at h1
  have h3 := cat_mul x h vinv ((cpow 256 (0, 1, 0) P).1, (cpow 256 (0, 1, 0) P).2.1 - 1, (cpow 256 (0, 1, 0) P).2.2)
  rw [no_root_test] at h3
  have h4 : cat_ x ((cpow 256 (0, 1, 0) P).1, (cpow 256 (0, 1, 0) P).2.1 - 1, (cpow 256 (0, 1, 0) P).2.2) = 0 := by
    generalize cpow 256 (0, 1, 0) P = c at *
    simp only [cat_] at h1 ⊢
    grind -lia -linarith
  rw [h4] at h3
  have h5 : cat_ x (1, 0, 0) = 1 := by show 1 + 0 * x + 0 * (x * x) = 1; rw [f_zm, f_zm, f_az, f_az]
  rw [h5] at h3
  generalize cat_ x vinv = q at *
  exact one_ne (by rw [h3]; grind -lia -linarith)

theorem On.ne {x y : F} (h : On x y) : y ≠ 0 := fun h0 => no_root x (by
  unfold On at h; rw [h0] at h; rw [← h]; grind -lia -linarith)
end EC
end Go.Proofs.Ytjdjhccefnffmaa
