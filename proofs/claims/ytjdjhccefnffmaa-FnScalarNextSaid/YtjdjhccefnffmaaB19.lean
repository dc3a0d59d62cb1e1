import Derived.Test.YtjdjhccefnffmaaB18
import Derived.Deep.RegionWith
import Derived.LoopTactic
import Derived.Deep.WholeRow
import Derived.Laws.CopyRow
import Derived.Deep.RegionHeld3
import Derived.Deep.LoopGhost
set_option linter.unusedVariables false
set_option linter.unusedSimpArgs false
set_option maxRecDepth 100000
set_option maxHeartbeats 400000
namespace Go.Proofs.Ytjdjhccefnffmaa
open Go LX Go.RowKit
theorem mul_mod {P : EC.Pt} (hP : P.Ok) (n : Nat) : EC.Pt.mul (n % EC.N) P = EC.Pt.mul n P := by
  have h1 : n = EC.N * (n / EC.N) + n % EC.N := (Nat.div_add_mod n EC.N).symm
  generalize n / EC.N = q at *
  generalize n % EC.N = r at *
  subst h1
  rw [EC.Pt.mul_add hP, ← EC.Pt.mul_mul hP, EC.Pt.order hP EC.N rfl, EC.Pt.mul_far]
  rfl
/-- The bytes of a point. -/
def PtS (w : World) (v : Value) (P : EC.Pt) : Prop := ∃ b cap, v = .slice (some ⟨b, 0, none⟩) (ptN P) cap ∧ ptN P ≤ cap ∧ By w b 0 (ptN P) (ptF P)
theorem ptN_pos (P : EC.Pt) : 0 < ptN P ∧ ptN P ≤ 65 := by cases P <;> simp [ptN]
theorem PtS.kp {w w' : World} {v : Value} {P : EC.Pt} (h : PtS w v P) (hk : Kp non w w') : PtS w' v P := by
  obtain ⟨b, cap, h1, h2, h3⟩ := h
  exact ⟨b, cap, h1, h2, h3.kp hk fun _ _ h => h⟩
theorem PtS.inn {w : World} {v : Value} {P : EC.Pt} (h : PtS w v P) : In w v (ptN P) (ptF P) := by
  obtain ⟨b, cap, h1, h2, h3⟩ := h
  have := ptN_pos P
  exact .inr ⟨by omega, by omega, b, 0, cap, h1, h2, h3⟩
/-- The bytes of a point come back. -/
def Bs01 (P : EC.Pt) (w : World) (e : Ending) (w' : World) : Prop := ∃ v, e = .returned v ∧ PtS w' v P ∧ Kp non w w'
theorem c41s {w : World} {p1 p2 : Nat} {P : EC.Pt} (hp : PtAt w p1 p2 P) : Calls Try.prog 41 #[pt p1 p2] w (Bs01 P w) := by
  refine (c41 hp).mono ?_
  rintro e w' ⟨b, cap, rfl, h1, -, h3, h4⟩
  exact ⟨_, rfl, ⟨b, cap, rfl, h1, h3⟩, h4⟩
theorem ptAt_new {w : World} {b : Nat} (hp : P3 w b 0 0 1 0) : PtAt w b 0 .far := ⟨trivial, _, _, _, hp, rfl, rfl, EC.one_ne⟩
theorem c30 {w : World} : Calls Try.prog 30 #[] w (Bs01 .far w) := by
  go_enter Try.func30, Try.ntmps30
  go_wp2_with fail
  refine (c44 w).mono ?_
  rintro e w1 ⟨rfl, hk, hp⟩
  go_wp2_with fail
  refine (c41s (ptAt_new hp)).mono ?_
  clear hp
  rintro e w2 ⟨v, rfl, h, hk2⟩
  have k2 := hk.non hk2
  clear hk hk2
  go_wp2_with fail
  go_ret
  exact ⟨v, rfl, h, k2⟩
theorem c29 {w : World} : Calls Try.prog 29 #[] w (Bs01 EC.Pt.G w) := by
  go_enter Try.func29, Try.ntmps29
  go_wp2_with fail
  refine (c44 w).mono ?_
  rintro e w1 ⟨rfl, hk, hp⟩
  go_wp2_with fail
  refine (c47 hp.sp).mono ?_
  clear hp
  rintro e w2 ⟨rfl, hk2, hp⟩
  have k2 : Kp non w w2 := hk.trans hk2 (fun _ _ _ h => h) (fun _ _ _ h => by have := h.1; omega)
  clear hk hk2
  go_wp2_with fail
  refine (c41s hp).mono ?_
  clear hp
  rintro e w3 ⟨v, rfl, h, hk3⟩
  have k3 := k2.non hk3
  clear k2 hk3
  go_wp2_with fail
  go_ret
  exact ⟨v, rfl, h, k3⟩
/-- The bytes of a point and true, or nothing and false. -/
def Op01 (R : Option EC.Pt) (w : World) (e : Ending) (w' : World) : Prop :=
  match R with
  | some P => ∃ v, e = .returned (.tuple #[v, .bool true]) ∧ PtS w' v P ∧ Kp non w w'
  | none => e = .returned (.tuple #[.slice none 0 0, .bool false]) ∧ Kp non w w'
def dblO (R : Option EC.Pt) : Option EC.Pt := R.map fun P => P.sum P
theorem c25 {w : World} {n : Nat} {v : Value} {f : Nat → Nat} (hv : In w v n f) : Calls Try.prog 25 #[v] w (Op01 (dblO (rd n f)) w) := by
  have hc := c38 hv
  generalize rd n f = R at hc ⊢
  go_enter Try.func25, Try.ntmps25
  go_wp2_with fail
  refine hc.mono ?_
  clear hc
  rintro e w1 h
  cases R with
  | none =>
    obtain ⟨rfl, hk⟩ := h
    go_wp2_with fail
    go_ret2
    exact ⟨rfl, hk⟩
  | some P =>
    obtain ⟨b, rfl, hle, hk, hp⟩ := h
    go_wp2_with fail
    refine (c44 w1).mono ?_
    rintro e w2 ⟨rfl, hk2, hq⟩
    replace hp := hp.kp hk2 fun _ _ h => h
    have hlt := hk.size
    replace hk := hk.non hk2
    clear hk2
    go_wp2_with fail
    refine (cDbl hq.sp hp).mono ?_
    clear hp hq
    rintro e w3 ⟨rfl, hk3, hp⟩
    have k3 : Kp non w w3 := hk.trans hk3 (fun _ _ _ h => h) (fun _ _ _ h => by have := h.1; omega)
    clear hk hk3
    go_wp2_with fail
    refine (c41s hp).mono ?_
    clear hp
    rintro e w4 ⟨v4, rfl, h, hk4⟩
    have k4 := k3.non hk4
    clear k3 hk4
    go_wp2_with fail
    go_ret2
    exact ⟨v4, rfl, h, k4⟩
end Go.Proofs.Ytjdjhccefnffmaa
set_option maxRecDepth 100000
set_option maxHeartbeats 400000
namespace Go.Proofs.Ytjdjhccefnffmaa
open Go LX Go.RowKit
/-- Two points, in blocks of their own. -/
def Bo01 (P Q : EC.Pt) (w : World) (e : Ending) (w' : World) : Prop :=
  ∃ b c, e = .returned (.tuple #[pt b 0, pt c 0, .bool true]) ∧ w.heap.size ≤ b ∧ w.heap.size ≤ c ∧ Kp non w w' ∧ PtAt w' b 0 P ∧ PtAt w' c 0 Q
theorem c72 {w : World} {n m : Nat} {v u : Value} {f g : Nat → Nat} {P Q : EC.Pt} (hv : In w v n f) (hu : In w u m g) (hP : rd n f = some P) (hQ : rd m g = some Q) : Calls Try.prog 72 #[v, u] w (Bo01 P Q w) := by
  have hc := c38 hv
  rw [hP] at hc
  go_enter Try.func72, Try.ntmps72
  go_wp2_with fail
  refine hc.mono ?_
  clear hc hv hP
  rintro e w1 ⟨b, rfl, hle, hk, hp⟩
  have hc := c38 (hu.kp hk)
  rw [hQ] at hc
  go_wp2_with fail
  refine hc.mono ?_
  clear hc hu hQ
  rintro e w2 ⟨c, rfl, hle2, hk2, hp2⟩
  replace hp := hp.kp hk2 fun _ _ h => h
  have hs := hk.size
  replace hk := hk.non hk2
  clear hk2
  go_wp2_with fail
  go_ret3
  exact ⟨b, c, rfl, hle, Nat.le_trans hs hle2, hk, hp, hp2⟩
theorem c46 {w : World} {n m : Nat} {v u : Value} {f g : Nat → Nat} {P Q : EC.Pt} (hv : In w v n f) (hu : In w u m g) (hP : rd n f = some P) (hQ : rd m g = some Q) : Calls Try.prog 46 #[v, u] w (Op01 (some (P.sum Q)) w) := by
  go_enter Try.func46, Try.ntmps46
  go_wp2_with fail
  refine (c72 hv hu hP hQ).mono ?_
  clear hv hu hP hQ
  rintro e w1 ⟨b, c, rfl, -, -, hk, hp, hq⟩
  go_wp2_with fail
  refine (c44 w1).mono ?_
  rintro e w2 ⟨rfl, hk2, hn⟩
  replace hp := hp.kp hk2 fun _ _ h => h
  replace hq := hq.kp hk2 fun _ _ h => h
  have hlt := hk.size
  replace hk := hk.non hk2
  clear hk2
  go_wp2_with fail
  refine (cAdd hn.sp hp hq).mono ?_
  clear hp hq hn
  rintro e w3 ⟨rfl, hk3, hp⟩
  have k3 : Kp non w w3 := hk.trans hk3 (fun _ _ _ h => h) (fun _ _ _ h => by have := h.1; omega)
  clear hk hk3
  go_wp2_with fail
  refine (c41s hp).mono ?_
  clear hp
  rintro e w4 ⟨v4, rfl, h, hk4⟩
  have k4 := k3.non hk4
  clear k3 hk4
  go_wp2_with fail
  go_ret2
  exact ⟨v4, rfl, h, k4⟩
/-- Bytes of a point, and whether the number was taken. -/
def Sm01 (P : EC.Pt) (ok : Bool) (w : World) (e : Ending) (w' : World) : Prop := ∃ v, e = .returned (.tuple #[v, .bool ok, .bool true]) ∧ PtS w' v P ∧ Kp non w w'
theorem In.is {w : World} {v : Value} {n : Nat} {f : Nat → Nat} (h : In w v n f) : ∃ ad c, v = .slice ad n c := by
  rcases h with ⟨rfl, ⟨ad, c, rfl⟩ | rfl⟩ | ⟨-, -, b, o, c, rfl, -, -⟩
  · exact ⟨_, _, rfl⟩
  · exact ⟨_, _, rfl⟩
  · exact ⟨_, _, rfl⟩
theorem c39i {w : World} {p1 p2 q1 q2 : Nat} {v : Value} {f : Nat → Nat} {Q : EC.Pt} (hs : S3 w p1 p2) (hq : PtAt w q1 q2 Q) (hv : In w v 32 f) :
    Calls Try.prog 39 #[pt p1 p2, pt q1 q2, v] w (Mul01 (hi8 f 32) Q p1 p2 w) := by
  rcases hv with ⟨h, -⟩ | ⟨-, -, b, o, c, rfl, hc, hb⟩
  · omega
  · refine (c39 hs hq hb hc).mono ?_
    rintro e w' ⟨rfl, hk, hp⟩
    rw [mul_mod hq.1] at hp
    exact ⟨rfl, hk, hp⟩
theorem c22 {w : World} {n : Nat} {v u : Value} {f g : Nat → Nat} {P : EC.Pt} (hv : In w v n f) (hu : In w u 32 g) (hP : rd n f = some P) : Calls Try.prog 22 #[v, u] w (Sm01 (EC.Pt.mul (hi8 g 32) P) true w) := by
  have hc := c38 hv
  rw [hP] at hc
  go_enter Try.func22, Try.ntmps22
  go_wp2_with fail
  refine hc.mono ?_
  clear hc hv hP
  rintro e w1 ⟨b, rfl, hle, hk, hp⟩
  replace hu := hu.kp hk
  go_wp2_with fail
  refine (c44 w1).mono ?_
  rintro e w2 ⟨rfl, hk2, hn⟩
  replace hp := hp.kp hk2 fun _ _ h => h
  replace hu := hu.kp hk2
  have hlt := hk.size
  replace hk := hk.non hk2
  clear hk2
  go_wp2_with fail
  refine (c40i hu).mono ?_
  clear hu
  rintro e w3 ⟨v3, rfl, hu, hk3⟩
  replace hp := hp.kp hk3 fun _ _ h => h
  have hn3 := hn.sp.kp hk3 fun _ _ h => h
  replace hk := hk.non hk3
  clear hk3 hn
  go_wp2_with fail
  refine (c39i hn3 hp hu).mono ?_
  clear hp hu hn3
  rintro e w4 ⟨rfl, hk4, hp⟩
  have k4 : Kp non w w4 := hk.trans hk4 (fun _ _ _ h => h) (fun _ _ _ h => by have := h.1; omega)
  clear hk hk4
  go_wp2_with fail
  go_region_with (go_at_call 41; (refine (c41s hp.drew).mono ?_); rintro e w5 ⟨v5, rfl, h, hk5⟩)
  have k5 := k4.non (Kp.of_drew hk5)
  clear k4 hk5 hp
  go_wp2_with fail
  go_ret3
  exact ⟨v5, rfl, h, k5⟩
theorem c22_no {w : World} {n m : Nat} {v u : Value} {f g : Nat → Nat} {P : EC.Pt} (hv : In w v n f) (hu : In w u m g) (hm : m ≠ 32) (hP : rd n f = some P) : Calls Try.prog 22 #[v, u] w (Sm01 .far false w) := by
  have hc := c38 hv
  rw [hP] at hc
  go_enter Try.func22, Try.ntmps22
  go_wp2_with fail
  refine hc.mono ?_
  clear hc hv hP
  rintro e w1 ⟨b, rfl, hle, hk, hp⟩
  replace hu := hu.kp hk
  go_wp2_with fail
  refine (c44 w1).mono ?_
  rintro e w2 ⟨rfl, hk2, hn⟩
  replace hu := hu.kp hk2
  have hlt := hk.size
  replace hk := hk.non hk2
  clear hk2 hp
  go_wp2_with fail
  refine (c40i hu).mono ?_
  clear hu
  rintro e w3 ⟨v3, rfl, hu, hk3⟩
  have hn3 := (ptAt_new hn).kp hk3 fun _ _ h => h
  replace hk := hk.non hk3
  clear hk3 hn
  obtain ⟨ad, c3, rfl⟩ := hu.is
  go_wp2_with fail
  refine (c39_no hm).mono ?_
  clear hu
  rintro e w4 ⟨b4, rfl, hk4⟩
  have hp := hn3.kp hk4 fun _ _ h => h
  have k4 := hk.non hk4
  clear hk hk4 hn3
  go_wp2_with fail
  go_region_with (go_at_call 41; (refine (c41s hp.drew).mono ?_); rintro e w5 ⟨v5, rfl, h, hk5⟩)
  have k5 := k4.non (Kp.of_drew hk5)
  clear k4 hk5 hp
  go_wp2_with fail
  go_ret3
  exact ⟨v5, rfl, h, k5⟩
theorem c14 {w : World} {n : Nat} {v u : Value} {f g : Nat → Nat} {P : EC.Pt} (hv : In w v n f) (hu : In w u 32 g) (hP : rd n f = some P) : Calls Try.prog 14 #[v, u] w (Sm01 (EC.Pt.mul (hi8 g 32) P) true w) := by
  have hc := c38 hv
  rw [hP] at hc
  go_enter Try.func14, Try.ntmps14
  go_wp2_with fail
  refine hc.mono ?_
  clear hc hv hP
  rintro e w1 ⟨b, rfl, hle, hk, hp⟩
  replace hu := hu.kp hk
  go_wp2_with fail
  refine (c40i hu).mono ?_
  clear hu
  rintro e w3 ⟨v3, rfl, hu, hk3⟩
  replace hp := hp.kp hk3 fun _ _ h => h
  replace hk := hk.non hk3
  clear hk3
  go_wp2_with fail
  refine (c39i hp.s3 hp hu).mono ?_
  clear hp hu
  rintro e w4 ⟨rfl, hk4, hp⟩
  have k4 : Kp non w w4 := hk.trans hk4 (fun _ _ _ h => h) (fun _ _ _ h => by have := h.1; omega)
  clear hk hk4
  go_wp2_with fail
  go_region_with (go_at_call 41; (refine (c41s hp.drew).mono ?_); rintro e w5 ⟨v5, rfl, h, hk5⟩)
  have k5 := k4.non (Kp.of_drew hk5)
  clear k4 hk5 hp
  go_wp2_with fail
  go_ret3
  exact ⟨v5, rfl, h, k5⟩
theorem c14_no {w : World} {n m : Nat} {v u : Value} {f g : Nat → Nat} {P : EC.Pt} (hv : In w v n f) (hu : In w u m g) (hm : m ≠ 32) (hP : rd n f = some P) : Calls Try.prog 14 #[v, u] w (Sm01 P false w) := by
  have hc := c38 hv
  rw [hP] at hc
  go_enter Try.func14, Try.ntmps14
  go_wp2_with fail
  refine hc.mono ?_
  clear hc hv hP
  rintro e w1 ⟨b, rfl, hle, hk, hp⟩
  replace hu := hu.kp hk
  go_wp2_with fail
  refine (c40i hu).mono ?_
  clear hu
  rintro e w3 ⟨v3, rfl, hu, hk3⟩
  replace hp := hp.kp hk3 fun _ _ h => h
  replace hk := hk.non hk3
  clear hk3
  obtain ⟨ad, c3, rfl⟩ := hu.is
  go_wp2_with fail
  refine (c39_no hm).mono ?_
  clear hu
  rintro e w4 ⟨b4, rfl, hk4⟩
  replace hp := hp.kp hk4 fun _ _ h => h
  have k4 := hk.non hk4
  clear hk hk4
  go_wp2_with fail
  go_region_with (go_at_call 41; (refine (c41s hp.drew).mono ?_); rintro e w5 ⟨v5, rfl, h, hk5⟩)
  have k5 := k4.non (Kp.of_drew hk5)
  clear k4 hk5 hp
  go_wp2_with fail
  go_ret3
  exact ⟨v5, rfl, h, k5⟩
end Go.Proofs.Ytjdjhccefnffmaa
set_option maxRecDepth 100000
set_option maxHeartbeats 400000
namespace Go.Proofs.Ytjdjhccefnffmaa
open Go LX Go.RowKit
/-- Words of 64 bits, of a sign. -/
def Ws (w : World) (b n : Nat) (g : Nat → Int) : Prop := ∀ i, i < n → Cel w b i (.int .i64 (g i))
theorem Ws.kp {w w' : World} {b n : Nat} {g : Nat → Int} {S : Nat → Nat → Prop} (h : Ws w b n g) (hk : Kp S w w') (hS : ∀ i, i < n → ¬ S b i) : Ws w' b n g := fun i hi => (h i hi).kp hk (hS i hi)
theorem Ws.congr {w : World} {b n : Nat} {g f : Nat → Int} (h : Ws w b n g) (e : ∀ i, i < n → g i = f i) : Ws w b n f := fun i hi => e i hi ▸ h i hi
theorem Ws.drew {w : World} {b n : Nat} {g : Nat → Int} (h : Ws w b n g) : Ws w.drew b n g := fun i hi => h i hi
/-- Eight words as a value. -/
abbrev a8 (g : Nat → Int) : Array Value := #[.int .i64 (g 0), .int .i64 (g 1), .int .i64 (g 2), .int .i64 (g 3), .int .i64 (g 4), .int .i64 (g 5), .int .i64 (g 6), .int .i64 (g 7)]
abbrev a16 (g : Nat → Int) : Array Value := #[.int .i64 (g 0), .int .i64 (g 1), .int .i64 (g 2), .int .i64 (g 3), .int .i64 (g 4), .int .i64 (g 5), .int .i64 (g 6), .int .i64 (g 7), .int .i64 (g 8), .int .i64 (g 9), .int .i64 (g 10), .int .i64 (g 11), .int .i64 (g 12), .int .i64 (g 13), .int .i64 (g 14), .int .i64 (g 15)]
theorem Ws.new8 (w : World) (t : TypeId) (g : Nat → Int) : Ws (w.alloc (.cells (a8 g) t)) w.heap.size 8 g := fun i hi => by
  have : i = 0 ∨ i = 1 ∨ i = 2 ∨ i = 3 ∨ i = 4 ∨ i = 5 ∨ i = 6 ∨ i = 7 := by omega
  rcases this with rfl | rfl | rfl | rfl | rfl | rfl | rfl | rfl <;> exact Cel.new _ _ _ _ _ rfl
theorem Ws.new16 (w : World) (t : TypeId) (g : Nat → Int) : Ws (w.alloc (.cells (a16 g) t)) w.heap.size 16 g := fun i hi => by
  have : i = 0 ∨ i = 1 ∨ i = 2 ∨ i = 3 ∨ i = 4 ∨ i = 5 ∨ i = 6 ∨ i = 7 ∨ i = 8 ∨ i = 9 ∨ i = 10 ∨ i = 11 ∨ i = 12 ∨ i = 13 ∨ i = 14 ∨ i = 15 := by omega
  rcases this with rfl | rfl | rfl | rfl | rfl | rfl | rfl | rfl | rfl | rfl | rfl | rfl | rfl | rfl | rfl | rfl <;> exact Cel.new _ _ _ _ _ rfl
/-- The carry into word i, and the word. -/
def cc (g : Nat → Int) : Nat → Int
  | 0 => 0
  | i + 1 => (cc g i + g i) / 4294967296
def cw (g : Nat → Int) (i : Nat) : Int := (cc g i + g i) % 4294967296
theorem and32 (x : Int) : bits .and .i64 x 4294967295 = x % 4294967296 := by
  have h2 : (BitVec.ofInt 64 4294967295).toNat = 2 ^ 32 - 1 := by decide
  show IntKind.i64.wrap ((BitVec.ofInt 64 x &&& BitVec.ofInt 64 4294967295).toNat : Int) = _
  rw [BitVec.toNat_and, h2, Nat.and_two_pow_sub_one_eq_mod, BitVec.toNat_ofInt, IntKind.wrap_i64]
  omega
theorem cc_bd {g : Nat → Int} (hg : ∀ i, i < 8 → -1152921504606846976 ≤ g i ∧ g i ≤ 1152921504606846976) : ∀ i, i ≤ 8 → -536870912 ≤ cc g i ∧ cc g i ≤ 536870912
  | 0, _ => by simp [cc]
  | i + 1, h => by
    have h1 := cc_bd hg i (by omega)
    have h2 := hg i (by omega)
    simp only [cc]
    omega
/-- The first words done. -/
def upto (f : Nat → Int) (k : Nat) (i : Nat) : Int := if i < k then f i else 0
theorem Ws.step {w w' : World} {b n k : Nat} {f : Nat → Int} (h : Ws w b n (upto f k)) (hw : w' = w.setCell ⟨b, k, none⟩ (.int .i64 (f k))) : Ws w' b n (upto f (k + 1)) := fun i hi => by
  subst hw
  by_cases h1 : i = k
  · subst h1
    have : upto f (i + 1) i = f i := if_pos (by omega)
    rw [this]
    exact (h i hi).set_same _
  · have : upto f (k + 1) i = upto f k i := by
      unfold upto
      by_cases h2 : i < k
      · rw [if_pos h2, if_pos (by omega)]
      · rw [if_neg h2, if_neg (by omega)]
    rw [this]
    exact (h i hi).set_other (.inr (by omega)) _
theorem Ws.other {w w' : World} {b n b' o' : Nat} {f : Nat → Int} {v : Value} (h : Ws w b n f) (hne : b' ≠ b) (hw : w' = w.setCell ⟨b', o', none⟩ v) : Ws w' b n f := fun i hi => by
  subst hw
  exact (h i hi).set_other (.inl hne) _
theorem Ws.upto0 {w : World} {b n : Nat} {f : Nat → Int} (h : Ws w b n fun _ => 0) : Ws w b n (upto f 0) := h.congr fun i _ => by unfold upto; rw [if_neg (by omega)]
theorem Ws.uptoAll {w : World} {b n : Nat} {f : Nat → Int} (h : Ws w b n (upto f n)) : Ws w b n f := h.congr fun i hi => by unfold upto; rw [if_pos hi]
theorem kp_fresh {w wr : World} (h : Kp non w wr) {b : Nat} (hb : w.heap.size ≤ b) (o : Nat) (v : Value) : Kp non w (wr.setCell ⟨b, o, none⟩ v) := h.setCell v fun hlt => absurd hlt (by omega)
theorem kp_fresh8 {w wr : World} (h : Kp non w wr) {b : Nat} (hb : w.heap.size ≤ b) (v0 v1 v2 v3 v4 v5 v6 v7 : Value) : Kp non w ((((((((wr.setCell ⟨b, 0, none⟩ v0).setCell ⟨b, 1, none⟩ v1).setCell ⟨b, 2, none⟩ v2).setCell ⟨b, 3, none⟩ v3).setCell ⟨b, 4, none⟩ v4).setCell ⟨b, 5, none⟩ v5).setCell ⟨b, 6, none⟩ v6).setCell ⟨b, 7, none⟩ v7) :=
  kp_fresh (kp_fresh (kp_fresh (kp_fresh (kp_fresh (kp_fresh (kp_fresh (kp_fresh h hb 0 v0) hb 1 v1) hb 2 v2) hb 3 v3) hb 4 v4) hb 5 v5) hb 6 v6) hb 7 v7
theorem c49 {w : World} {g : Nat → Int} (hg : ∀ i, i < 8 → -1152921504606846976 ≤ g i ∧ g i ≤ 1152921504606846976) :
    Calls Try.prog 49 #[.agg (a8 g)] w fun e w' => e = .returned (.tuple #[.agg (a8 (cw g)), .int .i64 (cc g 8)]) ∧ Kp non w w' := by
  have k0 : Kp non w (((w.alloc (.cells (a8 g) 24)).alloc (.cells (a8 fun _ => 0) 25)).alloc (.cells (a8 fun _ => 0) 25)) := (((Kp.refl _ w).alloc _).alloc _).alloc _
  have h0 := ((Ws.new8 w 24 g).kp ((Kp.refl non _).alloc (.cells (a8 fun _ => 0) 25)) fun _ _ h => h).kp ((Kp.refl non _).alloc (.cells (a8 fun _ => 0) 25)) fun _ _ h => h
  have h1 := (Ws.new8 (w.alloc (.cells (a8 g) 24)) 25 fun _ => 0).kp ((Kp.refl non _).alloc (.cells (a8 fun _ => 0) 25)) fun _ _ h => h
  have h2 := Ws.new8 ((w.alloc (.cells (a8 g) 24)).alloc (.cells (a8 fun _ => 0) 25)) 25 fun _ => 0
  rw [size1] at h1 h2
  rw [size1] at h2
  go_enter Try.func49, Try.ntmps49
  go_wp2_with fail
  have hH := Nat.le_refl w.heap.size
  generalize hHH : w.heap.size = H at *
  go_loopw [5, 6] (fun c i wr => ∃ k : Nat, k ≤ 8 ∧ i = .int .i64 (k : Int) ∧ c = .int .i64 (cc g k) ∧ Kp non w wr ∧ Ws wr H 8 g ∧ Ws wr (H + 1) 8 (fun _ => 0) ∧ Ws wr (H + 1 + 1) 8 (upto (cw g) k)) (fun _ i _ => 8 - (intOf i).toNat)
  case atStart => exact ⟨0, by omega, rfl, rfl, k0, h0, h1, h2.upto0⟩
  case round =>
    clear k0 h0 h1 h2
    obtain ⟨k, hk, rfl, rfl, hkp, h0, h1, h2⟩ := hrel
    by_cases hlt : k < 8
    · have b1 := cc_bd hg k hk
      have b2 := hg k hlt
      have a1 : (k : Int) < 8 := by omega
      have a2 : IntKind.i64.wrap (cc g k + g k) = cc g k + g k := by rw [IntKind.wrap_i64]; omega
      have a3 := and32 (cc g k + g k)
      have c0 := (h0 k hlt).1
      have c2 := (h2 k hlt).1
      have f2 := (h2 k hlt).2
      go_wp2_with fail
      go_roundw
      case rel => exact ⟨k + 1, by omega, by go_num, rfl, kp_fresh hkp (by omega) _ _, h0.other (by omega) rfl, h1.other (by omega) rfl, h2.step rfl⟩
      case measure => simp [intOf]; omega
    · obtain rfl : k = 8 := by omega
      replace h2 := h2.uptoAll
      have d0 := (h2 0 (by omega)).1
      have d1 := (h2 1 (by omega)).1
      have d2 := (h2 2 (by omega)).1
      have d3 := (h2 3 (by omega)).1
      have d4 := (h2 4 (by omega)).1
      have d5 := (h2 5 (by omega)).1
      have d6 := (h2 6 (by omega)).1
      have d7 := (h2 7 (by omega)).1
      have c0 := (h1 0 (by omega)).1
      have cf0 := (h1 0 (by omega)).2
      have c1 := (h1 1 (by omega)).1
      have cf1 := (h1 1 (by omega)).2
      have c2 := (h1 2 (by omega)).1
      have cf2 := (h1 2 (by omega)).2
      have c3 := (h1 3 (by omega)).1
      have cf3 := (h1 3 (by omega)).2
      have c4 := (h1 4 (by omega)).1
      have cf4 := (h1 4 (by omega)).2
      have c5 := (h1 5 (by omega)).1
      have cf5 := (h1 5 (by omega)).2
      have c6 := (h1 6 (by omega)).1
      have cf6 := (h1 6 (by omega)).2
      have c7 := (h1 7 (by omega)).1
      have cf7 := (h1 7 (by omega)).2
      clear h0 h1 h2
      go_wp2_with fail
      refine bodyPost_ret (v := .tuple #[.agg (a8 (cw g)), .int .i64 (cc g 8)]) (by simp [results, Try.results49, go_sem, *]) rfl ?_
      exact ⟨rfl, kp_fresh8 hkp (by omega) _ _ _ _ _ _ _ _⟩
end Go.Proofs.Ytjdjhccefnffmaa
set_option maxRecDepth 100000
set_option maxHeartbeats 400000
namespace Go.Proofs.Ytjdjhccefnffmaa
open Go LX Go.RowKit
/-- One word changed. -/
def wset (h : Nat → Int) (n : Nat) (v : Int) (j : Nat) : Int := if j = n then v else h j
theorem Ws.set {w : World} {b m n : Nat} {h : Nat → Int} (hw : Ws w b m h) (v : Int) : Ws (w.setCell ⟨b, n, none⟩ (.int .i64 v)) b m (wset h n v) := fun j hj => by
  unfold wset
  by_cases e : j = n
  · subst e; rw [if_pos rfl]; exact (hw j hj).set_same _
  · rw [if_neg e]; exact (hw j hj).set_other (.inr (Ne.symm e)) _
/-- t times the power of word i, put into words below. -/
def fold (h : Nat → Int) (i : Nat) (t : Int) : Nat → Int :=
  wset (wset (wset (wset h (i - 1) (h (i - 1) + t)) (i - 2) (h (i - 2) - t)) (i - 5) (h (i - 5) - t)) (i - 8) (h (i - 8) + t)
theorem wset_ne {h : Nat → Int} {n m : Nat} {v : Int} (e : m ≠ n) : wset h n v m = h m := if_neg e
theorem c74 {w : World} {b i : Nat} {t : Int} {h : Nat → Int} (hw : Ws w b 16 h) (hi : 8 ≤ i) (hi2 : i ≤ 15) (ht : -1152921504606846976 ≤ t ∧ t ≤ 1152921504606846976)
    (hb : ∀ j, j < 16 → -1152921504606846976 ≤ h j ∧ h j ≤ 1152921504606846976) :
    Calls Try.prog 74 #[pt b 0, .int .i64 (i : Int), .int .i64 t] w fun e w' => e = .returned (.tuple #[]) ∧ Kp (at_ b 0 16) w w' ∧ Ws w' b 16 (fold h i t) := by
  obtain ⟨n1, e1⟩ : ∃ n, n = i - 1 := ⟨_, rfl⟩
  obtain ⟨n2, e2⟩ : ∃ n, n = i - 2 := ⟨_, rfl⟩
  obtain ⟨n3, e3⟩ : ∃ n, n = i - 5 := ⟨_, rfl⟩
  obtain ⟨n4, e4⟩ : ∃ n, n = i - 8 := ⟨_, rfl⟩
  have g1 : IntKind.i64.wrap ((i : Int) - 1) = (n1 : Int) := by rw [IntKind.wrap_i64]; omega
  have g2 : IntKind.i64.wrap ((i : Int) - 2) = (n2 : Int) := by rw [IntKind.wrap_i64]; omega
  have g3 : IntKind.i64.wrap ((i : Int) - 5) = (n3 : Int) := by rw [IntKind.wrap_i64]; omega
  have g4 : IntKind.i64.wrap ((i : Int) - 8) = (n4 : Int) := by rw [IntKind.wrap_i64]; omega
  have l1 : n1 < 16 := by omega
  have l2 : n2 < 16 := by omega
  have l3 : n3 < 16 := by omega
  have l4 : n4 < 16 := by omega
  have b1 := hb n1 l1
  have b2 := hb n2 l2
  have b3 := hb n3 l3
  have b4 := hb n4 l4
  have s1 : IntKind.i64.wrap (h n1 + t) = h n1 + t := by rw [IntKind.wrap_i64]; omega
  have s2 : IntKind.i64.wrap (h n2 - t) = h n2 - t := by rw [IntKind.wrap_i64]; omega
  have s3 : IntKind.i64.wrap (h n3 - t) = h n3 - t := by rw [IntKind.wrap_i64]; omega
  have s4 : IntKind.i64.wrap (h n4 + t) = h n4 + t := by rw [IntKind.wrap_i64]; omega
  have z1 : (n1 : Int) < 16 := by omega
  have z2 : (n2 : Int) < 16 := by omega
  have z3 : (n3 : Int) < 16 := by omega
  have z4 : (n4 : Int) < 16 := by omega
  have hlt := (hw 0 (by omega)).lt
  have kk := Kp.refl (at_ b 0 16) w
  have v1 := Lib.hid (wset_ne (h := h) (n := n1) (m := n2) (v := h n1 + t) (by omega))
  have v2 := Lib.hid ((wset_ne (h := wset h n1 (h n1 + t)) (n := n2) (m := n3) (v := h n2 - t) (by omega)).trans (wset_ne (by omega)))
  have v3 := Lib.hid (((wset_ne (h := wset (wset h n1 (h n1 + t)) n2 (h n2 - t)) (n := n3) (m := n4) (v := h n3 - t) (by omega)).trans (wset_ne (by omega))).trans (wset_ne (by omega)))
  have hf : Hid (fold h i t = wset (wset (wset (wset h n1 (h n1 + t)) n2 (h n2 - t)) n3 (h n3 - t)) n4 (h n4 + t)) := Lib.hid (by subst e1 e2 e3 e4; rfl)
  clear e1 e2 e3 e4 b1 b2 b3 b4 hb ht hi hi2
  go_enter Try.func74, Try.ntmps74
  go_wp2_with fail
  have cc := (hw.drew n1 l1).1
  have cf := (hw.drew n1 l1).2
  go_region
  replace hw := (hw.set (n := n1) (h n1 + t)).drew
  replace kk := (kk.setCell (k := b) (o := n1) (.int .i64 (h n1 + t)) fun _ => ⟨rfl, by omega, by omega⟩).drew
  generalize (w.setCell ⟨b, n1, none⟩ (.int .i64 (h n1 + t))).drew = x1 at *
  clear cc cf
  go_wp2_with fail
  have cc := (hw.drew n2 l2).1
  have cf := (hw.drew n2 l2).2
  rw [v1.out] at cc
  go_region
  replace hw := (hw.set (n := n2) (h n2 - t)).drew
  replace kk := (kk.setCell (k := b) (o := n2) (.int .i64 (h n2 - t)) fun _ => ⟨rfl, by omega, by omega⟩).drew
  generalize (x1.setCell ⟨b, n2, none⟩ (.int .i64 (h n2 - t))).drew = x2 at *
  clear cc cf
  go_wp2_with fail
  have cc := (hw.drew n3 l3).1
  have cf := (hw.drew n3 l3).2
  rw [v2.out] at cc
  go_region
  replace hw := (hw.set (n := n3) (h n3 - t)).drew
  replace kk := (kk.setCell (k := b) (o := n3) (.int .i64 (h n3 - t)) fun _ => ⟨rfl, by omega, by omega⟩).drew
  generalize (x2.setCell ⟨b, n3, none⟩ (.int .i64 (h n3 - t))).drew = x3 at *
  clear cc cf
  go_wp2_with fail
  have cc := (hw.drew n4 l4).1
  have cf := (hw.drew n4 l4).2
  rw [v3.out] at cc
  go_region
  replace hw := (hw.set (n := n4) (h n4 + t)).drew
  replace kk := (kk.setCell (k := b) (o := n4) (.int .i64 (h n4 + t)) fun _ => ⟨rfl, by omega, by omega⟩).drew
  generalize (x3.setCell ⟨b, n4, none⟩ (.int .i64 (h n4 + t))).drew = x4 at *
  clear cc cf
  go_wp2_with fail
  go_end0
  rw [hf.out]
  exact ⟨rfl, kk, hw⟩
end Go.Proofs.Ytjdjhccefnffmaa
set_option maxRecDepth 100000
set_option maxHeartbeats 400000
namespace Go.Proofs.Ytjdjhccefnffmaa
open Go LX Go.RowKit
/-- The number of eight words. -/
def val8 (g : Nat → Int) : Int := g 0 + 4294967296 * (g 1 + 4294967296 * (g 2 + 4294967296 * (g 3 + 4294967296 * (g 4 + 4294967296 * (g 5 + 4294967296 * (g 6 + 4294967296 * g 7))))))
def W32 (g : Nat → Int) : Prop := ∀ i, i < 8 → 0 ≤ g i ∧ g i < 4294967296
theorem val8_lt {g f : Nat → Int} (hg : W32 g) (hf : W32 f) {m : Nat} (hm : m < 8) (he : ∀ j, m < j → j < 8 → g j = f j) (hl : g m < f m) : val8 g < val8 f := by
  have g0 := hg 0 (by omega); have g1 := hg 1 (by omega); have g2 := hg 2 (by omega); have g3 := hg 3 (by omega)
  have g4 := hg 4 (by omega); have g5 := hg 5 (by omega); have g6 := hg 6 (by omega); have g7 := hg 7 (by omega)
  have f0 := hf 0 (by omega); have f1 := hf 1 (by omega); have f2 := hf 2 (by omega); have f3 := hf 3 (by omega)
  have f4 := hf 4 (by omega); have f5 := hf 5 (by omega); have f6 := hf 6 (by omega); have f7 := hf 7 (by omega)
  have e1 := he 1; have e2 := he 2; have e3 := he 3; have e4 := he 4; have e5 := he 5; have e6 := he 6; have e7 := he 7
  have : m = 0 ∨ m = 1 ∨ m = 2 ∨ m = 3 ∨ m = 4 ∨ m = 5 ∨ m = 6 ∨ m = 7 := by omega
  simp only [val8]
  rcases this with rfl | rfl | rfl | rfl | rfl | rfl | rfl | rfl <;> omega
theorem val8_eq {g f : Nat → Int} (he : ∀ j, j < 8 → g j = f j) : val8 g = val8 f := by
  simp only [val8]
  rw [he 0 (by omega), he 1 (by omega), he 2 (by omega), he 3 (by omega), he 4 (by omega), he 5 (by omega), he 6 (by omega), he 7 (by omega)]
/-- Less. -/
def Lt01 (g f : Nat → Int) (w : World) (e : Ending) (w' : World) : Prop := ∃ b : Bool, e = .returned (.bool b) ∧ (b = true ↔ val8 g < val8 f) ∧ Kp non w w'
theorem c32 {w : World} {g f : Nat → Int} (hg : W32 g) (hf : W32 f) : Calls Try.prog 32 #[.agg (a8 g), .agg (a8 f)] w (Lt01 g f w) := by
  have k0 : Kp non w ((w.alloc (.cells (a8 g) 25)).alloc (.cells (a8 f) 25)) := ((Kp.refl _ w).alloc _).alloc _
  have h0 := (Ws.new8 w 25 g).kp ((Kp.refl non _).alloc (.cells (a8 f) 25)) fun _ _ h => h
  have h1 := Ws.new8 (w.alloc (.cells (a8 g) 25)) 25 f
  rw [size1] at h1
  go_enter Try.func32, Try.ntmps32
  go_wp2_with fail
  generalize hHH : w.heap.size = H at *
  go_loopw [5] (fun i wr => ((∃ m : Nat, m ≤ 7 ∧ i = .int .i64 (m : Int) ∧ Hid (∀ j, m < j → j < 8 → g j = f j)) ∨ (i = .int .i64 (-1) ∧ Hid (∀ j, j < 8 → g j = f j))) ∧ Kp non w wr ∧ Ws wr H 8 g ∧ Ws wr (H + 1) 8 f) (fun i _ => (intOf i + 1).toNat)
  case atStart => exact ⟨.inl ⟨7, by omega, rfl, Lib.hid fun j h1 h2 => by omega⟩, k0, h0, h1⟩
  case round =>
    clear k0 h0 h1
    obtain ⟨⟨m, hm, rfl, he⟩ | ⟨rfl, he⟩, hkp, h0, h1⟩ := hrel
    · have a1 : (0 : Int) ≤ (m : Int) := by omega
      have a2 : (m : Int) < 8 := by omega
      have c0 := (h0.drew m (by omega)).1
      have c1 := (h1.drew m (by omega)).1
      have c2 := (h0.drew.drew m (by omega)).1
      have c3 := (h1.drew.drew m (by omega)).1
      by_cases hq : g m = f m
      · rw [hq] at c0
        clear c2 c3
        go_wp2_with fail
        go_region
        go_wp2_with fail
        go_roundw
        case rel =>
          refine ⟨?_, hkp.drew, h0.drew, h1.drew⟩
          by_cases hm0 : m = 0
          · subst hm0
            refine .inr ⟨by go_num, Lib.hid fun j hj => ?_⟩
            by_cases h : j = 0
            · subst h; exact hq
            · exact he.out j (by omega) hj
          · refine .inl ⟨m - 1, by omega, by go_num, Lib.hid fun j hj h8 => ?_⟩
            by_cases h : j = m
            · subst h; exact hq
            · exact he.out j (by omega) h8
        case measure => simp [intOf]
      · have q1 : (g m == f m) = false := by simpa using hq
        have q2 : (g m != f m) = true := by simpa using hq
        have kd := hkp.drew.drew
        have hd : (decide (g m < f m) = true ↔ val8 g < val8 f) := by
          rw [decide_eq_true_eq]
          constructor
          · intro h; exact val8_lt hg hf (by omega) he.out h
          · intro h
            by_cases h2 : g m < f m
            · exact h2
            · have := val8_lt hf hg (show m < 8 by omega) (fun j h1 h2 => (he.out j h1 h2).symm) (by omega)
              omega
        have hdh := Lib.hid hd
        clear hd
        go_wp2_with fail
        go_region
        go_wp2_with fail
        go_region
        go_wp2_with fail
        go_ret
        exact ⟨_, rfl, hdh.out, kd⟩
    · have hv := val8_eq he.out
      go_wp2_with fail
      go_ret
      exact ⟨false, rfl, ⟨fun h => (by cases h), fun h => (by omega)⟩, hkp⟩
end Go.Proofs.Ytjdjhccefnffmaa
set_option maxRecDepth 100000
set_option maxHeartbeats 1000000
namespace Go.Proofs.Ytjdjhccefnffmaa
open Go LX Go.RowKit
theorem cw_W32 (g : Nat → Int) : W32 (cw g) := fun i _ => by unfold cw; omega
theorem val8_cw (g : Nat → Int) : val8 (cw g) + 115792089237316195423570985008687907853269984665640564039457584007913129639936 * cc g 8 = val8 g := by
  have h0 : cc g 1 * 4294967296 + cw g 0 = g 0 := by show ((0 : Int) + g 0) / 4294967296 * 4294967296 + (0 + g 0) % 4294967296 = g 0; omega
  have h : ∀ i, cc g (i + 1) * 4294967296 + cw g i = cc g i + g i := fun i => by show (cc g i + g i) / 4294967296 * 4294967296 + (cc g i + g i) % 4294967296 = cc g i + g i; omega
  have h1 := h 1; have h2 := h 2; have h3 := h 3; have h4 := h 4; have h5 := h 5; have h6 := h 6; have h7 := h 7
  simp only [Nat.reduceAdd] at h1 h2 h3 h4 h5 h6 h7
  simp only [val8]
  generalize cw g 0 = x0 at *; generalize cw g 1 = x1 at *; generalize cw g 2 = x2 at *; generalize cw g 3 = x3 at *
  generalize cw g 4 = x4 at *; generalize cw g 5 = x5 at *; generalize cw g 6 = x6 at *; generalize cw g 7 = x7 at *
  generalize cc g 1 = y1 at *; generalize cc g 2 = y2 at *; generalize cc g 3 = y3 at *; generalize cc g 4 = y4 at *
  generalize cc g 5 = y5 at *; generalize cc g 6 = y6 at *; generalize cc g 7 = y7 at *; generalize cc g 8 = y8 at *
  omega
theorem val8_range {g : Nat → Int} (h : W32 g) : 0 ≤ val8 g ∧ val8 g < 115792089237316195423570985008687907853269984665640564039457584007913129639936 := by
  have g0 := h 0 (by omega); have g1 := h 1 (by omega); have g2 := h 2 (by omega); have g3 := h 3 (by omega)
  have g4 := h 4 (by omega); have g5 := h 5 (by omega); have g6 := h 6 (by omega); have g7 := h 7 (by omega)
  simp only [val8]
  omega
/-- Word i of a number. -/
def wdI (n : Int) (i : Nat) : Int := n / 4294967296 ^ i % 4294967296
theorem wdI_val8 {g : Nat → Int} (h : W32 g) : ∀ i, i < 8 → g i = wdI (val8 g) i := by
  have g0 := h 0 (by omega); have g1 := h 1 (by omega); have g2 := h 2 (by omega); have g3 := h 3 (by omega)
  have g4 := h 4 (by omega); have g5 := h 5 (by omega); have g6 := h 6 (by omega); have g7 := h 7 (by omega)
  intro i hi
  have : i = 0 ∨ i = 1 ∨ i = 2 ∨ i = 3 ∨ i = 4 ∨ i = 5 ∨ i = 6 ∨ i = 7 := by omega
  simp only [wdI, val8]
  rcases this with rfl | rfl | rfl | rfl | rfl | rfl | rfl | rfl <;> omega
def val16 (g : Nat → Int) : Int := val8 g + 115792089237316195423570985008687907853269984665640564039457584007913129639936 * val8 fun i => g (8 + i)
def pI : Int := 115792089210356248762697446949407573530086143415290314195533631308867097853951
theorem wset_eq {h : Nat → Int} {n : Nat} {v : Int} : wset h n v n = v := if_pos rfl
theorem fold_val (h : Nat → Int) (m : Nat) (h1 : 8 ≤ m) (h2 : m ≤ 15) : ∃ q, val16 (fold (wset h m 0) m (h m)) = val16 h + pI * q := by
  refine ⟨-(h m * 4294967296 ^ (m - 8)), ?_⟩
  have : m = 8 ∨ m = 9 ∨ m = 10 ∨ m = 11 ∨ m = 12 ∨ m = 13 ∨ m = 14 ∨ m = 15 := by omega
  rcases this with rfl | rfl | rfl | rfl | rfl | rfl | rfl | rfl <;> simp [val16, val8, fold, wset, pI] <;> omega
theorem fold_bd {h : Nat → Int} {m : Nat} {B : Int} (h1 : 8 ≤ m) (h2 : m ≤ 15) (hb : ∀ j, j < 16 → -B ≤ h j ∧ h j ≤ B) : ∀ j, j < 16 → -(2 * B) ≤ fold (wset h m 0) m (h m) j ∧ fold (wset h m 0) m (h m) j ≤ 2 * B := by
  intro j hj
  have hm := hb m (by omega)
  have a := hb j hj
  have b1 := hb (m - 1) (by omega)
  have b2 := hb (m - 2) (by omega)
  have b5 := hb (m - 5) (by omega)
  have b8 := hb (m - 8) (by omega)
  unfold fold wset
  rw [if_neg (show ¬ m - 1 = m by omega), if_neg (show ¬ m - 2 = m by omega), if_neg (show ¬ m - 5 = m by omega), if_neg (show ¬ m - 8 = m by omega)]
  generalize h (m - 1) = x1 at *
  generalize h (m - 2) = x2 at *
  generalize h (m - 5) = x5 at *
  generalize h (m - 8) = x8 at *
  generalize h j = y at *
  generalize h m = z at *
  by_cases e8 : j = m - 8
  · rw [if_pos e8]; omega
  · rw [if_neg e8]
    by_cases e5 : j = m - 5
    · rw [if_pos e5]; omega
    · rw [if_neg e5]
      by_cases e2 : j = m - 2
      · rw [if_pos e2]; omega
      · rw [if_neg e2]
        by_cases e1 : j = m - 1
        · rw [if_pos e1]; omega
        · rw [if_neg e1]
          by_cases e : j = m
          · rw [if_pos e]; omega
          · rw [if_neg e]; omega
theorem fold_zero {h : Nat → Int} {m : Nat} (h1 : 8 ≤ m) (hz : ∀ j, m < j → j < 16 → h j = 0) : ∀ j, m - 1 < j → j < 16 → fold (wset h m 0) m (h m) j = 0 := by
  intro j hj h16
  unfold fold
  rw [wset_ne (by omega), wset_ne (by omega), wset_ne (by omega), wset_ne (by omega)]
  unfold wset
  by_cases e : j = m
  · rw [if_pos e]
  · rw [if_neg e]; exact hz j (by omega) h16
end Go.Proofs.Ytjdjhccefnffmaa
set_option maxRecDepth 100000
set_option maxHeartbeats 1000000
namespace Go.Proofs.Ytjdjhccefnffmaa
open Go LX Go.RowKit
theorem ws8 {w : World} {b n : Nat} {g : Nat → Int} (h : Ws w b n g) (hn : 8 ≤ n) : w.cell? ⟨b, 0, none⟩ = some (.int .i64 (g 0)) ∧ w.cell? ⟨b, 1, none⟩ = some (.int .i64 (g 1)) ∧ w.cell? ⟨b, 2, none⟩ = some (.int .i64 (g 2)) ∧ w.cell? ⟨b, 3, none⟩ = some (.int .i64 (g 3)) ∧ w.cell? ⟨b, 4, none⟩ = some (.int .i64 (g 4)) ∧ w.cell? ⟨b, 5, none⟩ = some (.int .i64 (g 5)) ∧ w.cell? ⟨b, 6, none⟩ = some (.int .i64 (g 6)) ∧ w.cell? ⟨b, 7, none⟩ = some (.int .i64 (g 7)) :=
  ⟨(h 0 (by omega)).1, (h 1 (by omega)).1, (h 2 (by omega)).1, (h 3 (by omega)).1, (h 4 (by omega)).1, (h 5 (by omega)).1, (h 6 (by omega)).1, (h 7 (by omega)).1⟩
theorem wf8 {w : World} {b n : Nat} {g : Nat → Int} (h : Ws w b n g) (hn : 8 ≤ n) : w.frozen? ⟨b, 0, none⟩ = false ∧ w.frozen? ⟨b, 1, none⟩ = false ∧ w.frozen? ⟨b, 2, none⟩ = false ∧ w.frozen? ⟨b, 3, none⟩ = false ∧ w.frozen? ⟨b, 4, none⟩ = false ∧ w.frozen? ⟨b, 5, none⟩ = false ∧ w.frozen? ⟨b, 6, none⟩ = false ∧ w.frozen? ⟨b, 7, none⟩ = false :=
  ⟨(h 0 (by omega)).2, (h 1 (by omega)).2, (h 2 (by omega)).2, (h 3 (by omega)).2, (h 4 (by omega)).2, (h 5 (by omega)).2, (h 6 (by omega)).2, (h 7 (by omega)).2⟩
/-- Eight words written. -/
abbrev st8 (w : World) (b : Nat) (g : Nat → Int) : World := ((((((((w.setCell ⟨b, 0, none⟩ (.int .i64 (g 0))).setCell ⟨b, 1, none⟩ (.int .i64 (g 1))).setCell ⟨b, 2, none⟩ (.int .i64 (g 2))).setCell ⟨b, 3, none⟩ (.int .i64 (g 3))).setCell ⟨b, 4, none⟩ (.int .i64 (g 4))).setCell ⟨b, 5, none⟩ (.int .i64 (g 5))).setCell ⟨b, 6, none⟩ (.int .i64 (g 6))).setCell ⟨b, 7, none⟩ (.int .i64 (g 7)))
theorem Ws.st8 {w : World} {b : Nat} {f : Nat → Int} (h : Ws w b 8 f) (g : Nat → Int) : Ws (st8 w b g) b 8 g := by
  have := (((((((h.set (n := 0) (g 0)).set (n := 1) (g 1)).set (n := 2) (g 2)).set (n := 3) (g 3)).set (n := 4) (g 4)).set (n := 5) (g 5)).set (n := 6) (g 6)).set (n := 7) (g 7)
  refine this.congr fun i hi => ?_
  have : i = 0 ∨ i = 1 ∨ i = 2 ∨ i = 3 ∨ i = 4 ∨ i = 5 ∨ i = 6 ∨ i = 7 := by omega
  rcases this with rfl | rfl | rfl | rfl | rfl | rfl | rfl | rfl <;> simp [wset]
theorem Ws.st8o {w : World} {b b' n : Nat} {f : Nat → Int} (h : Ws w b' n f) (g : Nat → Int) (hne : b ≠ b') : Ws (Ytjdjhccefnffmaa.st8 w b g) b' n f :=
  (((((((h.other (o' := 0) hne rfl).other (o' := 1) hne rfl).other (o' := 2) hne rfl).other (o' := 3) hne rfl).other (o' := 4) hne rfl).other (o' := 5) hne rfl).other (o' := 6) hne rfl).other (o' := 7) hne rfl
theorem kp_st8 {w wr : World} (h : Kp non w wr) {b : Nat} (hb : w.heap.size ≤ b) (g : Nat → Int) : Kp non w (st8 wr b g) := kp_fresh8 h hb _ _ _ _ _ _ _ _
theorem st8_size (w : World) (b : Nat) (g : Nat → Int) : (st8 w b g).heap.size = w.heap.size := by simp
/-- The prime's words. -/
def pW (i : Nat) : Int := [4294967295, 4294967295, 4294967295, 0, 0, 0, 1, 4294967295].getD i 0
theorem pW_W32 : W32 pW := by
  intro i hi
  have : i = 0 ∨ i = 1 ∨ i = 2 ∨ i = 3 ∨ i = 4 ∨ i = 5 ∨ i = 6 ∨ i = 7 := by omega
  rcases this with rfl | rfl | rfl | rfl | rfl | rfl | rfl | rfl <;> decide
theorem pW_val : val8 pW = pI := by decide +kernel
theorem c33 {w : World} : Calls Try.prog 33 #[] w fun e w' => e = .returned (.agg (a8 pW)) ∧ Kp non w w' := by
  go_enter Try.func33, Try.ntmps33
  go_wp2_with fail
  refine bodyPost_ret (v := .agg (a8 pW)) (by simp [results, Try.results33, go_sem, pW]) rfl ?_
  exact ⟨rfl, (Kp.refl _ w).alloc _⟩
theorem arrayAt8 (ad : Addr) (c : Nat) (w : World) : (Instr.arrayAt 24 (.slice (some ad) 8 c)).run Try.prog w = .ok (.pointer (some ad)) w := by kernel_rfl
/-- Eight words before nothing. -/
def lo8 (a : Nat → Int) (j : Nat) : Int := if j < 8 then a j else 0
theorem copy8 {w : World} {b c : Nat} {a : Nat → Int} (h : Ws w b 8 a) :
    (Builtin.copy_ #[113, 113] 3 #[.slice (some ⟨w.heap.size, 0, none⟩) 8 16, .slice (some ⟨b, 0, none⟩) 8 c]).run Try.prog ((w.alloc (.cells (a16 fun _ => 0) 76)).drew) =
      .ok (.int .i64 8) ((w.alloc (.cells (a16 (lo8 a)) 76)).drew) := by
  refine (run_copy_row (P := Try.prog) ((w.alloc (.cells (a16 fun _ => 0) 76)).drew) 113 113 3 2 w.heap.size 0 8 16 ⟨b, 0, none⟩ 8 c (a16 fun _ => 0) 76 (a8 a).toList (by kernel_rfl) (by kernel_rfl) (heap_alloc_last _ _) (by rfl) ?_ (by simp) (by simp [Value.oneCell'])).trans ?_
  · intro j v hv
    have hj : j < 8 := by
      by_cases h : j < 8
      · exact h
      · rw [List.getElem?_eq_none (by simp; omega)] at hv; cases hv
    have h2 := ((h j hj).alloc (.cells (a16 fun _ => 0) 76)).1
    rw [show (Addr.add ⟨b, 0, none⟩ j) = ⟨b, j, none⟩ from by simp [Addr.add]; omega]
    have e : (a8 a).toList[j]? = some (.int .i64 (a j)) := by
      have : j = 0 ∨ j = 1 ∨ j = 2 ∨ j = 3 ∨ j = 4 ∨ j = 5 ∨ j = 6 ∨ j = 7 := by omega
      rcases this with rfl | rfl | rfl | rfl | rfl | rfl | rfl | rfl <;> rfl
    rw [e] at hv
    cases hv
    exact h2
  · have := World.setRow_alloc_new w (a16 fun _ => 0) (a16 (lo8 a)) 76
    show _ = Result.ok _ (w.alloc (.cells (a16 (lo8 a)) 76)).drew
    rw [← this]
    rfl
end Go.Proofs.Ytjdjhccefnffmaa
