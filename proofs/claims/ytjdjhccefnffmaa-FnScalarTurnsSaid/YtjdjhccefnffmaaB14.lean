import Derived.Test.YtjdjhccefnffmaaB13
import Derived.Test.YtjdjhccefnffmaaB12
import Derived.RegionTactic
import Derived.Deep.RegionWith
import Derived.ArgAppend
import Derived.Laws.IdiomCopy
set_option linter.unusedVariables false
set_option linter.unusedSimpArgs false
set_option maxRecDepth 100000
set_option maxHeartbeats 4000000
namespace Go.Proofs.Ytjdjhccefnffmaa
open Go LX Go.RowKit
/-- z is a power of x. -/
def Pw (x : EC.F) (e : Nat) (z : EC.F) : Prop := z = EC.fpow x e
theorem Pw.cast {x z : EC.F} {e f : Nat} (h : Pw x e z) (hf : e = f) : Pw x f z := hf ▸ h
theorem Pw.one (x : EC.F) : Pw x 1 x := by
  show x = EC.fpow x 0 * x
  show x = 1 * x
  grind -lia -linarith
theorem Pw.mul {x y z u : EC.F} {e f : Nat} (h : Pw x e y) (g : Pw x f z) (hu : u = y * z) : Pw x (e + f) u := by
  rw [hu, h, g]; exact (EC.fpow_add x e f).symm
theorem Pw.dbl {x y u : EC.F} {e k : Nat} (h : Pw x (e * 2 ^ k) y) (hu : u = y * y) : Pw x (e * 2 ^ (k + 1)) u :=
  (h.mul h hu).cast (by rw [Nat.pow_succ, ← Nat.mul_assoc, Nat.mul_two])
theorem Pw.sq {x y : EC.F} {e : Nat} (h : Pw x e y) : ∀ n, Pw x (e * 2 ^ n) (sq n y)
  | 0 => h.cast (by omega)
  | n + 1 => (h.sq n).dbl rfl
theorem Pw.inv {x z : EC.F} {e : Nat} (h : Pw x e z) (he : e = EC.P - 2) : z = EC.inv x := by
  rw [h]
  refine Fin.ext ?_
  rw [EC.fpow_val, EC.inv_val, he]
/-- The candidate of a root. -/
def rt (x : EC.F) : EC.F := EC.fpow x ((EC.P + 1) / 4)
theorem Pw.rt {x z : EC.F} {e : Nat} (h : Pw x e z) (he : e = (EC.P + 1) / 4) : z = Ytjdjhccefnffmaa.rt x := by
  rw [h, he]; rfl
end Go.Proofs.Ytjdjhccefnffmaa
set_option maxRecDepth 100000
set_option maxHeartbeats 4000000
namespace Go.Proofs.Ytjdjhccefnffmaa
open Go LX Go.RowKit
/-- The right side of the curve's equation. -/
def poly (x : EC.F) : EC.F := x * x * x - (x + x + x) + EC.B
theorem c77 {w : World} {p1 p2 q1 q2 : Nat} {x : EC.F} (hs : Sp w p1 p2) (hx : El w q1 q2 x) (hne : p1 ≠ q1) :
    Calls Try.prog 77 #[pt p1 p2, pt q1 q2] w fun e w' => e = .returned (pt p1 p2) ∧ Kp (at_ p1 p2 4) w w' ∧ El w' p1 p2 (poly x) := by
  go_enter Try.func77, Try.ntmps77
  go_wp2_with fail
  refine (c66 (p := (p1, p2)) (q := (q1, q2)) hs hx).mono ?_
  rintro e w1 ⟨rfl, k1, he⟩
  simp only [ptr] at *
  replace hx := hx.kp k1 fun i _ h => hne h.1.symm
  go_wp2_with fail
  refine (c67 (p := (p1, p2)) (q := (p1, p2)) (r := (q1, q2)) he.sp he hx).mono ?_
  clear he
  rintro e w2 ⟨rfl, k2, he⟩
  simp only [ptr] at *
  replace hx := hx.kp k2 fun i _ h => hne h.1.symm
  replace k2 := k1.trans k2 (fun _ _ _ h => h) (fun _ _ _ h => h)
  clear k1 hs
  have hw2 := Lib.hid k2.size
  have ht := El.zero w2 91
  have k3 : Kp non w2 (w2.alloc (.cells #[.int .u64 0, .int .u64 0, .int .u64 0, .int .u64 0] 91)) := (Kp.refl _ w2).alloc _
  have hb : p1 < w2.heap.size := he.lt
  have hxb : q1 < w2.heap.size := hx.lt
  replace hx := hx.kp k3 fun _ _ h => h
  replace he := he.kp k3 fun _ _ h => h
  replace k3 := k2.trans k3 (fun _ _ _ h => h) (fun _ _ _ h => h.elim)
  clear k2
  go_wp2_with fail
  refine (c68 (p := (w2.heap.size, 0)) (q := (q1, q2)) (r := (q1, q2)) ht.sp hx hx).mono ?_
  clear ht
  rintro e w3 ⟨rfl, k4, ht⟩
  simp only [ptr] at *
  replace hx := hx.kp k4 fun i _ h => by have := h.1; omega
  replace he := he.kp k4 fun i _ h => by have := h.1; omega
  have hw := hw2.out
  replace k4 := k3.trans k4 (fun _ _ _ h => h) (fun _ _ _ h => by have := h.1; omega)
  clear k3
  go_wp2_with fail
  refine (c68 (p := (w2.heap.size, 0)) (q := (w2.heap.size, 0)) (r := (q1, q2)) ht.sp ht hx).mono ?_
  clear ht
  rintro e w4 ⟨rfl, k5, ht⟩
  simp only [ptr] at *
  replace he := he.kp k5 fun i _ h => by have := h.1; omega
  replace k5 := k4.trans k5 (fun _ _ _ h => h) (fun _ _ _ h => by have := h.1; omega)
  clear k4 hx
  go_wp2_with fail
  refine (c70 (p := (p1, p2)) (q := (p1, p2)) (r := (w2.heap.size, 0)) he.sp he ht).mono ?_
  clear he ht
  rintro e w5 ⟨rfl, k6, he⟩
  simp only [ptr] at *
  replace k6 := k5.trans k6 (fun _ _ _ h => h) (fun _ _ _ h => h)
  clear k5
  go_wp2_with fail
  refine (c69 w5).mono ?_
  rintro e w6 ⟨b, rfl, -, k7, hB⟩
  replace he := he.kp k7 fun _ _ h => h
  replace k7 := k6.trans k7 (fun _ _ _ h => h) (fun _ _ _ h => h.elim)
  clear k6
  go_wp2_with fail
  refine (c68 (p := (p1, p2)) (q := (p1, p2)) (r := (b, 0)) he.sp he hB).mono ?_
  clear he hB
  rintro e w7 ⟨rfl, k8, he⟩
  simp only [ptr] at *
  replace k8 := k7.trans k8 (fun _ _ _ h => h) (fun _ _ _ h => h)
  clear k7
  go_wp2_with fail
  go_ret
  exact ⟨rfl, k8, he⟩
end Go.Proofs.Ytjdjhccefnffmaa
set_option maxRecDepth 100000
set_option maxHeartbeats 4000000
namespace Go.Proofs.Ytjdjhccefnffmaa
open Go LX Go.RowKit
theorem Pw.set {x y z : EC.F} {e : Nat} (h : Pw x e y) (hz : z = y) : Pw x e z := hz ▸ h
theorem MM.sqn {S : Nat → Nat → Prop} {w0 w : World} {l : List (Nat × EC.F)} (m : MM S w0 w l) (i : Nat) {b q1 q2 n : Nat} {x0 x : EC.F} (h : l[i]? = some (b, x0)) (h1 : 1 ≤ n) (h2 : n ≤ 1000) (hx : El w q1 q2 x) :
    Calls Try.prog 98 #[pt b 0, pt q1 q2, .int .i64 (n : Int)] w fun e w' => e = .returned (.tuple #[]) ∧ ∃ z, Hid (z = sq n x) ∧ MM S w0 w' (l.set i (b, z)) :=
  (c98 h1 h2 (m.get i h).sp hx).mono fun _ _ ⟨e, hk, he⟩ => ⟨e, _, Lib.hid rfl, m.set i h hk he⟩
/-- What the root's function does. -/
def Sq01 (x : EC.F) (p1 p2 : Nat) (w : World) (e : Ending) (w' : World) : Prop :=
  (rt x * rt x = x → e = .returned (.bool true) ∧ Kp (at_ p1 p2 4) w w' ∧ El w' p1 p2 (rt x)) ∧ (rt x * rt x ≠ x → e = .returned (.bool false) ∧ Kp non w w')
theorem c78 {w : World} {p1 p2 q1 q2 : Nat} {x : EC.F} (hs : Sp w p1 p2) (hx : El w q1 q2 x) :
    Calls Try.prog 78 #[pt p1 p2, pt q1 q2] w (Sq01 x p1 p2 w) := by
  have m := MM.nil w
  have qx := Pw.one x
  have hlt : p1 < w.heap.size := by obtain ⟨_, _, _, _, h⟩ := hs; exact h.c0.lt
  go_enter Try.func78, Try.ntmps78
  go_wp2_with fail
  replace m := (m.new 91).new 91
  simp at m
  (refine (m.sqn 0 rfl (n := 1) (by omega) (by omega) (m.old hx)).mono ?_); clear m; rintro e v2 ⟨rfl, z2, hz, m⟩; replace m : MM non w v2 [(w.heap.size, z2), (w.heap.size + 1, 0)] := m
  have q2 := (qx.sq 1).set hz.out
  replace q2 : Pw x 2 z2 := q2.cast (by decide +kernel)
  clear hz
  go_wp2_with fail
  (refine (m.mul 0 rfl (m.old hx) (m.get 0 rfl)).mono ?_); clear m; rintro e v3 ⟨rfl, z3, hz, m⟩; replace m : MM non w v3 [(w.heap.size, z3), (w.heap.size + 1, 0)] := m
  have q3 := (qx.mul q2 hz.out)
  replace q3 : Pw x 3 z3 := q3.cast (by decide +kernel)
  clear hz
  go_wp2_with fail
  (refine (m.sqn 1 rfl (n := 2) (by omega) (by omega) (m.get 0 rfl)).mono ?_); clear m; rintro e v4 ⟨rfl, z4, hz, m⟩; replace m : MM non w v4 [(w.heap.size, z3), (w.heap.size + 1, z4)] := m
  have q4 := (q3.sq 2).set hz.out
  replace q4 : Pw x 12 z4 := q4.cast (by decide +kernel)
  clear hz
  go_wp2_with fail
  (refine (m.mul 0 rfl (m.get 0 rfl) (m.get 1 rfl)).mono ?_); clear m; rintro e v5 ⟨rfl, z5, hz, m⟩; replace m : MM non w v5 [(w.heap.size, z5), (w.heap.size + 1, z4)] := m
  have q5 := (q3.mul q4 hz.out)
  replace q5 : Pw x 15 z5 := q5.cast (by decide +kernel)
  clear hz
  go_wp2_with fail
  (refine (m.sqn 1 rfl (n := 4) (by omega) (by omega) (m.get 0 rfl)).mono ?_); clear m; rintro e v6 ⟨rfl, z6, hz, m⟩; replace m : MM non w v6 [(w.heap.size, z5), (w.heap.size + 1, z6)] := m
  have q6 := (q5.sq 4).set hz.out
  replace q6 : Pw x 240 z6 := q6.cast (by decide +kernel)
  clear hz
  go_wp2_with fail
  (refine (m.mul 0 rfl (m.get 0 rfl) (m.get 1 rfl)).mono ?_); clear m; rintro e v7 ⟨rfl, z7, hz, m⟩; replace m : MM non w v7 [(w.heap.size, z7), (w.heap.size + 1, z6)] := m
  have q7 := (q5.mul q6 hz.out)
  replace q7 : Pw x 255 z7 := q7.cast (by decide +kernel)
  clear hz
  go_wp2_with fail
  (refine (m.sqn 1 rfl (n := 8) (by omega) (by omega) (m.get 0 rfl)).mono ?_); clear m; rintro e v8 ⟨rfl, z8, hz, m⟩; replace m : MM non w v8 [(w.heap.size, z7), (w.heap.size + 1, z8)] := m
  have q8 := (q7.sq 8).set hz.out
  replace q8 : Pw x 65280 z8 := q8.cast (by decide +kernel)
  clear hz
  go_wp2_with fail
  (refine (m.mul 0 rfl (m.get 0 rfl) (m.get 1 rfl)).mono ?_); clear m; rintro e v9 ⟨rfl, z9, hz, m⟩; replace m : MM non w v9 [(w.heap.size, z9), (w.heap.size + 1, z8)] := m
  have q9 := (q7.mul q8 hz.out)
  replace q9 : Pw x 65535 z9 := q9.cast (by decide +kernel)
  clear hz
  go_wp2_with fail
  (refine (m.sqn 1 rfl (n := 16) (by omega) (by omega) (m.get 0 rfl)).mono ?_); clear m; rintro e v10 ⟨rfl, z10, hz, m⟩; replace m : MM non w v10 [(w.heap.size, z9), (w.heap.size + 1, z10)] := m
  have q10 := (q9.sq 16).set hz.out
  replace q10 : Pw x 4294901760 z10 := q10.cast (by decide +kernel)
  clear hz
  go_wp2_with fail
  (refine (m.mul 0 rfl (m.get 0 rfl) (m.get 1 rfl)).mono ?_); clear m; rintro e v11 ⟨rfl, z11, hz, m⟩; replace m : MM non w v11 [(w.heap.size, z11), (w.heap.size + 1, z10)] := m
  have q11 := (q9.mul q10 hz.out)
  replace q11 : Pw x 4294967295 z11 := q11.cast (by decide +kernel)
  clear hz
  go_wp2_with fail
  (refine (m.sqn 0 rfl (n := 32) (by omega) (by omega) (m.get 0 rfl)).mono ?_); clear m; rintro e v12 ⟨rfl, z12, hz, m⟩; replace m : MM non w v12 [(w.heap.size, z12), (w.heap.size + 1, z10)] := m
  have q12 := (q11.sq 32).set hz.out
  replace q12 : Pw x 18446744069414584320 z12 := q12.cast (by decide +kernel)
  clear hz
  go_wp2_with fail
  (refine (m.mul 0 rfl (m.old hx) (m.get 0 rfl)).mono ?_); clear m; rintro e v13 ⟨rfl, z13, hz, m⟩; replace m : MM non w v13 [(w.heap.size, z13), (w.heap.size + 1, z10)] := m
  have q13 := (qx.mul q12 hz.out)
  replace q13 : Pw x 18446744069414584321 z13 := q13.cast (by decide +kernel)
  clear hz
  go_wp2_with fail
  (refine (m.sqn 0 rfl (n := 96) (by omega) (by omega) (m.get 0 rfl)).mono ?_); clear m; rintro e v14 ⟨rfl, z14, hz, m⟩; replace m : MM non w v14 [(w.heap.size, z14), (w.heap.size + 1, z10)] := m
  have q14 := (q13.sq 96).set hz.out
  replace q14 : Pw x 1461501636990620551361974531767172749817708281856 z14 := q14.cast (by decide +kernel)
  clear hz
  go_wp2_with fail
  (refine (m.mul 0 rfl (m.old hx) (m.get 0 rfl)).mono ?_); clear m; rintro e v15 ⟨rfl, z15, hz, m⟩; replace m : MM non w v15 [(w.heap.size, z15), (w.heap.size + 1, z10)] := m
  have q15 := (qx.mul q14 hz.out)
  replace q15 : Pw x 1461501636990620551361974531767172749817708281857 z15 := q15.cast (by decide +kernel)
  clear hz
  go_wp2_with fail
  (refine (m.sqn 0 rfl (n := 94) (by omega) (by omega) (m.get 0 rfl)).mono ?_); clear m; rintro e v16 ⟨rfl, z16, hz, m⟩; replace m : MM non w v16 [(w.heap.size, z16), (w.heap.size + 1, z10)] := m
  have q16 := (q15.sq 94).set hz.out
  replace q16 : Pw x 28948022302589062190674361737351893382521535853822578548883407827216774463488 z16 := q16.cast (by decide +kernel)
  clear hz
  go_wp2_with fail
  have hr := q16.rt (by decide +kernel)
  (refine (m.sqr 1 rfl (m.get 0 rfl)).mono ?_); clear m; rintro e u1 ⟨rfl, y, hy, m⟩; replace m : MM non w u1 [(w.heap.size, z16), (w.heap.size + 1, y)] := m
  have hyy := hy.out
  rw [hr] at hyy
  replace hyy := Lib.hid hyy
  clear hy
  go_wp2_with fail
  refine (c97 (m.get 1 rfl) (m.old hx)).mono ?_
  rintro e u2 ⟨n, rfl, hn, hi, hk⟩
  by_cases hc : y = x
  · have h1 := hi.2 hc
    subst h1
    have hcc := Lib.hid hc
    clear hi hn hc
    have hg := (m.get 0 rfl).kp hk fun _ _ h => h
    have k2 := m.k.non hk
    clear m hk
    have hs2 := hs.kp k2 fun _ _ h => h
    go_wp2_with fail
    refine (c71 (p := (p1, p2)) (q := (w.heap.size, 0)) hs2 hg).mono ?_
    rintro e u3 ⟨rfl, k3, he⟩
    simp only [ptr] at *
    have k4 : Kp (at_ p1 p2 4) w u3 := (k2.wide fun _ _ _ h => h.elim).trans k3 (fun _ _ _ h => h) (fun _ _ _ h => h)
    rw [hr] at he
    clear k2 k3 hs2 hg
    go_wp2_with fail
    go_ret
    exact ⟨fun _ => ⟨rfl, k4, he⟩, fun h => absurd (hyy.out.symm.trans hcc.out) h⟩
  · have h1 : n = 0 := by
      by_cases h : n = 1
      · exact absurd (hi.1 h) hc
      · omega
    subst h1
    have hcc := Lib.hid hc
    have k2 := m.k.non hk
    clear hi hn hc m hk
    go_wp2_with fail
    go_ret
    exact ⟨fun h => absurd (hyy.out.trans h) hcc.out, fun _ => ⟨rfl, k2⟩⟩
/-- What the check of a point does. -/
def On01 (x y : EC.F) (w : World) (e : Ending) (w' : World) : Prop :=
  (y * y = poly x → e = .returned .nilIface) ∧ (y * y ≠ poly x → ∃ b, e = .returned (.iface 138 (.pointer (some ⟨b, 0, none⟩)))) ∧ Kp non w w'
theorem c76 {w : World} {p1 p2 q1 q2 : Nat} {x y : EC.F} (hx : El w p1 p2 x) (hy : El w q1 q2 y) :
    Calls Try.prog 76 #[pt p1 p2, pt q1 q2] w (On01 x y w) := by
  have m := MM.nil w
  have hlt := hx.lt
  go_enter Try.func76, Try.ntmps76
  go_wp2_with fail
  replace m := m.new 91
  replace m : MM non w _ [(w.heap.size, 0)] := m
  refine (c77 (m.get 0 rfl).sp (m.old hx) (by omega)).mono ?_
  rintro e w1 ⟨rfl, hk, he⟩
  replace m := m.set 0 rfl hk he
  replace m : MM non w w1 [(w.heap.size, poly x)] := m
  clear hk he
  go_wp2_with fail
  replace m := m.new 91
  replace m : MM non w _ [(w.heap.size, poly x), (w1.heap.size, 0)] := m
  (refine (m.sqr 1 rfl (m.old hy)).mono ?_); clear m; rintro e w2 ⟨rfl, z, hz, m⟩; replace m : MM non w w2 [(w.heap.size, poly x), (w1.heap.size, z)] := m
  go_wp2_with fail
  refine (c97 (m.get 0 rfl) (m.get 1 rfl)).mono ?_
  rintro e w3 ⟨n, rfl, hn, hi, hk⟩
  have k2 := m.k.non hk
  clear m hk
  have hi2 : n = 1 ↔ y * y = poly x := by
    rw [hi, hz.out]; exact ⟨Eq.symm, Eq.symm⟩
  clear hi hz
  by_cases hc : y * y = poly x
  · have h1 := hi2.2 hc
    subst h1
    have hcc := Lib.hid hc
    clear hi2 hn hc
    go_wp2_with fail
    go_ret
    exact ⟨fun _ => rfl, fun h => absurd hcc.out h, k2⟩
  · have h1 : n = 0 := by
      by_cases h : n = 1
      · exact absurd (hi2.1 h) hc
      · omega
    subst h1
    have hcc := Lib.hid hc
    clear hi2 hn hc
    go_wp2_with fail
    refine (c79 _ _).mono ?_
    rintro e w5 ⟨rfl, hk5⟩
    have k5 := k2.non hk5
    clear k2 hk5
    go_wp2_with fail
    go_ret
    exact ⟨fun h => absurd h hcc.out, fun _ => ⟨_, rfl⟩, k5⟩
end Go.Proofs.Ytjdjhccefnffmaa
set_option maxRecDepth 100000
set_option maxHeartbeats 4000000
namespace Go.Proofs.Ytjdjhccefnffmaa
open Go LX Go.RowKit
/-- Two points that share no cell. -/
def Ap (q1 q2 p1 p2 : Nat) : Prop := q1 ≠ p1 ∨ q2 + 12 ≤ p2 ∨ p2 + 12 ≤ q2
theorem Ap.no {q1 q2 p1 p2 : Nat} (h : Ap q1 q2 p1 p2) (a b : Nat) (ha : a + 4 ≤ 12) (hb : b + 4 ≤ 12) (i : Nat) (hi : i < 4) : ¬ at_ q1 (q2 + a) 4 p1 (p2 + b + i) := by
  rintro ⟨h1, h2, h3⟩
  rcases h with h | h | h
  · exact h h1.symm
  · omega
  · omega
theorem c75 {w : World} {q1 q2 p1 p2 : Nat} {X Y Z : EC.F} (hs : S3 w q1 q2) (hp : P3 w p1 p2 X Y Z) (hd : Ap q1 q2 p1 p2) :
    Calls Try.prog 75 #[pt q1 q2, pt p1 p2] w fun e w' => e = .returned (pt q1 q2) ∧ Kp (at_ q1 q2 12) w w' ∧ P3 w' q1 q2 X Y Z := by
  have hq0 := hs.x.drew
  have hp0 := hp.x.drew
  go_enter Try.func75, Try.ntmps75
  go_wp2_with fail
  go_region_with ((refine (c71 (p := (q1, q2)) (q := (p1, p2)) hq0 hp0).mono ?_); rintro e w1 ⟨rfl, hk0, he0⟩; simp only [ptr] at *)
  have hq1 := (hs.y.drew.kp hk0 fun i _ h => by have := h.2.2; omega).drew
  have hp1 := (hp.y.drew.kp hk0 (fun i hi => hd.no 0 4 (by omega) (by omega) i hi)).drew
  go_wp2_with fail
  go_region_with ((refine (c71 (p := (q1, q2 + 4)) (q := (p1, p2 + 4)) hq1 hp1).mono ?_); rintro e w2 ⟨rfl, hk1, he1⟩; simp only [ptr] at *)
  have hq2 := ((hs.z.drew.kp hk0 fun i _ h => by have := h.2.2; omega).drew.kp hk1 fun i _ h => by have := h.2.2; omega).drew
  have hp2 := ((hp.z.drew.kp hk0 (fun i hi => hd.no 0 8 (by omega) (by omega) i hi)).drew.kp hk1 (fun i hi => hd.no 4 8 (by omega) (by omega) i hi)).drew
  go_wp2_with fail
  go_region_with ((refine (c71 (p := (q1, q2 + 8)) (q := (p1, p2 + 8)) hq2 hp2).mono ?_); rintro e w3 ⟨rfl, hk2, he2⟩; simp only [ptr] at *)
  go_wp2_with fail
  go_ret
  have k0 : Kp (at_ q1 q2 12) w w1 := (Kp.of_drew hk0).wide fun b o _ h => ⟨h.1, by have := h.2; omega, by have := h.2; omega⟩
  have k1 : Kp (at_ q1 q2 12) w1 w2 := (Kp.of_drew hk1).wide fun b o _ h => ⟨h.1, by have := h.2; omega, by have := h.2; omega⟩
  have k2 : Kp (at_ q1 q2 12) w2 w3 := (Kp.of_drew hk2).wide fun b o _ h => ⟨h.1, by have := h.2; omega, by have := h.2; omega⟩
  refine ⟨rfl, (k0.trans k1 (fun _ _ _ h => h) (fun _ _ _ h => h)).trans k2 (fun _ _ _ h => h) (fun _ _ _ h => h), ?_, ?_, ?_⟩
  · exact (he0.kp (Kp.of_drew hk1) fun i _ h => by have := h.2.1; omega).kp (Kp.of_drew hk2) fun i _ h => by have := h.2.1; omega
  · exact he1.kp (Kp.of_drew hk2) fun i _ h => by have := h.2.1; omega
  · exact he2
end Go.Proofs.Ytjdjhccefnffmaa
set_option maxRecDepth 100000
set_option maxHeartbeats 4000000
namespace Go.Proofs.Ytjdjhccefnffmaa
open Go LX Go.RowKit
theorem P3.zero (w : World) (t : TypeId) : P3 (w.alloc (.cells #[.int .u64 0, .int .u64 0, .int .u64 0, .int .u64 0, .int .u64 0, .int .u64 0, .int .u64 0, .int .u64 0, .int .u64 0, .int .u64 0, .int .u64 0, .int .u64 0] t)) w.heap.size 0 0 0 0 :=
  ⟨⟨0, 0, 0, 0, ⟨Cel.new _ _ _ 0 _ rfl, Cel.new _ _ _ 1 _ rfl, Cel.new _ _ _ 2 _ rfl, Cel.new _ _ _ 3 _ rfl, by decide, by decide, by decide, by decide⟩, by decide, by decide +kernel⟩,
   ⟨0, 0, 0, 0, ⟨Cel.new _ _ _ 4 _ rfl, Cel.new _ _ _ 5 _ rfl, Cel.new _ _ _ 6 _ rfl, Cel.new _ _ _ 7 _ rfl, by decide, by decide, by decide, by decide⟩, by decide, by decide +kernel⟩,
   ⟨0, 0, 0, 0, ⟨Cel.new _ _ _ 8 _ rfl, Cel.new _ _ _ 9 _ rfl, Cel.new _ _ _ 10 _ rfl, Cel.new _ _ _ 11 _ rfl, by decide, by decide, by decide, by decide⟩, by decide, by decide +kernel⟩⟩
theorem c44 (w : World) : Calls Try.prog 44 #[] w fun e w' => e = .returned (pt w.heap.size 0) ∧ Kp non w w' ∧ P3 w' w.heap.size 0 0 1 0 := by
  go_enter Try.func44, Try.ntmps44
  go_wp2_with fail
  have hz := P3.zero w 93
  have hk : Kp non w _ := (Kp.refl _ w).alloc (.cells #[.int .u64 0, .int .u64 0, .int .u64 0, .int .u64 0, .int .u64 0, .int .u64 0, .int .u64 0, .int .u64 0, .int .u64 0, .int .u64 0, .int .u64 0, .int .u64 0] 93)
  refine (c65 (p := (w.heap.size, 4)) hz.y.sp).mono ?_
  rintro e w1 ⟨rfl, hk1, he⟩
  simp only [ptr] at *
  go_wp2_with fail
  go_ret
  refine ⟨rfl, hk.trans hk1 (fun _ _ _ h => h) (fun x o _ h => ?_), ?_, he, ?_⟩
  · have := h.1; omega
  · exact hz.x.kp hk1 fun i _ h => by have := h.2.1; omega
  · exact hz.z.kp hk1 fun i _ h => by have := h.2.2; omega
theorem c84 (x y : Nat) (hx : x < 256) (hy : y < 256) (w : World) : Calls Try.prog 84 #[.int .u8 (x : Int), .int .u8 (y : Int)] w fun e w' => e = .returned (.int .i64 ((if x = y then 1 else 0 : Nat) : Int)) ∧ w = w' := by
  by_cases h : x = y
  · subst h
    simp only [if_true]
    go_enter Try.func84, Try.ntmps84
    go_wp2
    go_ret
    exact ⟨rfl, rfl⟩
  · have hb : ((x : Int) == (y : Int)) = false := by simp; omega
    simp only [h, if_false]
    go_enter Try.func84, Try.ntmps84
    go_wp2
    go_ret
    exact ⟨rfl, rfl⟩
end Go.Proofs.Ytjdjhccefnffmaa
set_option maxRecDepth 100000
set_option maxHeartbeats 4000000
namespace Go.Proofs.Ytjdjhccefnffmaa
open Go LX Go.RowKit
theorem By.sub {w : World} {b o n : Nat} {f : Nat → Nat} (h : By w b o n f) (k m : Nat) (hk : k + m ≤ n) : By w b (o + k) m fun i => f (k + i) := fun i hi => by
  have := h (k + i) (by omega)
  rw [← Nat.add_assoc] at this
  exact this
theorem MM.keep {S : Nat → Nat → Prop} {w0 w w' : World} {l : List (Nat × EC.F)} (m : MM S w0 w l) (hk : Kp non w w') : MM S w0 w' l :=
  ⟨m.k.trans hk (fun _ _ _ h => h) (fun _ _ _ h => h.elim), fun e h => ⟨(m.el e h).1, (m.el e h).2.kp hk fun _ _ h => h⟩, m.sep⟩
theorem S3.kp {w w' : World} {b o : Nat} {S : Nat → Nat → Prop} (h : S3 w b o) (hk : Kp S w w') (hS : ∀ i, i < 12 → ¬ S b (o + i)) : S3 w' b o :=
  ⟨h.x.kp hk fun i hi => hS i (by omega), h.y.kp hk fun i hi => by rw [Nat.add_assoc]; exact hS _ (by omega), h.z.kp hk fun i hi => by rw [Nat.add_assoc]; exact hS _ (by omega)⟩
theorem S3.lt {w : World} {b o : Nat} (h : S3 w b o) : b < w.heap.size := by obtain ⟨_, _, _, _, h⟩ := h.x; exact h.c0.lt
/-- A point of the three coordinates' ring, or none: what SetBytes sets. -/
def St01 (P : Option (EC.F × EC.F × EC.F)) (p1 p2 : Nat) (w : World) (e : Ending) (w' : World) : Prop :=
  match P with
  | some (X, Y, Z) => e = .returned (.tuple #[pt p1 p2, .nilIface]) ∧ Kp (at_ p1 p2 12) w w' ∧ P3 w' p1 p2 X Y Z
  | none => ∃ b, e = .returned (.tuple #[.pointer none, .iface 138 (.pointer (some ⟨b, 0, none⟩))]) ∧ Kp non w w'
theorem c55_far {w : World} {p1 p2 b o c : Nat} {f : Nat → Nat} (hs : S3 w p1 p2) (hb : By w b o 1 f) (hf : f 0 = 0) :
    Calls Try.prog 55 #[pt p1 p2, .slice (some ⟨b, o, none⟩) 1 c] w (St01 (some (0, 1, 0)) p1 p2 w) := by
  have h0 : w.cell? ⟨b, o, none⟩ = some (.int .u8 0) := by
    have := (hb 0 (by omega)).1.1
    rw [hf] at this
    exact this
  go_enter Try.func55, Try.ntmps55
  go_wp2_with fail
  refine (c44 w).mono ?_
  rintro e w1 ⟨rfl, hk, hp⟩
  have hs1 : S3 w1 p1 p2 := ⟨hs.x.kp hk fun _ _ h => h, hs.y.kp hk fun _ _ h => h, hs.z.kp hk fun _ _ h => h⟩
  have hne : p1 < w.heap.size := by obtain ⟨_, _, _, _, h⟩ := hs.x; exact h.c0.lt
  clear h0 hb
  go_wp2_with fail
  refine (c75 hs1 hp (.inl (by omega))).mono ?_
  rintro e w2 ⟨rfl, hk2, hp2⟩
  have k2 : Kp (at_ p1 p2 12) w w2 := (hk.wide fun _ _ _ h => h.elim).trans hk2 (fun _ _ _ h => h) (fun _ _ _ h => h)
  clear hk hk2 hp hs1
  go_wp2_with fail
  go_ret2
  exact ⟨rfl, k2, hp2⟩
/-- The point of two numbers. -/
def rdL (X Y : Nat) : Option (EC.F × EC.F × EC.F) := if X < PN ∧ Y < PN ∧ nF Y * nF Y = poly (nF X) then some (nF X, nF Y, 1) else none
theorem rdL_some {X Y : Nat} (h1 : X < PN) (h2 : Y < PN) (h3 : nF Y * nF Y = poly (nF X)) : rdL X Y = some (nF X, nF Y, 1) := if_pos ⟨h1, h2, h3⟩
theorem rdL_none {X Y : Nat} (h : ¬ (X < PN ∧ Y < PN ∧ nF Y * nF Y = poly (nF X))) : rdL X Y = none := if_neg h
/-- A point of two bytes' numbers, where there is one. -/
theorem c55_long {w : World} {p1 p2 b o c : Nat} {f : Nat → Nat} (hs : S3 w p1 p2) (hb : By w b o 65 f) (hf : f 0 = 4) (hc : 65 ≤ c) :
    Calls Try.prog 55 #[pt p1 p2, .slice (some ⟨b, o, none⟩) 65 c] w (St01 (rdL (hi8 (fun i => f (1 + i)) 32) (hi8 (fun i => f (33 + i)) 32)) p1 p2 w) := by
  have h0 : w.cell? ⟨b, o, none⟩ = some (.int .u8 4) := by
    have := (hb 0 (by omega)).1.1
    rw [hf] at this
    exact this
  have hx := hb.sub 1 32 (by omega)
  have hy := hb.sub 33 32 (by omega)
  have hci : (33 : Int) ≤ (c : Int) := by omega
  have hci2 : (65 : Int) ≤ (c : Int) := by omega
  clear hb
  generalize hX : hi8 (fun i => f (1 + i)) 32 = X
  generalize hY : hi8 (fun i => f (33 + i)) 32 = Y
  have m := (MM.nil w).new 91
  replace m : MM non w _ [(w.heap.size, 0)] := m
  have hlt := hs.lt
  go_enter Try.func55, Try.ntmps55
  go_wp2_with fail
  refine (c73 (m.get 0 rfl).sp (hx.kp m.k fun _ _ h => h)).mono ?_
  rintro e w1 ⟨h1, h2⟩
  rw [hX] at h1 h2
  clear hx h0 hX
  by_cases hcx : X < PN
  · obtain ⟨rfl, hk, he⟩ := h1 hcx
    clear h1 h2
    replace m := m.set 0 rfl hk he
    replace m : MM non w w1 [(w.heap.size, nF X)] := m
    clear hk he
    have gx := Lib.hid hcx
    clear hcx
    go_wp2_with fail
    replace m := m.new 91
    replace m : MM non w _ [(w.heap.size, nF X), (w1.heap.size, 0)] := m
    refine (c73 (m.get 1 rfl).sp (hy.kp m.k fun _ _ h => h)).mono ?_
    rintro e w2 ⟨h1, h2⟩
    rw [hY] at h1 h2
    clear hy hY
    by_cases hcy : Y < PN
    · obtain ⟨rfl, hk, he⟩ := h1 hcy
      clear h1 h2
      replace m := m.set 1 rfl hk he
      replace m : MM non w w2 [(w.heap.size, nF X), (w1.heap.size, nF Y)] := m
      clear hk he
      have gy := Lib.hid hcy
      clear hcy
      go_wp2_with fail
      refine (c76 (m.get 0 rfl) (m.get 1 rfl)).mono ?_
      rintro e w3 ⟨h1, h2, hk⟩
      replace m := m.keep hk
      clear hk
      by_cases hon : nF Y * nF Y = poly (nF X)
      · have h3 := h1 hon
        subst h3
        clear h1 h2
        have go := Lib.hid hon
        clear hon
        have hs0 := hs.kp m.k fun _ _ h => h
        replace m := m.wide (T := at_ p1 p2 12) fun _ _ _ h => h.elim
        go_wp2_with fail
        (refine (m.out 0 rfl hs0.x hlt (fun i hi => ⟨rfl, by omega, by omega⟩)).mono ?_); clear m; rintro e w4 ⟨rfl, m, hk0, he0⟩
        have hs1 := hs0.y.kp hk0 fun i _ h => by have := h.2.2; omega
        have hs2 := hs0.z.kp hk0 fun i _ h => by have := h.2.2; omega
        clear hs0
        go_wp2_with fail
        (refine (m.out 1 rfl hs1 hlt (fun i hi => ⟨rfl, by omega, by omega⟩)).mono ?_); clear m; rintro e w5 ⟨rfl, m, hk1, he1⟩
        replace hs2 := hs2.kp hk1 fun i _ h => by have := h.2.2; omega
        go_wp2_with fail
        refine (c65 (p := (p1, p2 + 8)) hs2).mono ?_
        rintro e w6 ⟨rfl, hk2, he2⟩
        simp only [ptr] at *
        have k6 : Kp (at_ p1 p2 12) w w6 := m.k.trans hk2 (fun _ _ _ h => h) (fun _ _ _ h => ⟨h.1, by have := h.2; omega, by have := h.2; omega⟩)
        have hp : P3 w6 p1 p2 (nF X) (nF Y) 1 := ⟨(he0.kp hk1 fun i _ h => by have := h.2.1; omega).kp hk2 fun i _ h => by have := h.2.1; omega, he1.kp hk2 fun i _ h => by have := h.2.1; omega, he2⟩
        clear m hk0 hk1 hk2 he0 he1 he2 hs1 hs2
        go_wp2_with fail
        go_ret2
        rw [rdL_some gx.out gy.out go.out]
        exact ⟨rfl, k6, hp⟩
      · obtain ⟨b2, h3⟩ := h2 hon
        subst h3
        clear h1 h2
        have go := Lib.hid hon
        have k3 := m.k
        clear hon m
        go_wp2_with fail
        go_ret2
        rw [rdL_none fun h => go.out h.2.2]
        exact ⟨b2, rfl, k3⟩
    · obtain ⟨b2, h3, hk⟩ := h2 (by omega)
      subst h3
      have k3 := m.k.non hk
      clear h1 h2 m hk
      have gy := Lib.hid hcy
      clear hcy
      go_wp2_with fail
      go_ret2
      rw [rdL_none fun h => gy.out h.2.1]
      exact ⟨b2, rfl, k3⟩
  · obtain ⟨b2, h3, hk⟩ := h2 (by omega)
    subst h3
    have k3 := m.k.non hk
    clear h1 h2 m hk
    have gx := Lib.hid hcx
    clear hcx
    go_wp2_with fail
    go_ret2
    rw [rdL_none fun h => gx.out h.1]
    exact ⟨b2, rfl, k3⟩
end Go.Proofs.Ytjdjhccefnffmaa
set_option maxRecDepth 100000
set_option maxHeartbeats 4000000
namespace Go.Proofs.Ytjdjhccefnffmaa
open Go LX Go.RowKit
/-- Bytes as a list of cells. -/
def byl (f : Nat → Nat) (n : Nat) : List Value := (List.range n).map fun i => Value.int .u8 (f i : Int)
theorem byl_len (f : Nat → Nat) (n : Nat) : (byl f n).length = n := by simp [byl]
theorem byl_get (f : Nat → Nat) (n j : Nat) (h : j < n) : (byl f n)[j]? = some (.int .u8 (f j : Nat)) := by simp [byl, h]
theorem byl_mem {f : Nat → Nat} {n : Nat} {v : Value} (h : v ∈ byl f n) : v.oneCell' = true := by
  simp only [byl, List.mem_map] at h
  obtain ⟨i, -, rfl⟩ := h
  rfl
theorem By.src {w : World} {b o n : Nat} {f : Nat → Nat} (h : By w b o n f) : ∀ j u, (byl f n)[j]? = some u → w.cell? ((⟨b, o, none⟩ : Addr).add j) = some u := by
  intro j u hu
  have hj : j < n := by
    by_cases h : j < n
    · exact h
    · rw [List.getElem?_eq_none (by rw [byl_len]; omega)] at hu; cases hu
  rw [byl_get f n j hj] at hu
  cases hu
  rw [show (Addr.add ⟨b, o, none⟩ j) = ⟨b, o + j, none⟩ by simp [Addr.add]]
  exact (h j hj).1.1
theorem LX.Kp.setCells {S : Nat → Nat → Prop} {w0 : World} (b : Nat) : ∀ (vs : List Value) (o : Nat) (w : World), Kp S w0 w → (∀ j, j < vs.length → b < w0.heap.size → S b (o + j)) → Kp S w0 (w.setCells b o vs)
  | [], _, _, h, _ => h
  | v :: r, o, w, h, hS => Kp.setCells b r (o + 1) _ (h.setCell v fun hb => hS 0 (by simp) hb) fun j hj hb => by
      have := hS (j + 1) (by simp; omega) hb
      rwa [show o + 1 + j = o + (j + 1) by omega]
theorem By.set {w : World} {b o n : Nat} {f : Nat → Nat} (hc : ∀ j, j < n → ∃ v, Cel w b (o + j) v) (hf : ∀ i, i < n → f i < 256) : By (w.setCells b o (byl f n)) b o n f := fun i hi => by
  refine ⟨⟨?_, ?_⟩, hf i hi⟩
  · have := World.cell?_setCells_in b (byl f n) o w (fun j hj => by rw [byl_len] at hj; obtain ⟨v, h⟩ := hc j hj; rw [h.1]; rfl) i (by rw [byl_len]; exact hi)
    rw [this]
    simp [byl]
  · rw [World.frozen?_setCells]
    obtain ⟨v, h⟩ := hc i hi
    exact h.2
/-- append where there is room. -/
theorem append_in {w : World} {b o n cap b2 o2 m c : Nat} {g : Nat → Nat} (hsrc : By w b2 o2 m g) (hdst : ∀ j, j < m → ∃ v, Cel w b (o + n + j) v) (hroom : n + m ≤ cap) :
    (Builtin.append_ #[22, 22] 22 #[.slice (some ⟨b, o, none⟩) n cap, .slice (some ⟨b2, o2, none⟩) m c]).run Try.prog w = .ok (.slice (some ⟨b, o, none⟩) (n + m) cap) (w.setCells b (o + n) (byl g m)) := by
  have h5 : (Try.prog.info? 5).map (·.size) = some 1 := by kernel_rfl
  obtain ⟨i, hi, h1⟩ := Option.map_eq_some_iff.1 h5
  have := run_append_room_cells (P := Try.prog) w 22 22 5 i (by kernel_rfl) hi b o n cap ⟨b2, o2, none⟩ m c (byl g m) (by rw [byl_len, h1]; omega) hsrc.src (fun u hu => byl_mem hu) hroom
    (fun j hj => by rw [byl_len] at hj; obtain ⟨v, h⟩ := hdst j hj; rw [h1, Nat.mul_one, h.1]; rfl)
    (fun j hj => by rw [byl_len] at hj; obtain ⟨v, h⟩ := hdst j hj; rw [h1, Nat.mul_one]; exact h.2)
  rwa [h1, Nat.mul_one] at this
theorem wpList_append_in {w : World} {ops : Array Oper} {rest : List Oper} {o : Oper} {a : Act} {Q : Exit → Act → World → Prop}
    (hg : o.guard = none) (s x : Operand) (hop : o.op = Op.call { callee := Callee.builtin Builtin.append, args := #[s, x], argTypes := #[22, 22] })
    (b off n cap : Nat) (hs : a.eval s = .slice (some ⟨b, off, none⟩) n cap) (b2 o2 m c : Nat) (hx : a.eval x = .slice (some ⟨b2, o2, none⟩) m c) (g : Nat → Nat)
    (hsrc : By w b2 o2 m g) (hdst : ∀ j, j < m → ∃ v, Cel w b (off + n + j) v) (hroom : n + m ≤ cap)
    (h : wpList Try.prog ops Q rest (a.put o.dst (.slice (some ⟨b, off, none⟩) (n + m) cap)) (w.setCells b (off + n) (byl g m))) :
    wpList Try.prog ops Q (o :: rest) a w := by
  refine wpList_plain hg fun K hK' => ?_
  have h5 : (Try.prog.info? 5).map (·.size) = some 1 := by kernel_rfl
  obtain ⟨i, hi, h1⟩ := Option.map_eq_some_iff.1 h5
  have hrun := run_append_room_cells (P := Try.prog) w 22 o.type 5 i (by kernel_rfl) hi b off n cap ⟨b2, o2, none⟩ m c (byl g m) (by rw [byl_len, h1]; omega) hsrc.src (fun u hu => byl_mem hu) hroom
    (fun j hj => by rw [byl_len] at hj; obtain ⟨v, h⟩ := hdst j hj; rw [h1, Nat.mul_one, h.1]; rfl)
    (fun j hj => by rw [byl_len] at hj; obtain ⟨v, h⟩ := hdst j hj; rw [h1, Nat.mul_one]; exact h.2)
  rw [h1, Nat.mul_one] at hrun
  unfold Oper.wp
  simp [execOp, hop, resolve, invoke, builtin, hs, hx, hrun, Result.andThen]
  exact hK' _ _ h
end Go.Proofs.Ytjdjhccefnffmaa
