import Derived.Test.YtjdjhccefnffmaaB13
import Derived.RegionTactic
import Derived.Deep.RegionWith
import Derived.Test.YtjdjhccefnffmaaB14
import Derived.Test.YtjdjhccefnffmaaB15
set_option linter.unusedVariables false
set_option linter.unusedSimpArgs false
set_option maxRecDepth 100000
set_option maxHeartbeats 4000000
namespace Go.Proofs.Ytjdjhccefnffmaa
open Go LX Go.RowKit
theorem c45 {w : World} {q1 q2 p1 p2 : Nat} {X Y Z : EC.F} (hs : S3 w q1 q2) (hp : P3 w p1 p2 X Y Z) :
    Calls Try.prog 45 #[pt q1 q2, pt p1 p2] w fun e w' => e = .returned (pt q1 q2) ∧ Kp (at_ q1 q2 12) w w' ∧ P3 w' q1 q2 (EC.fX EC.B X Y Z X Y Z) (EC.fY EC.B X Y Z X Y Z) (8 * Y * Y * Y * Z) := by
  have hlt : q1 < w.heap.size := by obtain ⟨_, _, _, _, h⟩ := hs.x; exact h.c0.lt
  have m := MM.nil w
  go_enter Try.func45, Try.ntmps45
  go_wp2_with fail
  replace m := m.new 91
  (refine (m.sqr 0 rfl (m.old hp.x)).mono ?_); clear m; rintro e w1 ⟨rfl, z1, hz1, m⟩; replace m : MM non w w1 [(w.heap.size, z1)] := m
  go_wp2_with fail
  replace m := m.new 91
  (refine (m.sqr 1 rfl (m.old hp.y)).mono ?_); clear m; rintro e w2 ⟨rfl, z2, hz2, m⟩; replace m : MM non w w2 [(w.heap.size, z1), (w1.heap.size, z2)] := m
  go_wp2_with fail
  replace m := m.new 91
  (refine (m.sqr 2 rfl (m.old hp.z)).mono ?_); clear m; rintro e w3 ⟨rfl, z3, hz3, m⟩; replace m : MM non w w3 [(w.heap.size, z1), (w1.heap.size, z2), (w2.heap.size, z3)] := m
  go_wp2_with fail
  replace m := m.new 91
  replace m := m.drew
  go_region_with ((refine (m.mul 3 rfl (m.old hp.x) (m.old hp.y)).mono ?_); clear m; rintro e w4 ⟨rfl, z4, hz4, m⟩; replace m : MM non w w4 [(w.heap.size, z1), (w1.heap.size, z2), (w2.heap.size, z3), (w3.heap.size, z4)] := m)
  go_wp2_with fail
  (refine (m.add 3 rfl (m.get 3 rfl) (m.get 3 rfl)).mono ?_); clear m; rintro e w5 ⟨rfl, z5, hz5, m⟩; replace m : MM non w w5 [(w.heap.size, z1), (w1.heap.size, z2), (w2.heap.size, z3), (w3.heap.size, z5)] := m
  go_wp2_with fail
  replace m := m.new 91
  replace m := m.drew
  go_region_with ((refine (m.mul 4 rfl (m.old hp.x) (m.old hp.z)).mono ?_); clear m; rintro e w6 ⟨rfl, z6, hz6, m⟩; replace m : MM non w w6 [(w.heap.size, z1), (w1.heap.size, z2), (w2.heap.size, z3), (w3.heap.size, z5), (w5.heap.size, z6)] := m)
  go_wp2_with fail
  (refine (m.add 4 rfl (m.get 4 rfl) (m.get 4 rfl)).mono ?_); clear m; rintro e w7 ⟨rfl, z7, hz7, m⟩; replace m : MM non w w7 [(w.heap.size, z1), (w1.heap.size, z2), (w2.heap.size, z3), (w3.heap.size, z5), (w5.heap.size, z7)] := m
  go_wp2_with fail
  replace m := m.new 91
  (refine m.pB.mono ?_); clear m; rintro e w8 ⟨b6, rfl, m⟩; replace m : MM non w w8 [(w.heap.size, z1), (w1.heap.size, z2), (w2.heap.size, z3), (w3.heap.size, z5), (w5.heap.size, z7), (w7.heap.size, 0), (b6, EC.B)] := m
  go_wp2_with fail
  (refine (m.mul 5 rfl (m.get 6 rfl) (m.get 2 rfl)).mono ?_); clear m; rintro e w9 ⟨rfl, z9, hz9, m⟩; replace m : MM non w w9 [(w.heap.size, z1), (w1.heap.size, z2), (w2.heap.size, z3), (w3.heap.size, z5), (w5.heap.size, z7), (w7.heap.size, z9), (b6, EC.B)] := m
  go_wp2_with fail
  (refine (m.sub 5 rfl (m.get 5 rfl) (m.get 4 rfl)).mono ?_); clear m; rintro e w10 ⟨rfl, z10, hz10, m⟩; replace m : MM non w w10 [(w.heap.size, z1), (w1.heap.size, z2), (w2.heap.size, z3), (w3.heap.size, z5), (w5.heap.size, z7), (w7.heap.size, z10), (b6, EC.B)] := m
  go_wp2_with fail
  replace m := m.new 91
  (refine (m.add 7 rfl (m.get 5 rfl) (m.get 5 rfl)).mono ?_); clear m; rintro e w11 ⟨rfl, z11, hz11, m⟩; replace m : MM non w w11 [(w.heap.size, z1), (w1.heap.size, z2), (w2.heap.size, z3), (w3.heap.size, z5), (w5.heap.size, z7), (w7.heap.size, z10), (b6, EC.B), (w10.heap.size, z11)] := m
  go_wp2_with fail
  (refine (m.add 5 rfl (m.get 7 rfl) (m.get 5 rfl)).mono ?_); clear m; rintro e w12 ⟨rfl, z12, hz12, m⟩; replace m : MM non w w12 [(w.heap.size, z1), (w1.heap.size, z2), (w2.heap.size, z3), (w3.heap.size, z5), (w5.heap.size, z7), (w7.heap.size, z12), (b6, EC.B), (w10.heap.size, z11)] := m
  go_wp2_with fail
  (refine (m.sub 7 rfl (m.get 1 rfl) (m.get 5 rfl)).mono ?_); clear m; rintro e w13 ⟨rfl, z13, hz13, m⟩; replace m : MM non w w13 [(w.heap.size, z1), (w1.heap.size, z2), (w2.heap.size, z3), (w3.heap.size, z5), (w5.heap.size, z7), (w7.heap.size, z12), (b6, EC.B), (w10.heap.size, z13)] := m
  go_wp2_with fail
  (refine (m.add 5 rfl (m.get 1 rfl) (m.get 5 rfl)).mono ?_); clear m; rintro e w14 ⟨rfl, z14, hz14, m⟩; replace m : MM non w w14 [(w.heap.size, z1), (w1.heap.size, z2), (w2.heap.size, z3), (w3.heap.size, z5), (w5.heap.size, z7), (w7.heap.size, z14), (b6, EC.B), (w10.heap.size, z13)] := m
  go_wp2_with fail
  (refine (m.mul 5 rfl (m.get 7 rfl) (m.get 5 rfl)).mono ?_); clear m; rintro e w15 ⟨rfl, z15, hz15, m⟩; replace m : MM non w w15 [(w.heap.size, z1), (w1.heap.size, z2), (w2.heap.size, z3), (w3.heap.size, z5), (w5.heap.size, z7), (w7.heap.size, z15), (b6, EC.B), (w10.heap.size, z13)] := m
  go_wp2_with fail
  (refine (m.mul 7 rfl (m.get 7 rfl) (m.get 3 rfl)).mono ?_); clear m; rintro e w16 ⟨rfl, z16, hz16, m⟩; replace m : MM non w w16 [(w.heap.size, z1), (w1.heap.size, z2), (w2.heap.size, z3), (w3.heap.size, z5), (w5.heap.size, z7), (w7.heap.size, z15), (b6, EC.B), (w10.heap.size, z16)] := m
  go_wp2_with fail
  (refine (m.add 3 rfl (m.get 2 rfl) (m.get 2 rfl)).mono ?_); clear m; rintro e w17 ⟨rfl, z17, hz17, m⟩; replace m : MM non w w17 [(w.heap.size, z1), (w1.heap.size, z2), (w2.heap.size, z3), (w3.heap.size, z17), (w5.heap.size, z7), (w7.heap.size, z15), (b6, EC.B), (w10.heap.size, z16)] := m
  go_wp2_with fail
  (refine (m.add 2 rfl (m.get 2 rfl) (m.get 3 rfl)).mono ?_); clear m; rintro e w18 ⟨rfl, z18, hz18, m⟩; replace m : MM non w w18 [(w.heap.size, z1), (w1.heap.size, z2), (w2.heap.size, z18), (w3.heap.size, z17), (w5.heap.size, z7), (w7.heap.size, z15), (b6, EC.B), (w10.heap.size, z16)] := m
  go_wp2_with fail
  (refine m.pB.mono ?_); clear m; rintro e w19 ⟨b8, rfl, m⟩; replace m : MM non w w19 [(w.heap.size, z1), (w1.heap.size, z2), (w2.heap.size, z18), (w3.heap.size, z17), (w5.heap.size, z7), (w7.heap.size, z15), (b6, EC.B), (w10.heap.size, z16), (b8, EC.B)] := m
  go_wp2_with fail
  (refine (m.mul 4 rfl (m.get 8 rfl) (m.get 4 rfl)).mono ?_); clear m; rintro e w20 ⟨rfl, z20, hz20, m⟩; replace m : MM non w w20 [(w.heap.size, z1), (w1.heap.size, z2), (w2.heap.size, z18), (w3.heap.size, z17), (w5.heap.size, z20), (w7.heap.size, z15), (b6, EC.B), (w10.heap.size, z16), (b8, EC.B)] := m
  go_wp2_with fail
  (refine (m.sub 4 rfl (m.get 4 rfl) (m.get 2 rfl)).mono ?_); clear m; rintro e w21 ⟨rfl, z21, hz21, m⟩; replace m : MM non w w21 [(w.heap.size, z1), (w1.heap.size, z2), (w2.heap.size, z18), (w3.heap.size, z17), (w5.heap.size, z21), (w7.heap.size, z15), (b6, EC.B), (w10.heap.size, z16), (b8, EC.B)] := m
  go_wp2_with fail
  (refine (m.sub 4 rfl (m.get 4 rfl) (m.get 0 rfl)).mono ?_); clear m; rintro e w22 ⟨rfl, z22, hz22, m⟩; replace m : MM non w w22 [(w.heap.size, z1), (w1.heap.size, z2), (w2.heap.size, z18), (w3.heap.size, z17), (w5.heap.size, z22), (w7.heap.size, z15), (b6, EC.B), (w10.heap.size, z16), (b8, EC.B)] := m
  go_wp2_with fail
  (refine (m.add 3 rfl (m.get 4 rfl) (m.get 4 rfl)).mono ?_); clear m; rintro e w23 ⟨rfl, z23, hz23, m⟩; replace m : MM non w w23 [(w.heap.size, z1), (w1.heap.size, z2), (w2.heap.size, z18), (w3.heap.size, z23), (w5.heap.size, z22), (w7.heap.size, z15), (b6, EC.B), (w10.heap.size, z16), (b8, EC.B)] := m
  go_wp2_with fail
  (refine (m.add 4 rfl (m.get 4 rfl) (m.get 3 rfl)).mono ?_); clear m; rintro e w24 ⟨rfl, z24, hz24, m⟩; replace m : MM non w w24 [(w.heap.size, z1), (w1.heap.size, z2), (w2.heap.size, z18), (w3.heap.size, z23), (w5.heap.size, z24), (w7.heap.size, z15), (b6, EC.B), (w10.heap.size, z16), (b8, EC.B)] := m
  go_wp2_with fail
  (refine (m.add 3 rfl (m.get 0 rfl) (m.get 0 rfl)).mono ?_); clear m; rintro e w25 ⟨rfl, z25, hz25, m⟩; replace m : MM non w w25 [(w.heap.size, z1), (w1.heap.size, z2), (w2.heap.size, z18), (w3.heap.size, z25), (w5.heap.size, z24), (w7.heap.size, z15), (b6, EC.B), (w10.heap.size, z16), (b8, EC.B)] := m
  go_wp2_with fail
  (refine (m.add 0 rfl (m.get 3 rfl) (m.get 0 rfl)).mono ?_); clear m; rintro e w26 ⟨rfl, z26, hz26, m⟩; replace m : MM non w w26 [(w.heap.size, z26), (w1.heap.size, z2), (w2.heap.size, z18), (w3.heap.size, z25), (w5.heap.size, z24), (w7.heap.size, z15), (b6, EC.B), (w10.heap.size, z16), (b8, EC.B)] := m
  go_wp2_with fail
  (refine (m.sub 0 rfl (m.get 0 rfl) (m.get 2 rfl)).mono ?_); clear m; rintro e w27 ⟨rfl, z27, hz27, m⟩; replace m : MM non w w27 [(w.heap.size, z27), (w1.heap.size, z2), (w2.heap.size, z18), (w3.heap.size, z25), (w5.heap.size, z24), (w7.heap.size, z15), (b6, EC.B), (w10.heap.size, z16), (b8, EC.B)] := m
  go_wp2_with fail
  (refine (m.mul 0 rfl (m.get 0 rfl) (m.get 4 rfl)).mono ?_); clear m; rintro e w28 ⟨rfl, z28, hz28, m⟩; replace m : MM non w w28 [(w.heap.size, z28), (w1.heap.size, z2), (w2.heap.size, z18), (w3.heap.size, z25), (w5.heap.size, z24), (w7.heap.size, z15), (b6, EC.B), (w10.heap.size, z16), (b8, EC.B)] := m
  go_wp2_with fail
  (refine (m.add 5 rfl (m.get 5 rfl) (m.get 0 rfl)).mono ?_); clear m; rintro e w29 ⟨rfl, z29, hz29, m⟩; replace m : MM non w w29 [(w.heap.size, z28), (w1.heap.size, z2), (w2.heap.size, z18), (w3.heap.size, z25), (w5.heap.size, z24), (w7.heap.size, z29), (b6, EC.B), (w10.heap.size, z16), (b8, EC.B)] := m
  go_wp2_with fail
  replace m := m.drew
  go_region_with ((refine (m.mul 0 rfl (m.old hp.y) (m.old hp.z)).mono ?_); clear m; rintro e w30 ⟨rfl, z30, hz30, m⟩; replace m : MM non w w30 [(w.heap.size, z30), (w1.heap.size, z2), (w2.heap.size, z18), (w3.heap.size, z25), (w5.heap.size, z24), (w7.heap.size, z29), (b6, EC.B), (w10.heap.size, z16), (b8, EC.B)] := m)
  go_wp2_with fail
  (refine (m.add 0 rfl (m.get 0 rfl) (m.get 0 rfl)).mono ?_); clear m; rintro e w31 ⟨rfl, z31, hz31, m⟩; replace m : MM non w w31 [(w.heap.size, z31), (w1.heap.size, z2), (w2.heap.size, z18), (w3.heap.size, z25), (w5.heap.size, z24), (w7.heap.size, z29), (b6, EC.B), (w10.heap.size, z16), (b8, EC.B)] := m
  go_wp2_with fail
  (refine (m.mul 4 rfl (m.get 0 rfl) (m.get 4 rfl)).mono ?_); clear m; rintro e w32 ⟨rfl, z32, hz32, m⟩; replace m : MM non w w32 [(w.heap.size, z31), (w1.heap.size, z2), (w2.heap.size, z18), (w3.heap.size, z25), (w5.heap.size, z32), (w7.heap.size, z29), (b6, EC.B), (w10.heap.size, z16), (b8, EC.B)] := m
  go_wp2_with fail
  (refine (m.sub 7 rfl (m.get 7 rfl) (m.get 4 rfl)).mono ?_); clear m; rintro e w33 ⟨rfl, z33, hz33, m⟩; replace m : MM non w w33 [(w.heap.size, z31), (w1.heap.size, z2), (w2.heap.size, z18), (w3.heap.size, z25), (w5.heap.size, z32), (w7.heap.size, z29), (b6, EC.B), (w10.heap.size, z33), (b8, EC.B)] := m
  go_wp2_with fail
  (refine (m.mul 4 rfl (m.get 0 rfl) (m.get 1 rfl)).mono ?_); clear m; rintro e w34 ⟨rfl, z34, hz34, m⟩; replace m : MM non w w34 [(w.heap.size, z31), (w1.heap.size, z2), (w2.heap.size, z18), (w3.heap.size, z25), (w5.heap.size, z34), (w7.heap.size, z29), (b6, EC.B), (w10.heap.size, z33), (b8, EC.B)] := m
  go_wp2_with fail
  (refine (m.add 4 rfl (m.get 4 rfl) (m.get 4 rfl)).mono ?_); clear m; rintro e w35 ⟨rfl, z35, hz35, m⟩; replace m : MM non w w35 [(w.heap.size, z31), (w1.heap.size, z2), (w2.heap.size, z18), (w3.heap.size, z25), (w5.heap.size, z35), (w7.heap.size, z29), (b6, EC.B), (w10.heap.size, z33), (b8, EC.B)] := m
  go_wp2_with fail
  (refine (m.add 4 rfl (m.get 4 rfl) (m.get 4 rfl)).mono ?_); clear m; rintro e w36 ⟨rfl, z36, hz36, m⟩; replace m : MM non w w36 [(w.heap.size, z31), (w1.heap.size, z2), (w2.heap.size, z18), (w3.heap.size, z25), (w5.heap.size, z36), (w7.heap.size, z29), (b6, EC.B), (w10.heap.size, z33), (b8, EC.B)] := m
  have hs0 := hs.x.kp m.k fun _ _ h => h
  have hs1 := hs.y.kp m.k fun _ _ h => h
  have hs2 := hs.z.kp m.k fun _ _ h => h
  replace m := m.wide (T := at_ q1 q2 12) fun _ _ _ h => h.elim
  go_wp2_with fail
  (refine (m.out 7 rfl hs0 hlt (fun i hi => ⟨rfl, by omega, by omega⟩)).mono ?_); clear m; rintro e w37 ⟨rfl, m, hk0, he0⟩
  replace hs1 := hs1.kp hk0 fun i _ h => by have := h.2.2; omega
  replace hs2 := hs2.kp hk0 fun i _ h => by have := h.2.2; omega
  go_wp2_with fail
  (refine (m.out 5 rfl hs1 hlt (fun i hi => ⟨rfl, by omega, by omega⟩)).mono ?_); clear m; rintro e w38 ⟨rfl, m, hk1, he1⟩
  replace hs2 := hs2.kp hk1 fun i _ h => by have := h.2.2; omega
  go_wp2_with fail
  (refine (m.out 4 rfl hs2 hlt (fun i hi => ⟨rfl, by omega, by omega⟩)).mono ?_); clear m; rintro e w39 ⟨rfl, m, hk2, he2⟩
  go_wp2_with fail
  go_ret
  refine ⟨rfl, m.k, ?_, ?_, ?_⟩
  · refine El.cast ((he0.kp hk1 fun i _ h => by have := h.2.1; omega).kp hk2 fun i _ h => by have := h.2.1; omega) ?_
    clear m he0 he1 he2
    replace hz1 := hz1.out; replace hz2 := hz2.out; replace hz3 := hz3.out; replace hz4 := hz4.out; replace hz5 := hz5.out; replace hz6 := hz6.out; replace hz7 := hz7.out; replace hz9 := hz9.out; replace hz10 := hz10.out; replace hz11 := hz11.out; replace hz12 := hz12.out; replace hz13 := hz13.out; replace hz14 := hz14.out; replace hz15 := hz15.out; replace hz16 := hz16.out; replace hz17 := hz17.out; replace hz18 := hz18.out; replace hz20 := hz20.out; replace hz21 := hz21.out; replace hz22 := hz22.out; replace hz23 := hz23.out; replace hz24 := hz24.out; replace hz25 := hz25.out; replace hz26 := hz26.out; replace hz27 := hz27.out; replace hz28 := hz28.out; replace hz29 := hz29.out; replace hz30 := hz30.out; replace hz31 := hz31.out; replace hz32 := hz32.out; replace hz33 := hz33.out; replace hz34 := hz34.out; replace hz35 := hz35.out; replace hz36 := hz36.out
    subst hz1 hz2 hz3 hz4 hz5 hz6 hz7 hz9 hz10 hz11 hz12 hz13 hz14 hz15 hz16 hz17 hz18 hz20 hz21 hz22 hz23 hz24 hz25 hz26 hz27 hz28 hz29 hz30 hz31 hz32 hz33 hz34 hz35 hz36
    simp only [EC.fX]
    grind -lia -linarith
  · refine El.cast (he1.kp hk2 fun i _ h => by have := h.2.1; omega) ?_
    clear m he0 he1 he2
    replace hz1 := hz1.out; replace hz2 := hz2.out; replace hz3 := hz3.out; replace hz4 := hz4.out; replace hz5 := hz5.out; replace hz6 := hz6.out; replace hz7 := hz7.out; replace hz9 := hz9.out; replace hz10 := hz10.out; replace hz11 := hz11.out; replace hz12 := hz12.out; replace hz13 := hz13.out; replace hz14 := hz14.out; replace hz15 := hz15.out; replace hz16 := hz16.out; replace hz17 := hz17.out; replace hz18 := hz18.out; replace hz20 := hz20.out; replace hz21 := hz21.out; replace hz22 := hz22.out; replace hz23 := hz23.out; replace hz24 := hz24.out; replace hz25 := hz25.out; replace hz26 := hz26.out; replace hz27 := hz27.out; replace hz28 := hz28.out; replace hz29 := hz29.out; replace hz30 := hz30.out; replace hz31 := hz31.out; replace hz32 := hz32.out; replace hz33 := hz33.out; replace hz34 := hz34.out; replace hz35 := hz35.out; replace hz36 := hz36.out
    subst hz1 hz2 hz3 hz4 hz5 hz6 hz7 hz9 hz10 hz11 hz12 hz13 hz14 hz15 hz16 hz17 hz18 hz20 hz21 hz22 hz23 hz24 hz25 hz26 hz27 hz28 hz29 hz30 hz31 hz32 hz33 hz34 hz35 hz36
    simp only [EC.fY]
    grind -lia -linarith
  · refine El.cast he2 ?_
    clear m he0 he1 he2
    replace hz1 := hz1.out; replace hz2 := hz2.out; replace hz3 := hz3.out; replace hz4 := hz4.out; replace hz5 := hz5.out; replace hz6 := hz6.out; replace hz7 := hz7.out; replace hz9 := hz9.out; replace hz10 := hz10.out; replace hz11 := hz11.out; replace hz12 := hz12.out; replace hz13 := hz13.out; replace hz14 := hz14.out; replace hz15 := hz15.out; replace hz16 := hz16.out; replace hz17 := hz17.out; replace hz18 := hz18.out; replace hz20 := hz20.out; replace hz21 := hz21.out; replace hz22 := hz22.out; replace hz23 := hz23.out; replace hz24 := hz24.out; replace hz25 := hz25.out; replace hz26 := hz26.out; replace hz27 := hz27.out; replace hz28 := hz28.out; replace hz29 := hz29.out; replace hz30 := hz30.out; replace hz31 := hz31.out; replace hz32 := hz32.out; replace hz33 := hz33.out; replace hz34 := hz34.out; replace hz35 := hz35.out; replace hz36 := hz36.out
    subst hz1 hz2 hz3 hz4 hz5 hz6 hz7 hz9 hz10 hz11 hz12 hz13 hz14 hz15 hz16 hz17 hz18 hz20 hz21 hz22 hz23 hz24 hz25 hz26 hz27 hz28 hz29 hz30 hz31 hz32 hz33 hz34 hz35 hz36
    grind -lia -linarith
end Go.Proofs.Ytjdjhccefnffmaa
set_option maxRecDepth 100000
set_option maxHeartbeats 4000000
namespace Go.Proofs.Ytjdjhccefnffmaa
open Go LX Go.RowKit
theorem c62 {w : World} {q1 q2 p1 p2 r1 r2 : Nat} {X Y Z X2 Y2 Z2 : EC.F} (hs : S3 w q1 q2) (hp : P3 w p1 p2 X Y Z) (hr : P3 w r1 r2 X2 Y2 Z2) :
    Calls Try.prog 62 #[pt q1 q2, pt p1 p2, pt r1 r2] w fun e w' => e = .returned (pt q1 q2) ∧ Kp (at_ q1 q2 12) w w' ∧ P3 w' q1 q2 (EC.fX EC.B X Y Z X2 Y2 Z2) (EC.fY EC.B X Y Z X2 Y2 Z2) (EC.fZ EC.B X Y Z X2 Y2 Z2) := by
  have hlt : q1 < w.heap.size := by obtain ⟨_, _, _, _, h⟩ := hs.x; exact h.c0.lt
  have m := MM.nil w
  go_enter Try.func62, Try.ntmps62
  go_wp2_with fail
  replace m := m.new 91
  replace m := m.drew
  go_region_with ((refine (m.mul 0 rfl (m.old hp.x) (m.old hr.x)).mono ?_); clear m; rintro e w1 ⟨rfl, z1, hz1, m⟩; replace m : MM non w w1 [(w.heap.size, z1)] := m)
  go_wp2_with fail
  replace m := m.new 91
  replace m := m.drew
  go_region_with ((refine (m.mul 1 rfl (m.old hp.y) (m.old hr.y)).mono ?_); clear m; rintro e w2 ⟨rfl, z2, hz2, m⟩; replace m : MM non w w2 [(w.heap.size, z1), (w1.heap.size, z2)] := m)
  go_wp2_with fail
  replace m := m.new 91
  replace m := m.drew
  go_region_with ((refine (m.mul 2 rfl (m.old hp.z) (m.old hr.z)).mono ?_); clear m; rintro e w3 ⟨rfl, z3, hz3, m⟩; replace m : MM non w w3 [(w.heap.size, z1), (w1.heap.size, z2), (w2.heap.size, z3)] := m)
  go_wp2_with fail
  replace m := m.new 91
  replace m := m.drew
  go_region_with ((refine (m.add 3 rfl (m.old hp.x) (m.old hp.y)).mono ?_); clear m; rintro e w4 ⟨rfl, z4, hz4, m⟩; replace m : MM non w w4 [(w.heap.size, z1), (w1.heap.size, z2), (w2.heap.size, z3), (w3.heap.size, z4)] := m)
  go_wp2_with fail
  replace m := m.new 91
  replace m := m.drew
  go_region_with ((refine (m.add 4 rfl (m.old hr.x) (m.old hr.y)).mono ?_); clear m; rintro e w5 ⟨rfl, z5, hz5, m⟩; replace m : MM non w w5 [(w.heap.size, z1), (w1.heap.size, z2), (w2.heap.size, z3), (w3.heap.size, z4), (w4.heap.size, z5)] := m)
  go_wp2_with fail
  (refine (m.mul 3 rfl (m.get 3 rfl) (m.get 4 rfl)).mono ?_); clear m; rintro e w6 ⟨rfl, z6, hz6, m⟩; replace m : MM non w w6 [(w.heap.size, z1), (w1.heap.size, z2), (w2.heap.size, z3), (w3.heap.size, z6), (w4.heap.size, z5)] := m
  go_wp2_with fail
  (refine (m.add 4 rfl (m.get 0 rfl) (m.get 1 rfl)).mono ?_); clear m; rintro e w7 ⟨rfl, z7, hz7, m⟩; replace m : MM non w w7 [(w.heap.size, z1), (w1.heap.size, z2), (w2.heap.size, z3), (w3.heap.size, z6), (w4.heap.size, z7)] := m
  go_wp2_with fail
  (refine (m.sub 3 rfl (m.get 3 rfl) (m.get 4 rfl)).mono ?_); clear m; rintro e w8 ⟨rfl, z8, hz8, m⟩; replace m : MM non w w8 [(w.heap.size, z1), (w1.heap.size, z2), (w2.heap.size, z3), (w3.heap.size, z8), (w4.heap.size, z7)] := m
  go_wp2_with fail
  replace m := m.drew
  go_region_with ((refine (m.add 4 rfl (m.old hp.y) (m.old hp.z)).mono ?_); clear m; rintro e w9 ⟨rfl, z9, hz9, m⟩; replace m : MM non w w9 [(w.heap.size, z1), (w1.heap.size, z2), (w2.heap.size, z3), (w3.heap.size, z8), (w4.heap.size, z9)] := m)
  go_wp2_with fail
  replace m := m.new 91
  replace m := m.drew
  go_region_with ((refine (m.add 5 rfl (m.old hr.y) (m.old hr.z)).mono ?_); clear m; rintro e w10 ⟨rfl, z10, hz10, m⟩; replace m : MM non w w10 [(w.heap.size, z1), (w1.heap.size, z2), (w2.heap.size, z3), (w3.heap.size, z8), (w4.heap.size, z9), (w9.heap.size, z10)] := m)
  go_wp2_with fail
  (refine (m.mul 4 rfl (m.get 4 rfl) (m.get 5 rfl)).mono ?_); clear m; rintro e w11 ⟨rfl, z11, hz11, m⟩; replace m : MM non w w11 [(w.heap.size, z1), (w1.heap.size, z2), (w2.heap.size, z3), (w3.heap.size, z8), (w4.heap.size, z11), (w9.heap.size, z10)] := m
  go_wp2_with fail
  (refine (m.add 5 rfl (m.get 1 rfl) (m.get 2 rfl)).mono ?_); clear m; rintro e w12 ⟨rfl, z12, hz12, m⟩; replace m : MM non w w12 [(w.heap.size, z1), (w1.heap.size, z2), (w2.heap.size, z3), (w3.heap.size, z8), (w4.heap.size, z11), (w9.heap.size, z12)] := m
  go_wp2_with fail
  (refine (m.sub 4 rfl (m.get 4 rfl) (m.get 5 rfl)).mono ?_); clear m; rintro e w13 ⟨rfl, z13, hz13, m⟩; replace m : MM non w w13 [(w.heap.size, z1), (w1.heap.size, z2), (w2.heap.size, z3), (w3.heap.size, z8), (w4.heap.size, z13), (w9.heap.size, z12)] := m
  go_wp2_with fail
  replace m := m.drew
  go_region_with ((refine (m.add 5 rfl (m.old hp.x) (m.old hp.z)).mono ?_); clear m; rintro e w14 ⟨rfl, z14, hz14, m⟩; replace m : MM non w w14 [(w.heap.size, z1), (w1.heap.size, z2), (w2.heap.size, z3), (w3.heap.size, z8), (w4.heap.size, z13), (w9.heap.size, z14)] := m)
  go_wp2_with fail
  replace m := m.new 91
  replace m := m.drew
  go_region_with ((refine (m.add 6 rfl (m.old hr.x) (m.old hr.z)).mono ?_); clear m; rintro e w15 ⟨rfl, z15, hz15, m⟩; replace m : MM non w w15 [(w.heap.size, z1), (w1.heap.size, z2), (w2.heap.size, z3), (w3.heap.size, z8), (w4.heap.size, z13), (w9.heap.size, z14), (w14.heap.size, z15)] := m)
  go_wp2_with fail
  (refine (m.mul 5 rfl (m.get 5 rfl) (m.get 6 rfl)).mono ?_); clear m; rintro e w16 ⟨rfl, z16, hz16, m⟩; replace m : MM non w w16 [(w.heap.size, z1), (w1.heap.size, z2), (w2.heap.size, z3), (w3.heap.size, z8), (w4.heap.size, z13), (w9.heap.size, z16), (w14.heap.size, z15)] := m
  go_wp2_with fail
  (refine (m.add 6 rfl (m.get 0 rfl) (m.get 2 rfl)).mono ?_); clear m; rintro e w17 ⟨rfl, z17, hz17, m⟩; replace m : MM non w w17 [(w.heap.size, z1), (w1.heap.size, z2), (w2.heap.size, z3), (w3.heap.size, z8), (w4.heap.size, z13), (w9.heap.size, z16), (w14.heap.size, z17)] := m
  go_wp2_with fail
  (refine (m.sub 6 rfl (m.get 5 rfl) (m.get 6 rfl)).mono ?_); clear m; rintro e w18 ⟨rfl, z18, hz18, m⟩; replace m : MM non w w18 [(w.heap.size, z1), (w1.heap.size, z2), (w2.heap.size, z3), (w3.heap.size, z8), (w4.heap.size, z13), (w9.heap.size, z16), (w14.heap.size, z18)] := m
  go_wp2_with fail
  replace m := m.new 91
  (refine m.pB.mono ?_); clear m; rintro e w19 ⟨b8, rfl, m⟩; replace m : MM non w w19 [(w.heap.size, z1), (w1.heap.size, z2), (w2.heap.size, z3), (w3.heap.size, z8), (w4.heap.size, z13), (w9.heap.size, z16), (w14.heap.size, z18), (w18.heap.size, 0), (b8, EC.B)] := m
  go_wp2_with fail
  (refine (m.mul 7 rfl (m.get 8 rfl) (m.get 2 rfl)).mono ?_); clear m; rintro e w20 ⟨rfl, z20, hz20, m⟩; replace m : MM non w w20 [(w.heap.size, z1), (w1.heap.size, z2), (w2.heap.size, z3), (w3.heap.size, z8), (w4.heap.size, z13), (w9.heap.size, z16), (w14.heap.size, z18), (w18.heap.size, z20), (b8, EC.B)] := m
  go_wp2_with fail
  (refine (m.sub 5 rfl (m.get 6 rfl) (m.get 7 rfl)).mono ?_); clear m; rintro e w21 ⟨rfl, z21, hz21, m⟩; replace m : MM non w w21 [(w.heap.size, z1), (w1.heap.size, z2), (w2.heap.size, z3), (w3.heap.size, z8), (w4.heap.size, z13), (w9.heap.size, z21), (w14.heap.size, z18), (w18.heap.size, z20), (b8, EC.B)] := m
  go_wp2_with fail
  (refine (m.add 7 rfl (m.get 5 rfl) (m.get 5 rfl)).mono ?_); clear m; rintro e w22 ⟨rfl, z22, hz22, m⟩; replace m : MM non w w22 [(w.heap.size, z1), (w1.heap.size, z2), (w2.heap.size, z3), (w3.heap.size, z8), (w4.heap.size, z13), (w9.heap.size, z21), (w14.heap.size, z18), (w18.heap.size, z22), (b8, EC.B)] := m
  go_wp2_with fail
  (refine (m.add 5 rfl (m.get 5 rfl) (m.get 7 rfl)).mono ?_); clear m; rintro e w23 ⟨rfl, z23, hz23, m⟩; replace m : MM non w w23 [(w.heap.size, z1), (w1.heap.size, z2), (w2.heap.size, z3), (w3.heap.size, z8), (w4.heap.size, z13), (w9.heap.size, z23), (w14.heap.size, z18), (w18.heap.size, z22), (b8, EC.B)] := m
  go_wp2_with fail
  (refine (m.sub 7 rfl (m.get 1 rfl) (m.get 5 rfl)).mono ?_); clear m; rintro e w24 ⟨rfl, z24, hz24, m⟩; replace m : MM non w w24 [(w.heap.size, z1), (w1.heap.size, z2), (w2.heap.size, z3), (w3.heap.size, z8), (w4.heap.size, z13), (w9.heap.size, z23), (w14.heap.size, z18), (w18.heap.size, z24), (b8, EC.B)] := m
  go_wp2_with fail
  (refine (m.add 5 rfl (m.get 1 rfl) (m.get 5 rfl)).mono ?_); clear m; rintro e w25 ⟨rfl, z25, hz25, m⟩; replace m : MM non w w25 [(w.heap.size, z1), (w1.heap.size, z2), (w2.heap.size, z3), (w3.heap.size, z8), (w4.heap.size, z13), (w9.heap.size, z25), (w14.heap.size, z18), (w18.heap.size, z24), (b8, EC.B)] := m
  go_wp2_with fail
  (refine m.pB.mono ?_); clear m; rintro e w26 ⟨b9, rfl, m⟩; replace m : MM non w w26 [(w.heap.size, z1), (w1.heap.size, z2), (w2.heap.size, z3), (w3.heap.size, z8), (w4.heap.size, z13), (w9.heap.size, z25), (w14.heap.size, z18), (w18.heap.size, z24), (b8, EC.B), (b9, EC.B)] := m
  go_wp2_with fail
  (refine (m.mul 6 rfl (m.get 9 rfl) (m.get 6 rfl)).mono ?_); clear m; rintro e w27 ⟨rfl, z27, hz27, m⟩; replace m : MM non w w27 [(w.heap.size, z1), (w1.heap.size, z2), (w2.heap.size, z3), (w3.heap.size, z8), (w4.heap.size, z13), (w9.heap.size, z25), (w14.heap.size, z27), (w18.heap.size, z24), (b8, EC.B), (b9, EC.B)] := m
  go_wp2_with fail
  (refine (m.add 1 rfl (m.get 2 rfl) (m.get 2 rfl)).mono ?_); clear m; rintro e w28 ⟨rfl, z28, hz28, m⟩; replace m : MM non w w28 [(w.heap.size, z1), (w1.heap.size, z28), (w2.heap.size, z3), (w3.heap.size, z8), (w4.heap.size, z13), (w9.heap.size, z25), (w14.heap.size, z27), (w18.heap.size, z24), (b8, EC.B), (b9, EC.B)] := m
  go_wp2_with fail
  (refine (m.add 2 rfl (m.get 1 rfl) (m.get 2 rfl)).mono ?_); clear m; rintro e w29 ⟨rfl, z29, hz29, m⟩; replace m : MM non w w29 [(w.heap.size, z1), (w1.heap.size, z28), (w2.heap.size, z29), (w3.heap.size, z8), (w4.heap.size, z13), (w9.heap.size, z25), (w14.heap.size, z27), (w18.heap.size, z24), (b8, EC.B), (b9, EC.B)] := m
  go_wp2_with fail
  (refine (m.sub 6 rfl (m.get 6 rfl) (m.get 2 rfl)).mono ?_); clear m; rintro e w30 ⟨rfl, z30, hz30, m⟩; replace m : MM non w w30 [(w.heap.size, z1), (w1.heap.size, z28), (w2.heap.size, z29), (w3.heap.size, z8), (w4.heap.size, z13), (w9.heap.size, z25), (w14.heap.size, z30), (w18.heap.size, z24), (b8, EC.B), (b9, EC.B)] := m
  go_wp2_with fail
  (refine (m.sub 6 rfl (m.get 6 rfl) (m.get 0 rfl)).mono ?_); clear m; rintro e w31 ⟨rfl, z31, hz31, m⟩; replace m : MM non w w31 [(w.heap.size, z1), (w1.heap.size, z28), (w2.heap.size, z29), (w3.heap.size, z8), (w4.heap.size, z13), (w9.heap.size, z25), (w14.heap.size, z31), (w18.heap.size, z24), (b8, EC.B), (b9, EC.B)] := m
  go_wp2_with fail
  (refine (m.add 1 rfl (m.get 6 rfl) (m.get 6 rfl)).mono ?_); clear m; rintro e w32 ⟨rfl, z32, hz32, m⟩; replace m : MM non w w32 [(w.heap.size, z1), (w1.heap.size, z32), (w2.heap.size, z29), (w3.heap.size, z8), (w4.heap.size, z13), (w9.heap.size, z25), (w14.heap.size, z31), (w18.heap.size, z24), (b8, EC.B), (b9, EC.B)] := m
  go_wp2_with fail
  (refine (m.add 6 rfl (m.get 1 rfl) (m.get 6 rfl)).mono ?_); clear m; rintro e w33 ⟨rfl, z33, hz33, m⟩; replace m : MM non w w33 [(w.heap.size, z1), (w1.heap.size, z32), (w2.heap.size, z29), (w3.heap.size, z8), (w4.heap.size, z13), (w9.heap.size, z25), (w14.heap.size, z33), (w18.heap.size, z24), (b8, EC.B), (b9, EC.B)] := m
  go_wp2_with fail
  (refine (m.add 1 rfl (m.get 0 rfl) (m.get 0 rfl)).mono ?_); clear m; rintro e w34 ⟨rfl, z34, hz34, m⟩; replace m : MM non w w34 [(w.heap.size, z1), (w1.heap.size, z34), (w2.heap.size, z29), (w3.heap.size, z8), (w4.heap.size, z13), (w9.heap.size, z25), (w14.heap.size, z33), (w18.heap.size, z24), (b8, EC.B), (b9, EC.B)] := m
  go_wp2_with fail
  (refine (m.add 0 rfl (m.get 1 rfl) (m.get 0 rfl)).mono ?_); clear m; rintro e w35 ⟨rfl, z35, hz35, m⟩; replace m : MM non w w35 [(w.heap.size, z35), (w1.heap.size, z34), (w2.heap.size, z29), (w3.heap.size, z8), (w4.heap.size, z13), (w9.heap.size, z25), (w14.heap.size, z33), (w18.heap.size, z24), (b8, EC.B), (b9, EC.B)] := m
  go_wp2_with fail
  (refine (m.sub 0 rfl (m.get 0 rfl) (m.get 2 rfl)).mono ?_); clear m; rintro e w36 ⟨rfl, z36, hz36, m⟩; replace m : MM non w w36 [(w.heap.size, z36), (w1.heap.size, z34), (w2.heap.size, z29), (w3.heap.size, z8), (w4.heap.size, z13), (w9.heap.size, z25), (w14.heap.size, z33), (w18.heap.size, z24), (b8, EC.B), (b9, EC.B)] := m
  go_wp2_with fail
  (refine (m.mul 1 rfl (m.get 4 rfl) (m.get 6 rfl)).mono ?_); clear m; rintro e w37 ⟨rfl, z37, hz37, m⟩; replace m : MM non w w37 [(w.heap.size, z36), (w1.heap.size, z37), (w2.heap.size, z29), (w3.heap.size, z8), (w4.heap.size, z13), (w9.heap.size, z25), (w14.heap.size, z33), (w18.heap.size, z24), (b8, EC.B), (b9, EC.B)] := m
  go_wp2_with fail
  (refine (m.mul 2 rfl (m.get 0 rfl) (m.get 6 rfl)).mono ?_); clear m; rintro e w38 ⟨rfl, z38, hz38, m⟩; replace m : MM non w w38 [(w.heap.size, z36), (w1.heap.size, z37), (w2.heap.size, z38), (w3.heap.size, z8), (w4.heap.size, z13), (w9.heap.size, z25), (w14.heap.size, z33), (w18.heap.size, z24), (b8, EC.B), (b9, EC.B)] := m
  go_wp2_with fail
  (refine (m.mul 6 rfl (m.get 5 rfl) (m.get 7 rfl)).mono ?_); clear m; rintro e w39 ⟨rfl, z39, hz39, m⟩; replace m : MM non w w39 [(w.heap.size, z36), (w1.heap.size, z37), (w2.heap.size, z38), (w3.heap.size, z8), (w4.heap.size, z13), (w9.heap.size, z25), (w14.heap.size, z39), (w18.heap.size, z24), (b8, EC.B), (b9, EC.B)] := m
  go_wp2_with fail
  (refine (m.add 6 rfl (m.get 6 rfl) (m.get 2 rfl)).mono ?_); clear m; rintro e w40 ⟨rfl, z40, hz40, m⟩; replace m : MM non w w40 [(w.heap.size, z36), (w1.heap.size, z37), (w2.heap.size, z38), (w3.heap.size, z8), (w4.heap.size, z13), (w9.heap.size, z25), (w14.heap.size, z40), (w18.heap.size, z24), (b8, EC.B), (b9, EC.B)] := m
  go_wp2_with fail
  (refine (m.mul 5 rfl (m.get 3 rfl) (m.get 5 rfl)).mono ?_); clear m; rintro e w41 ⟨rfl, z41, hz41, m⟩; replace m : MM non w w41 [(w.heap.size, z36), (w1.heap.size, z37), (w2.heap.size, z38), (w3.heap.size, z8), (w4.heap.size, z13), (w9.heap.size, z41), (w14.heap.size, z40), (w18.heap.size, z24), (b8, EC.B), (b9, EC.B)] := m
  go_wp2_with fail
  (refine (m.sub 5 rfl (m.get 5 rfl) (m.get 1 rfl)).mono ?_); clear m; rintro e w42 ⟨rfl, z42, hz42, m⟩; replace m : MM non w w42 [(w.heap.size, z36), (w1.heap.size, z37), (w2.heap.size, z38), (w3.heap.size, z8), (w4.heap.size, z13), (w9.heap.size, z42), (w14.heap.size, z40), (w18.heap.size, z24), (b8, EC.B), (b9, EC.B)] := m
  go_wp2_with fail
  (refine (m.mul 7 rfl (m.get 4 rfl) (m.get 7 rfl)).mono ?_); clear m; rintro e w43 ⟨rfl, z43, hz43, m⟩; replace m : MM non w w43 [(w.heap.size, z36), (w1.heap.size, z37), (w2.heap.size, z38), (w3.heap.size, z8), (w4.heap.size, z13), (w9.heap.size, z42), (w14.heap.size, z40), (w18.heap.size, z43), (b8, EC.B), (b9, EC.B)] := m
  go_wp2_with fail
  (refine (m.mul 1 rfl (m.get 3 rfl) (m.get 0 rfl)).mono ?_); clear m; rintro e w44 ⟨rfl, z44, hz44, m⟩; replace m : MM non w w44 [(w.heap.size, z36), (w1.heap.size, z44), (w2.heap.size, z38), (w3.heap.size, z8), (w4.heap.size, z13), (w9.heap.size, z42), (w14.heap.size, z40), (w18.heap.size, z43), (b8, EC.B), (b9, EC.B)] := m
  go_wp2_with fail
  (refine (m.add 7 rfl (m.get 7 rfl) (m.get 1 rfl)).mono ?_); clear m; rintro e w45 ⟨rfl, z45, hz45, m⟩; replace m : MM non w w45 [(w.heap.size, z36), (w1.heap.size, z44), (w2.heap.size, z38), (w3.heap.size, z8), (w4.heap.size, z13), (w9.heap.size, z42), (w14.heap.size, z40), (w18.heap.size, z45), (b8, EC.B), (b9, EC.B)] := m
  have hs0 := hs.x.kp m.k fun _ _ h => h
  have hs1 := hs.y.kp m.k fun _ _ h => h
  have hs2 := hs.z.kp m.k fun _ _ h => h
  replace m := m.wide (T := at_ q1 q2 12) fun _ _ _ h => h.elim
  go_wp2_with fail
  (refine (m.out 5 rfl hs0 hlt (fun i hi => ⟨rfl, by omega, by omega⟩)).mono ?_); clear m; rintro e w46 ⟨rfl, m, hk0, he0⟩
  replace hs1 := hs1.kp hk0 fun i _ h => by have := h.2.2; omega
  replace hs2 := hs2.kp hk0 fun i _ h => by have := h.2.2; omega
  go_wp2_with fail
  (refine (m.out 6 rfl hs1 hlt (fun i hi => ⟨rfl, by omega, by omega⟩)).mono ?_); clear m; rintro e w47 ⟨rfl, m, hk1, he1⟩
  replace hs2 := hs2.kp hk1 fun i _ h => by have := h.2.2; omega
  go_wp2_with fail
  (refine (m.out 7 rfl hs2 hlt (fun i hi => ⟨rfl, by omega, by omega⟩)).mono ?_); clear m; rintro e w48 ⟨rfl, m, hk2, he2⟩
  go_wp2_with fail
  go_ret
  refine ⟨rfl, m.k, ?_, ?_, ?_⟩
  · refine El.cast ((he0.kp hk1 fun i _ h => by have := h.2.1; omega).kp hk2 fun i _ h => by have := h.2.1; omega) ?_
    clear m he0 he1 he2
    replace hz1 := hz1.out; replace hz2 := hz2.out; replace hz3 := hz3.out; replace hz4 := hz4.out; replace hz5 := hz5.out; replace hz6 := hz6.out; replace hz7 := hz7.out; replace hz8 := hz8.out; replace hz9 := hz9.out; replace hz10 := hz10.out; replace hz11 := hz11.out; replace hz12 := hz12.out; replace hz13 := hz13.out; replace hz14 := hz14.out; replace hz15 := hz15.out; replace hz16 := hz16.out; replace hz17 := hz17.out; replace hz18 := hz18.out; replace hz20 := hz20.out; replace hz21 := hz21.out; replace hz22 := hz22.out; replace hz23 := hz23.out; replace hz24 := hz24.out; replace hz25 := hz25.out; replace hz27 := hz27.out; replace hz28 := hz28.out; replace hz29 := hz29.out; replace hz30 := hz30.out; replace hz31 := hz31.out; replace hz32 := hz32.out; replace hz33 := hz33.out; replace hz34 := hz34.out; replace hz35 := hz35.out; replace hz36 := hz36.out; replace hz37 := hz37.out; replace hz38 := hz38.out; replace hz39 := hz39.out; replace hz40 := hz40.out; replace hz41 := hz41.out; replace hz42 := hz42.out; replace hz43 := hz43.out; replace hz44 := hz44.out; replace hz45 := hz45.out
    subst hz1 hz2 hz3 hz4 hz5 hz6 hz7 hz8 hz9 hz10 hz11 hz12 hz13 hz14 hz15 hz16 hz17 hz18 hz20 hz21 hz22 hz23 hz24 hz25 hz27 hz28 hz29 hz30 hz31 hz32 hz33 hz34 hz35 hz36 hz37 hz38 hz39 hz40 hz41 hz42 hz43 hz44 hz45
    simp only [EC.fX]
    grind -lia -linarith
  · refine El.cast (he1.kp hk2 fun i _ h => by have := h.2.1; omega) ?_
    clear m he0 he1 he2
    replace hz1 := hz1.out; replace hz2 := hz2.out; replace hz3 := hz3.out; replace hz4 := hz4.out; replace hz5 := hz5.out; replace hz6 := hz6.out; replace hz7 := hz7.out; replace hz8 := hz8.out; replace hz9 := hz9.out; replace hz10 := hz10.out; replace hz11 := hz11.out; replace hz12 := hz12.out; replace hz13 := hz13.out; replace hz14 := hz14.out; replace hz15 := hz15.out; replace hz16 := hz16.out; replace hz17 := hz17.out; replace hz18 := hz18.out; replace hz20 := hz20.out; replace hz21 := hz21.out; replace hz22 := hz22.out; replace hz23 := hz23.out; replace hz24 := hz24.out; replace hz25 := hz25.out; replace hz27 := hz27.out; replace hz28 := hz28.out; replace hz29 := hz29.out; replace hz30 := hz30.out; replace hz31 := hz31.out; replace hz32 := hz32.out; replace hz33 := hz33.out; replace hz34 := hz34.out; replace hz35 := hz35.out; replace hz36 := hz36.out; replace hz37 := hz37.out; replace hz38 := hz38.out; replace hz39 := hz39.out; replace hz40 := hz40.out; replace hz41 := hz41.out; replace hz42 := hz42.out; replace hz43 := hz43.out; replace hz44 := hz44.out; replace hz45 := hz45.out
    subst hz1 hz2 hz3 hz4 hz5 hz6 hz7 hz8 hz9 hz10 hz11 hz12 hz13 hz14 hz15 hz16 hz17 hz18 hz20 hz21 hz22 hz23 hz24 hz25 hz27 hz28 hz29 hz30 hz31 hz32 hz33 hz34 hz35 hz36 hz37 hz38 hz39 hz40 hz41 hz42 hz43 hz44 hz45
    simp only [EC.fY]
    grind -lia -linarith
  · refine El.cast he2 ?_
    clear m he0 he1 he2
    replace hz1 := hz1.out; replace hz2 := hz2.out; replace hz3 := hz3.out; replace hz4 := hz4.out; replace hz5 := hz5.out; replace hz6 := hz6.out; replace hz7 := hz7.out; replace hz8 := hz8.out; replace hz9 := hz9.out; replace hz10 := hz10.out; replace hz11 := hz11.out; replace hz12 := hz12.out; replace hz13 := hz13.out; replace hz14 := hz14.out; replace hz15 := hz15.out; replace hz16 := hz16.out; replace hz17 := hz17.out; replace hz18 := hz18.out; replace hz20 := hz20.out; replace hz21 := hz21.out; replace hz22 := hz22.out; replace hz23 := hz23.out; replace hz24 := hz24.out; replace hz25 := hz25.out; replace hz27 := hz27.out; replace hz28 := hz28.out; replace hz29 := hz29.out; replace hz30 := hz30.out; replace hz31 := hz31.out; replace hz32 := hz32.out; replace hz33 := hz33.out; replace hz34 := hz34.out; replace hz35 := hz35.out; replace hz36 := hz36.out; replace hz37 := hz37.out; replace hz38 := hz38.out; replace hz39 := hz39.out; replace hz40 := hz40.out; replace hz41 := hz41.out; replace hz42 := hz42.out; replace hz43 := hz43.out; replace hz44 := hz44.out; replace hz45 := hz45.out
    subst hz1 hz2 hz3 hz4 hz5 hz6 hz7 hz8 hz9 hz10 hz11 hz12 hz13 hz14 hz15 hz16 hz17 hz18 hz20 hz21 hz22 hz23 hz24 hz25 hz27 hz28 hz29 hz30 hz31 hz32 hz33 hz34 hz35 hz36 hz37 hz38 hz39 hz40 hz41 hz42 hz43 hz44 hz45
    simp only [EC.fZ]
    grind -lia -linarith
end Go.Proofs.Ytjdjhccefnffmaa
set_option maxRecDepth 100000
set_option maxHeartbeats 4000000
namespace Go.Proofs.Ytjdjhccefnffmaa
open Go LX Go.RowKit
/-- Select into the second point. -/
theorem c85 {w : World} {q1 q2 p1 p2 c : Nat} {X Y Z X2 Y2 Z2 : EC.F} (hc : c ≤ 1) (hq : P3 w q1 q2 X2 Y2 Z2) (hp : P3 w p1 p2 X Y Z) (hd : Ap q1 q2 p1 p2) :
    Calls Try.prog 85 #[pt q1 q2, pt p1 p2, pt q1 q2, .int .i64 (c : Int)] w fun e w' => e = .returned (pt q1 q2) ∧ Kp (at_ q1 q2 12) w w' ∧ P3 w' q1 q2 (selF c X X2) (selF c Y Y2) (selF c Z Z2) := by
  have hq0 := hq.x.drew
  have hp0 := hp.x.drew
  go_enter Try.func85, Try.ntmps85
  go_wp2_with fail
  go_region_with ((refine (c81 (p := (q1, q2)) (q := (p1, p2)) (r := (q1, q2)) hc hq0.sp hp0 hq0).mono ?_); rintro e w1 ⟨rfl, hk0, he0⟩; simp only [ptr] at *)
  have hq1 := (hq.y.drew.kp hk0 fun i _ h => by have := h.2.2; omega).drew
  have hp1 := (hp.y.drew.kp hk0 (fun i hi => hd.no 0 4 (by omega) (by omega) i hi)).drew
  go_wp2_with fail
  go_region_with ((refine (c81 (p := (q1, q2 + 4)) (q := (p1, p2 + 4)) (r := (q1, q2 + 4)) hc hq1.sp hp1 hq1).mono ?_); rintro e w2 ⟨rfl, hk1, he1⟩; simp only [ptr] at *)
  have hq2 := ((hq.z.drew.kp hk0 fun i _ h => by have := h.2.2; omega).drew.kp hk1 fun i _ h => by have := h.2.2; omega).drew
  have hp2 := ((hp.z.drew.kp hk0 (fun i hi => hd.no 0 8 (by omega) (by omega) i hi)).drew.kp hk1 (fun i hi => hd.no 4 8 (by omega) (by omega) i hi)).drew
  go_wp2_with fail
  go_region_with ((refine (c81 (p := (q1, q2 + 8)) (q := (p1, p2 + 8)) (r := (q1, q2 + 8)) hc hq2.sp hp2 hq2).mono ?_); rintro e w3 ⟨rfl, hk2, he2⟩; simp only [ptr] at *)
  go_wp2_with fail
  go_ret
  have k0 : Kp (at_ q1 q2 12) w w1 := (Kp.of_drew hk0).wide fun b o _ h => ⟨h.1, by have := h.2; omega, by have := h.2; omega⟩
  have k1 : Kp (at_ q1 q2 12) w1 w2 := (Kp.of_drew hk1).wide fun b o _ h => ⟨h.1, by have := h.2; omega, by have := h.2; omega⟩
  have k2 : Kp (at_ q1 q2 12) w2 w3 := (Kp.of_drew hk2).wide fun b o _ h => ⟨h.1, by have := h.2; omega, by have := h.2; omega⟩
  refine ⟨rfl, (k0.trans k1 (fun _ _ _ h => h) (fun _ _ _ h => h)).trans k2 (fun _ _ _ h => h) (fun _ _ _ h => h), ?_, ?_, ?_⟩
  · exact (he0.kp (Kp.of_drew hk1) fun i _ h => by have := h.2.1; omega).kp (Kp.of_drew hk2) fun i _ h => by have := h.2.1; omega
  · exact he1.kp (Kp.of_drew hk2) fun i _ h => by have := h.2.1; omega
  · exact he2
/-- Negate. -/
theorem c61 {w : World} {q1 q2 c : Nat} {X Y Z : EC.F} (hc : c ≤ 1) (hq : P3 w q1 q2 X Y Z) :
    Calls Try.prog 61 #[pt q1 q2, .int .i64 (c : Int)] w fun e w' => e = .returned (pt q1 q2) ∧ Kp (at_ q1 q2 12) w w' ∧ P3 w' q1 q2 X (selF c (0 - Y) Y) Z := by
  have m := MM.nil w
  go_enter Try.func61, Try.ntmps61
  go_wp2_with fail
  replace m := m.new 91
  (refine (m.sub 0 rfl (m.get 0 rfl) (m.old hq.y)).mono ?_); clear m; rintro e w1 ⟨rfl, z1, hz1, m⟩; replace m : MM non w w1 [(w.heap.size, z1)] := m
  have hy := (hq.y.kp m.k fun _ _ h => h).drew
  have hn := (m.get 0 rfl).drew
  go_wp2_with fail
  go_region_with ((refine (c81 (p := (q1, q2 + 4)) (q := (w.heap.size, 0)) (r := (q1, q2 + 4)) hc hy.sp hn hy).mono ?_); rintro e w2 ⟨rfl, hk, he⟩; simp only [ptr] at *)
  go_wp2_with fail
  go_ret
  have k2 : Kp (at_ q1 q2 12) w1 w2 := (Kp.of_drew hk).wide fun b o _ h => ⟨h.1, by have := h.2; omega, by have := h.2; omega⟩
  have hz := hz1.out
  subst hz
  refine ⟨rfl, (m.k.wide fun _ _ _ h => h.elim).trans k2 (fun _ _ _ h => h) (fun _ _ _ h => h), ?_, ?_, ?_⟩
  · exact (hq.x.kp m.k fun _ _ h => h).kp (Kp.of_drew hk) fun i _ h => by have := h.2.1; omega
  · exact he
  · exact (hq.z.kp m.k fun _ _ h => h).kp (Kp.of_drew hk) fun i _ h => by have := h.2.2; omega
end Go.Proofs.Ytjdjhccefnffmaa
set_option maxRecDepth 100000
set_option maxHeartbeats 400000
namespace Go.Proofs.Ytjdjhccefnffmaa
open Go LX Go.RowKit
theorem dblZ {P : EC.Pt} {X Y Z : EC.F} (hp : P.Ok) (h : EC.Pt.Rep X Y Z P) : 8 * Y * Y * Y * Z = EC.fZ EC.B X Y Z X Y Z := by
  cases P with
  | far =>
    obtain ⟨rfl, rfl, -⟩ := h
    simp only [EC.fZ]
    grind -lia -linarith
  | aff x y =>
    obtain ⟨-, rfl, rfl⟩ := h
    have ho : y * y = x * x * x - 3 * x + EC.B := hp
    simp only [EC.fZ]
    generalize EC.B = b at *
    obtain rfl : b = y * y - x * x * x + 3 * x := by rw [ho]; grind -lia -linarith
    grind -lia -linarith
theorem cDbl {w : World} {q1 q2 p1 p2 : Nat} {P : EC.Pt} (hs : S3 w q1 q2) (hp : PtAt w p1 p2 P) :
    Calls Try.prog 45 #[pt q1 q2, pt p1 p2] w fun e w' => e = .returned (pt q1 q2) ∧ Kp (at_ q1 q2 12) w w' ∧ PtAt w' q1 q2 (P.sum P) := by
  obtain ⟨ho, X, Y, Z, h1, h2⟩ := hp
  refine (c45 hs h1).mono ?_
  rintro e w' ⟨rfl, hk, h3⟩
  rw [dblZ ho h2] at h3
  exact ⟨rfl, hk, ho.sum ho, _, _, _, h3, EC.Pt.rep_sum ho ho h2 h2⟩
theorem cAdd {w : World} {q1 q2 p1 p2 r1 r2 : Nat} {P R : EC.Pt} (hs : S3 w q1 q2) (hp : PtAt w p1 p2 P) (hr : PtAt w r1 r2 R) :
    Calls Try.prog 62 #[pt q1 q2, pt p1 p2, pt r1 r2] w fun e w' => e = .returned (pt q1 q2) ∧ Kp (at_ q1 q2 12) w w' ∧ PtAt w' q1 q2 (P.sum R) := by
  obtain ⟨ho, X, Y, Z, h1, h2⟩ := hp
  obtain ⟨hq, X2, Y2, Z2, h3, h4⟩ := hr
  refine (c62 hs h1 h3).mono ?_
  rintro e w' ⟨rfl, hk, h5⟩
  exact ⟨rfl, hk, ho.sum hq, _, _, _, h5, EC.Pt.rep_sum ho hq h2 h4⟩
theorem rep_neg {P : EC.Pt} {X Y Z : EC.F} (h : EC.Pt.Rep X Y Z P) : EC.Pt.Rep X (0 - Y) Z P.neg := by
  cases P with
  | far =>
    obtain ⟨rfl, rfl, h⟩ := h
    exact ⟨rfl, rfl, fun h0 => h (by have : Y = -(0 - Y) := by grind -lia -linarith
                                     rw [this, h0]; grind -lia -linarith)⟩
  | aff x y =>
    obtain ⟨h0, rfl, rfl⟩ := h
    exact ⟨h0, rfl, by grind -lia -linarith⟩
/-- The point on the other side, or the point. -/
def sgn (c : Nat) (P : EC.Pt) : EC.Pt := if c = 0 then P else P.neg
theorem cNeg {w : World} {q1 q2 c : Nat} {P : EC.Pt} (hc : c ≤ 1) (hq : PtAt w q1 q2 P) :
    Calls Try.prog 61 #[pt q1 q2, .int .i64 (c : Int)] w fun e w' => e = .returned (pt q1 q2) ∧ Kp (at_ q1 q2 12) w w' ∧ PtAt w' q1 q2 (sgn c P) := by
  obtain ⟨ho, X, Y, Z, h1, h2⟩ := hq
  refine (c61 hc h1).mono ?_
  rintro e w' ⟨rfl, hk, h3⟩
  refine ⟨rfl, hk, ?_⟩
  have : c = 0 ∨ c = 1 := by omega
  rcases this with rfl | rfl
  · exact ⟨ho, X, _, Z, h3, h2⟩
  · exact ⟨ho.neg, X, _, Z, h3, rep_neg h2⟩
end Go.Proofs.Ytjdjhccefnffmaa
