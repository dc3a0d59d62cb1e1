import Derived.Test.YtjdjhccefnffmaaB14
import Derived.Deep.MidRow
set_option linter.unusedVariables false
set_option linter.unusedSimpArgs false
set_option maxRecDepth 100000
set_option maxHeartbeats 4000000
namespace Go.Proofs.Ytjdjhccefnffmaa
open Go LX Go.RowKit
theorem c87 {w : World} {p1 p2 q1 q2 : Nat} {x y : EC.F} (he : El w p1 p2 y) (hx : El w q1 q2 x) :
    Calls Try.prog 87 #[pt p1 p2, pt q1 q2] w fun e w' => e = .returned (pt p1 p2) ∧ Kp (at_ p1 p2 4) w w' ∧ El w' p1 p2 (EC.inv x) := by
  have m := MM.nil w
  have qx := Pw.one x
  have hlt := he.lt
  go_enter Try.func87, Try.ntmps87
  go_wp2_with fail
  replace m := m.new 91
  refine (c71 (p := (w.heap.size, 0)) (q := (p1, p2)) (m.get 0 rfl).sp (m.old he)).mono ?_
  rintro e w2 ⟨rfl, hk, hz⟩
  replace m := m.set 0 rfl hk hz
  clear hk hz
  replace m : MM non w w2 [(w.heap.size, y)] := m
  simp only [ptr] at *
  go_wp2_with fail
  replace m := (m.new 91).new 91
  simp at m
  (refine (m.sqr 0 rfl (m.old hx)).mono ?_); clear m; rintro e v1 ⟨rfl, z1, hz, m⟩; replace m : MM non w v1 [(w.heap.size, z1), (w2.heap.size, 0), (w2.heap.size + 1, 0)] := m
  have q1 := (qx.mul qx hz.out).cast (show _ = 2 from rfl)
  clear hz
  go_wp2_with fail
  (refine (m.mul 0 rfl (m.old hx) (m.get 0 rfl)).mono ?_); clear m; rintro e v2 ⟨rfl, z2, hz, m⟩; replace m : MM non w v2 [(w.heap.size, z2), (w2.heap.size, 0), (w2.heap.size + 1, 0)] := m
  have q2 := (qx.mul q1 hz.out).cast (show _ = 3 from rfl)
  clear hz
  go_wp2_with fail
  (refine (m.sqr 0 rfl (m.get 0 rfl)).mono ?_); clear m; rintro e v3 ⟨rfl, z3, hz, m⟩; replace m : MM non w v3 [(w.heap.size, z3), (w2.heap.size, 0), (w2.heap.size + 1, 0)] := m
  have q3 := (q2.mul q2 hz.out).cast (show _ = 6 from rfl)
  clear hz
  go_wp2_with fail
  (refine (m.mul 0 rfl (m.old hx) (m.get 0 rfl)).mono ?_); clear m; rintro e v4 ⟨rfl, z4, hz, m⟩; replace m : MM non w v4 [(w.heap.size, z4), (w2.heap.size, 0), (w2.heap.size + 1, 0)] := m
  have q4 := (qx.mul q3 hz.out).cast (show _ = 7 from rfl)
  clear hz
  go_wp2_with fail
  (refine (m.sqr 1 rfl (m.get 0 rfl)).mono ?_); clear m; rintro e v5 ⟨rfl, z5, hz, m⟩; replace m : MM non w v5 [(w.heap.size, z4), (w2.heap.size, z5), (w2.heap.size + 1, 0)] := m
  have q5 := (q4.mul q4 hz.out).cast (show _ = 14 from rfl)
  clear hz
  go_wp2_with fail
  go_loopw [8] (fun i wr => ∃ (k : Nat) (z : EC.F), k ≤ 3 ∧ i = .int .i64 (k : Int) ∧ Pw x (7 * 2 ^ k) z ∧ MM non w wr [(w.heap.size, z4), (w2.heap.size, z), (w2.heap.size + 1, 0)]) (fun i _ => 3 - (intOf i).toNat)
  case atStart => exact ⟨1, z5, by omega, rfl, q5.cast (by decide +kernel), m⟩
  case round =>
    clear m
    obtain ⟨k, z, hk, rfl, hp, m⟩ := hrel
    by_cases hlt : k < 3
    · go_wp2_with fail
      (refine (m.sqr 1 rfl (m.get 1 rfl)).mono ?_); clear m; rintro e v2 ⟨rfl, z2, hz, m⟩; replace m : MM non w v2 [(w.heap.size, z4), (w2.heap.size, z2), (w2.heap.size + 1, 0)] := m
      have hq := hp.dbl hz.out
      clear hz hp
      go_wp2_with fail
      go_roundw
      case rel => exact ⟨k + 1, z2, by omega, by go_num, hq, m⟩
      case measure => simp [intOf]; omega
    · obtain rfl : k = 3 := by omega
      have q6 := hp.cast (show _ = 56 by decide +kernel)
      clear hp hk hlt
      go_wp2_with fail
      obtain ⟨z6, hzn⟩ : ∃ y, y = z := ⟨_, rfl⟩
      subst hzn
      (refine (m.mul 1 rfl (m.get 0 rfl) (m.get 1 rfl)).mono ?_); clear m; rintro e v7 ⟨rfl, z7, hz, m⟩; replace m : MM non w v7 [(w.heap.size, z4), (w2.heap.size, z7), (w2.heap.size + 1, 0)] := m
      have q7 := (q4.mul q6 hz.out).cast (show _ = 63 from rfl)
      clear hz
      go_wp2_with fail
      (refine (m.sqr 2 rfl (m.get 1 rfl)).mono ?_); clear m; rintro e v8 ⟨rfl, z8, hz, m⟩; replace m : MM non w v8 [(w.heap.size, z4), (w2.heap.size, z7), (w2.heap.size + 1, z8)] := m
      have q8 := (q7.mul q7 hz.out).cast (show _ = 126 from rfl)
      clear hz
      go_wp2_with fail
      go_loopw [9] (fun i wr => ∃ (k : Nat) (z : EC.F), k ≤ 6 ∧ i = .int .i64 (k : Int) ∧ Pw x (63 * 2 ^ k) z ∧ MM non w wr [(w.heap.size, z4), (w2.heap.size, z7), (w2.heap.size + 1, z)]) (fun i _ => 6 - (intOf i).toNat)
      case atStart => exact ⟨1, z8, by omega, rfl, q8.cast (by decide +kernel), m⟩
      case round =>
        clear m
        obtain ⟨k, z, hk, rfl, hp, m⟩ := hrel
        by_cases hlt : k < 6
        · go_wp2_with fail
          (refine (m.sqr 2 rfl (m.get 2 rfl)).mono ?_); clear m; rintro e v2 ⟨rfl, z2, hz, m⟩; replace m : MM non w v2 [(w.heap.size, z4), (w2.heap.size, z7), (w2.heap.size + 1, z2)] := m
          have hq := hp.dbl hz.out
          clear hz hp
          go_wp2_with fail
          go_roundw
          case rel => exact ⟨k + 1, z2, by omega, by go_num, hq, m⟩
          case measure => simp [intOf]; omega
        · obtain rfl : k = 6 := by omega
          have q9 := hp.cast (show _ = 4032 by decide +kernel)
          clear hp hk hlt
          go_wp2_with fail
          obtain ⟨z9, hzn⟩ : ∃ y, y = z := ⟨_, rfl⟩
          subst hzn
          (refine (m.mul 1 rfl (m.get 1 rfl) (m.get 2 rfl)).mono ?_); clear m; rintro e v10 ⟨rfl, z10, hz, m⟩; replace m : MM non w v10 [(w.heap.size, z4), (w2.heap.size, z10), (w2.heap.size + 1, z9)] := m
          have q10 := (q7.mul q9 hz.out).cast (show _ = 4095 from rfl)
          clear hz
          go_wp2_with fail
          go_loopw [10] (fun i wr => ∃ (k : Nat) (z : EC.F), k ≤ 3 ∧ i = .int .i64 (k : Int) ∧ Pw x (4095 * 2 ^ k) z ∧ MM non w wr [(w.heap.size, z4), (w2.heap.size, z), (w2.heap.size + 1, z9)]) (fun i _ => 3 - (intOf i).toNat)
          case atStart => exact ⟨0, z10, by omega, rfl, q10.cast (by decide +kernel), m⟩
          case round =>
            clear m
            obtain ⟨k, z, hk, rfl, hp, m⟩ := hrel
            by_cases hlt : k < 3
            · go_wp2_with fail
              (refine (m.sqr 1 rfl (m.get 1 rfl)).mono ?_); clear m; rintro e v2 ⟨rfl, z2, hz, m⟩; replace m : MM non w v2 [(w.heap.size, z4), (w2.heap.size, z2), (w2.heap.size + 1, z9)] := m
              have hq := hp.dbl hz.out
              clear hz hp
              go_wp2_with fail
              go_roundw
              case rel => exact ⟨k + 1, z2, by omega, by go_num, hq, m⟩
              case measure => simp [intOf]; omega
            · obtain rfl : k = 3 := by omega
              have q11 := hp.cast (show _ = 32760 by decide +kernel)
              clear hp hk hlt
              go_wp2_with fail
              obtain ⟨z11, hzn⟩ : ∃ y, y = z := ⟨_, rfl⟩
              subst hzn
              (refine (m.mul 0 rfl (m.get 0 rfl) (m.get 1 rfl)).mono ?_); clear m; rintro e v12 ⟨rfl, z12, hz, m⟩; replace m : MM non w v12 [(w.heap.size, z12), (w2.heap.size, z11), (w2.heap.size + 1, z9)] := m
              have q12 := (q4.mul q11 hz.out).cast (show _ = 32767 from rfl)
              clear hz
              go_wp2_with fail
              (refine (m.sqr 1 rfl (m.get 0 rfl)).mono ?_); clear m; rintro e v13 ⟨rfl, z13, hz, m⟩; replace m : MM non w v13 [(w.heap.size, z12), (w2.heap.size, z13), (w2.heap.size + 1, z9)] := m
              have q13 := (q12.mul q12 hz.out).cast (show _ = 65534 from rfl)
              clear hz
              go_wp2_with fail
              (refine (m.mul 1 rfl (m.old hx) (m.get 1 rfl)).mono ?_); clear m; rintro e v14 ⟨rfl, z14, hz, m⟩; replace m : MM non w v14 [(w.heap.size, z12), (w2.heap.size, z14), (w2.heap.size + 1, z9)] := m
              have q14 := (qx.mul q13 hz.out).cast (show _ = 65535 from rfl)
              clear hz
              go_wp2_with fail
              (refine (m.sqr 2 rfl (m.get 1 rfl)).mono ?_); clear m; rintro e v15 ⟨rfl, z15, hz, m⟩; replace m : MM non w v15 [(w.heap.size, z12), (w2.heap.size, z14), (w2.heap.size + 1, z15)] := m
              have q15 := (q14.mul q14 hz.out).cast (show _ = 131070 from rfl)
              clear hz
              go_wp2_with fail
              go_loopw [11] (fun i wr => ∃ (k : Nat) (z : EC.F), k ≤ 16 ∧ i = .int .i64 (k : Int) ∧ Pw x (65535 * 2 ^ k) z ∧ MM non w wr [(w.heap.size, z12), (w2.heap.size, z14), (w2.heap.size + 1, z)]) (fun i _ => 16 - (intOf i).toNat)
              case atStart => exact ⟨1, z15, by omega, rfl, q15.cast (by decide +kernel), m⟩
              case round =>
                clear m
                obtain ⟨k, z, hk, rfl, hp, m⟩ := hrel
                by_cases hlt : k < 16
                · go_wp2_with fail
                  (refine (m.sqr 2 rfl (m.get 2 rfl)).mono ?_); clear m; rintro e v2 ⟨rfl, z2, hz, m⟩; replace m : MM non w v2 [(w.heap.size, z12), (w2.heap.size, z14), (w2.heap.size + 1, z2)] := m
                  have hq := hp.dbl hz.out
                  clear hz hp
                  go_wp2_with fail
                  go_roundw
                  case rel => exact ⟨k + 1, z2, by omega, by go_num, hq, m⟩
                  case measure => simp [intOf]; omega
                · obtain rfl : k = 16 := by omega
                  have q16 := hp.cast (show _ = 4294901760 by decide +kernel)
                  clear hp hk hlt
                  go_wp2_with fail
                  obtain ⟨z16, hzn⟩ : ∃ y, y = z := ⟨_, rfl⟩
                  subst hzn
                  (refine (m.mul 1 rfl (m.get 1 rfl) (m.get 2 rfl)).mono ?_); clear m; rintro e v17 ⟨rfl, z17, hz, m⟩; replace m : MM non w v17 [(w.heap.size, z12), (w2.heap.size, z17), (w2.heap.size + 1, z16)] := m
                  have q17 := (q14.mul q16 hz.out).cast (show _ = 4294967295 from rfl)
                  clear hz
                  go_wp2_with fail
                  go_loopw [12] (fun i wr => ∃ (k : Nat) (z : EC.F), k ≤ 15 ∧ i = .int .i64 (k : Int) ∧ Pw x (4294967295 * 2 ^ k) z ∧ MM non w wr [(w.heap.size, z12), (w2.heap.size, z), (w2.heap.size + 1, z16)]) (fun i _ => 15 - (intOf i).toNat)
                  case atStart => exact ⟨0, z17, by omega, rfl, q17.cast (by decide +kernel), m⟩
                  case round =>
                    clear m
                    obtain ⟨k, z, hk, rfl, hp, m⟩ := hrel
                    by_cases hlt : k < 15
                    · go_wp2_with fail
                      (refine (m.sqr 1 rfl (m.get 1 rfl)).mono ?_); clear m; rintro e v2 ⟨rfl, z2, hz, m⟩; replace m : MM non w v2 [(w.heap.size, z12), (w2.heap.size, z2), (w2.heap.size + 1, z16)] := m
                      have hq := hp.dbl hz.out
                      clear hz hp
                      go_wp2_with fail
                      go_roundw
                      case rel => exact ⟨k + 1, z2, by omega, by go_num, hq, m⟩
                      case measure => simp [intOf]; omega
                    · obtain rfl : k = 15 := by omega
                      have q18 := hp.cast (show _ = 140737488322560 by decide +kernel)
                      clear hp hk hlt
                      go_wp2_with fail
                      obtain ⟨z18, hzn⟩ : ∃ y, y = z := ⟨_, rfl⟩
                      subst hzn
                      (refine (m.mul 0 rfl (m.get 0 rfl) (m.get 1 rfl)).mono ?_); clear m; rintro e v19 ⟨rfl, z19, hz, m⟩; replace m : MM non w v19 [(w.heap.size, z19), (w2.heap.size, z18), (w2.heap.size + 1, z16)] := m
                      have q19 := (q12.mul q18 hz.out).cast (show _ = 140737488355327 from rfl)
                      clear hz
                      go_wp2_with fail
                      go_loopw [13] (fun i wr => ∃ (k : Nat) (z : EC.F), k ≤ 17 ∧ i = .int .i64 (k : Int) ∧ Pw x (140737488322560 * 2 ^ k) z ∧ MM non w wr [(w.heap.size, z19), (w2.heap.size, z), (w2.heap.size + 1, z16)]) (fun i _ => 17 - (intOf i).toNat)
                      case atStart => exact ⟨0, z18, by omega, rfl, q18.cast (by decide +kernel), m⟩
                      case round =>
                        clear m
                        obtain ⟨k, z, hk, rfl, hp, m⟩ := hrel
                        by_cases hlt : k < 17
                        · go_wp2_with fail
                          (refine (m.sqr 1 rfl (m.get 1 rfl)).mono ?_); clear m; rintro e v2 ⟨rfl, z2, hz, m⟩; replace m : MM non w v2 [(w.heap.size, z19), (w2.heap.size, z2), (w2.heap.size + 1, z16)] := m
                          have hq := hp.dbl hz.out
                          clear hz hp
                          go_wp2_with fail
                          go_roundw
                          case rel => exact ⟨k + 1, z2, by omega, by go_num, hq, m⟩
                          case measure => simp [intOf]; omega
                        · obtain rfl : k = 17 := by omega
                          have q20 := hp.cast (show _ = 18446744069414584320 by decide +kernel)
                          clear hp hk hlt
                          go_wp2_with fail
                          obtain ⟨z20, hzn⟩ : ∃ y, y = z := ⟨_, rfl⟩
                          subst hzn
                          (refine (m.mul 1 rfl (m.old hx) (m.get 1 rfl)).mono ?_); clear m; rintro e v21 ⟨rfl, z21, hz, m⟩; replace m : MM non w v21 [(w.heap.size, z19), (w2.heap.size, z21), (w2.heap.size + 1, z16)] := m
                          have q21 := (qx.mul q20 hz.out).cast (show _ = 18446744069414584321 from rfl)
                          clear hz
                          go_wp2_with fail
                          go_loopw [14] (fun i wr => ∃ (k : Nat) (z : EC.F), k ≤ 143 ∧ i = .int .i64 (k : Int) ∧ Pw x (18446744069414584321 * 2 ^ k) z ∧ MM non w wr [(w.heap.size, z19), (w2.heap.size, z), (w2.heap.size + 1, z16)]) (fun i _ => 143 - (intOf i).toNat)
                          case atStart => exact ⟨0, z21, by omega, rfl, q21.cast (by decide +kernel), m⟩
                          case round =>
                            clear m
                            obtain ⟨k, z, hk, rfl, hp, m⟩ := hrel
                            by_cases hlt : k < 143
                            · go_wp2_with fail
                              (refine (m.sqr 1 rfl (m.get 1 rfl)).mono ?_); clear m; rintro e v2 ⟨rfl, z2, hz, m⟩; replace m : MM non w v2 [(w.heap.size, z19), (w2.heap.size, z2), (w2.heap.size + 1, z16)] := m
                              have hq := hp.dbl hz.out
                              clear hz hp
                              go_wp2_with fail
                              go_roundw
                              case rel => exact ⟨k + 1, z2, by omega, by go_num, hq, m⟩
                              case measure => simp [intOf]; omega
                            · obtain rfl : k = 143 := by omega
                              have q22 := hp.cast (show _ = 205688069617260269628462493595235780095162680352436066103328768 by decide +kernel)
                              clear hp hk hlt
                              go_wp2_with fail
                              obtain ⟨z22, hzn⟩ : ∃ y, y = z := ⟨_, rfl⟩
                              subst hzn
                              (refine (m.mul 1 rfl (m.get 0 rfl) (m.get 1 rfl)).mono ?_); clear m; rintro e v23 ⟨rfl, z23, hz, m⟩; replace m : MM non w v23 [(w.heap.size, z19), (w2.heap.size, z23), (w2.heap.size + 1, z16)] := m
                              have q23 := (q19.mul q22 hz.out).cast (show _ = 205688069617260269628462493595235780095162680352576803591684095 from rfl)
                              clear hz
                              go_wp2_with fail
                              go_loopw [15] (fun i wr => ∃ (k : Nat) (z : EC.F), k ≤ 47 ∧ i = .int .i64 (k : Int) ∧ Pw x (205688069617260269628462493595235780095162680352576803591684095 * 2 ^ k) z ∧ MM non w wr [(w.heap.size, z19), (w2.heap.size, z), (w2.heap.size + 1, z16)]) (fun i _ => 47 - (intOf i).toNat)
                              case atStart => exact ⟨0, z23, by omega, rfl, q23.cast (by decide +kernel), m⟩
                              case round =>
                                clear m
                                obtain ⟨k, z, hk, rfl, hp, m⟩ := hrel
                                by_cases hlt : k < 47
                                · go_wp2_with fail
                                  (refine (m.sqr 1 rfl (m.get 1 rfl)).mono ?_); clear m; rintro e v2 ⟨rfl, z2, hz, m⟩; replace m : MM non w v2 [(w.heap.size, z19), (w2.heap.size, z2), (w2.heap.size + 1, z16)] := m
                                  have hq := hp.dbl hz.out
                                  clear hz hp
                                  go_wp2_with fail
                                  go_roundw
                                  case rel => exact ⟨k + 1, z2, by omega, by go_num, hq, m⟩
                                  case measure => simp [intOf]; omega
                                · obtain rfl : k = 47 := by omega
                                  have q24 := hp.cast (show _ = 28948022302589062190674361737351893382521535853822578548883407686479286108160 by decide +kernel)
                                  clear hp hk hlt
                                  go_wp2_with fail
                                  obtain ⟨z24, hzn⟩ : ∃ y, y = z := ⟨_, rfl⟩
                                  subst hzn
                                  (refine (m.mul 0 rfl (m.get 0 rfl) (m.get 1 rfl)).mono ?_); clear m; rintro e v25 ⟨rfl, z25, hz, m⟩; replace m : MM non w v25 [(w.heap.size, z25), (w2.heap.size, z24), (w2.heap.size + 1, z16)] := m
                                  have q25 := (q19.mul q24 hz.out).cast (show _ = 28948022302589062190674361737351893382521535853822578548883407827216774463487 from rfl)
                                  clear hz
                                  go_wp2_with fail
                                  go_loopw [16] (fun i wr => ∃ (k : Nat) (z : EC.F), k ≤ 2 ∧ i = .int .i64 (k : Int) ∧ Pw x (28948022302589062190674361737351893382521535853822578548883407827216774463487 * 2 ^ k) z ∧ MM non w wr [(w.heap.size, z), (w2.heap.size, z24), (w2.heap.size + 1, z16)]) (fun i _ => 2 - (intOf i).toNat)
                                  case atStart => exact ⟨0, z25, by omega, rfl, q25.cast (by decide +kernel), m⟩
                                  case round =>
                                    clear m
                                    obtain ⟨k, z, hk, rfl, hp, m⟩ := hrel
                                    by_cases hlt : k < 2
                                    · go_wp2_with fail
                                      (refine (m.sqr 0 rfl (m.get 0 rfl)).mono ?_); clear m; rintro e v2 ⟨rfl, z2, hz, m⟩; replace m : MM non w v2 [(w.heap.size, z2), (w2.heap.size, z24), (w2.heap.size + 1, z16)] := m
                                      have hq := hp.dbl hz.out
                                      clear hz hp
                                      go_wp2_with fail
                                      go_roundw
                                      case rel => exact ⟨k + 1, z2, by omega, by go_num, hq, m⟩
                                      case measure => simp [intOf]; omega
                                    · obtain rfl : k = 2 := by omega
                                      have q26 := hp.cast (show _ = 115792089210356248762697446949407573530086143415290314195533631308867097853948 by decide +kernel)
                                      clear hp hk hlt
                                      go_wp2_with fail
                                      obtain ⟨z26, hzn⟩ : ∃ y, y = z := ⟨_, rfl⟩
                                      subst hzn
                                      (refine (m.mul 0 rfl (m.old hx) (m.get 0 rfl)).mono ?_); clear m; rintro e v27 ⟨rfl, z27, hz, m⟩; replace m : MM non w v27 [(w.heap.size, z27), (w2.heap.size, z24), (w2.heap.size + 1, z16)] := m
                                      have q27 := (qx.mul q26 hz.out).cast (show _ = 115792089210356248762697446949407573530086143415290314195533631308867097853949 from rfl)
                                      clear hz
                                      go_wp2_with fail
                                      have hr := q27.inv (by decide +kernel)
                                      have hs := he.sp.kp m.k fun _ _ h => h
                                      replace m := m.wide (T := at_ p1 p2 4) fun _ _ _ h => h.elim
                                      (refine (m.out 0 rfl hs hlt (fun i hi => ⟨rfl, by omega, by omega⟩)).mono ?_); clear m; rintro e v1 ⟨rfl, m, hk, he2⟩
                                      have k2 := m.k
                                      rw [hr] at he2
                                      clear m hk hs
                                      go_wp2_with fail
                                      go_ret
                                      exact ⟨rfl, k2, he2⟩
end Go.Proofs.Ytjdjhccefnffmaa
set_option maxRecDepth 100000
set_option maxHeartbeats 4000000
namespace Go.Proofs.Ytjdjhccefnffmaa
open Go LX Go.RowKit
/-- The bytes of a point that is not far: so many. -/
def encA (x y : EC.F) (i : Nat) : Nat := if i = 0 then 4 else if i < 33 then be x.val (i - 1) else be y.val (i - 33)
/-- A slice of so many bytes, in a new block. -/
def Sl (n : Nat) (f : Nat → Nat) (w : World) (e : Ending) (w' : World) : Prop :=
  ∃ b cap, e = .returned (.slice (some ⟨b, 0, none⟩) n cap) ∧ n ≤ cap ∧ w.heap.size ≤ b ∧ By w' b 0 n f ∧ Kp non w w'
theorem By.one (w : World) (k : Nat) (kv : Int) (hkv : kv = (k : Int)) (hk : k < 256) (t : TypeId) : By (w.alloc (.cells #[.int .u8 kv] t)) w.heap.size 0 1 fun _ => k := fun i hi => by
  obtain rfl : i = 0 := by omega
  subst hkv
  exact ⟨Cel.new _ _ _ 0 _ rfl, hk⟩
theorem c63_far {w : World} {p1 p2 ob : Nat} {X Y : EC.F} (hp : P3 w p1 p2 X Y 0) (hb : By w ob 0 65 fun _ => 0) :
    Calls Try.prog 63 #[pt p1 p2, pt ob 0] w fun e w' => e = .returned (.slice (some ⟨ob, 0, none⟩) 1 65) ∧ Kp (at_ ob 0 65) w w' ∧ By w' ob 0 1 fun _ => 0 := by
  go_enter Try.func63, Try.ntmps63
  go_wp2_with fail
  refine (c86 hp.z).mono ?_
  rintro e w1 ⟨n, rfl, -, hi, hk⟩
  obtain rfl : n = 1 := hi.2 rfl
  clear hi
  have hb1 := hb.kp hk fun _ _ h => h
  have k2 : Kp (at_ ob 0 65) w ((w1.alloc (.cells #[.int .u8 0] 5)).setCells ob 0 (byl (fun _ => 0) 1)) := Kp.setCells ob _ 0 _ ((hk.wide fun _ _ _ h => h.elim).alloc _) fun j hj _ => ⟨rfl, by omega, by rw [byl_len] at hj; omega⟩
  have hd : ∀ j, j < 1 → ∃ v, Cel (w1.alloc (.cells #[.int .u8 0] 5)) ob (0 + j) v := fun j hj => ⟨_, ((hb1 j (by omega)).1.alloc _)⟩
  have hr : By ((w1.alloc (.cells #[.int .u8 0] 5)).setCells ob 0 (byl (fun _ => 0) 1)) ob 0 1 fun _ => 0 := By.set hd fun _ _ => by omega
  have ho := By.one w1 0 0 rfl (by omega) 5
  have hd' := Lib.hid hd
  clear hb hb1 hk hp hd
  go_wp2_with (at_builtin; refine wpList_append_in rfl _ _ rfl ob 0 0 65 rfl w1.heap.size 0 1 1 rfl (fun _ => 0) ho hd'.out (by omega) ?_)
  go_ret
  exact ⟨rfl, k2, hr⟩
theorem MM.keepS {S T : Nat → Nat → Prop} {w0 w w' : World} {l : List (Nat × EC.F)} (m : MM S w0 w l) (hk : Kp T w w') (hT : ∀ b o, T b o → b < w0.heap.size ∧ S b o) : MM S w0 w' l :=
  ⟨m.k.trans hk (fun _ _ _ h => h) (fun _ _ _ h => (hT _ _ h).2), fun e h => ⟨(m.el e h).1, (m.el e h).2.kp hk fun _ _ h2 => by have := (hT _ _ h2).1; have := (m.el e h).1; omega⟩, m.sep⟩
/-- So many cells that may be written. -/
def Room (w : World) (b o n : Nat) : Prop := ∀ j, j < n → ∃ v, Cel w b (o + j) v
theorem Room.sub {w : World} {b o n : Nat} (h : Room w b o n) (k m : Nat) (hm : k + m ≤ n) : ∀ j, j < m → ∃ v, Cel w b (o + k + j) v := fun j hj => by
  have := h (k + j) (by omega)
  rwa [← Nat.add_assoc] at this
theorem Room.kp {S : Nat → Nat → Prop} {w w' : World} {b o n : Nat} (h : Room w b o n) (hk : Kp S w w') (hS : ∀ i, i < n → ¬ S b (o + i)) : Room w' b o n := fun j hj => by
  obtain ⟨v, hv⟩ := h j hj
  exact ⟨v, hv.kp hk (hS j hj)⟩
theorem Room.setCells {w : World} {b o n : Nat} (h : Room w b o n) (b' o' : Nat) (l : List Value) : Room (w.setCells b' o' l) b o n := fun j hj => by
  obtain ⟨v, hv⟩ := h j hj
  have h1 := World.isSome_setCells b' l o' w ⟨b, o + j, none⟩ (by rw [hv.1]; rfl)
  obtain ⟨u, hu⟩ := Option.isSome_iff_exists.1 h1
  exact ⟨u, hu, by rw [World.frozen?_setCells]; exact hv.2⟩
theorem By.room {w : World} {b o n : Nat} {f : Nat → Nat} (h : By w b o n f) : Room w b o n := fun j hj => ⟨_, (h j hj).1⟩
theorem Kp.byl (w : World) (b o n : Nat) (f : Nat → Nat) : Kp (at_ b o n) w (w.setCells b o (byl f n)) := Kp.setCells b _ o w (Kp.refl _ _) fun j hj _ => ⟨rfl, by omega, by rw [byl_len] at hj; omega⟩
theorem c63_aff {w : World} {p1 p2 ob : Nat} {X Y Z : EC.F} (hp : P3 w p1 p2 X Y Z) (hb : By w ob 0 65 fun _ => 0) (hz : Z ≠ 0) :
    Calls Try.prog 63 #[pt p1 p2, pt ob 0] w fun e w' => e = .returned (.slice (some ⟨ob, 0, none⟩) 65 65) ∧ Kp (at_ ob 0 65) w w' ∧ By w' ob 0 65 (encA (X * EC.inv Z) (Y * EC.inv Z)) := by
  have hlt := (hb 0 (by omega)).1.lt
  go_enter Try.func63, Try.ntmps63
  go_wp2_with fail
  refine (c86 hp.z).mono ?_
  rintro e w1 ⟨n, rfl, hn, hi, hk⟩
  obtain rfl : n = 0 := by
    by_cases h : n = 1
    · exact absurd (hi.1 h) hz
    · omega
  clear hi hn
  have m := ((MM.nil w).keep hk).new 91
  replace m : MM non w _ [(w1.heap.size, 0)] := m
  clear hk
  go_wp2_with fail
  (refine (c87 (m.get 0 rfl) (m.old hp.z)).mono ?_); rintro e w2 ⟨rfl, hk, he⟩
  replace m := m.set 0 rfl hk he
  clear hk he
  generalize hzi : EC.inv Z = zi at *
  replace m : MM non w w2 [(w1.heap.size, zi)] := m
  go_wp2_with fail
  replace m := m.new 91
  replace m : MM non w _ [(w1.heap.size, zi), (w2.heap.size, 0)] := m
  (refine (m.mul 1 rfl (m.old hp.x) (m.get 0 rfl)).mono ?_); clear m; rintro e w3 ⟨rfl, x, hx, m⟩; replace m : MM non w w3 [(w1.heap.size, zi), (w2.heap.size, x)] := m
  go_wp2_with fail
  replace m := m.new 91
  replace m : MM non w _ [(w1.heap.size, zi), (w2.heap.size, x), (w3.heap.size, 0)] := m
  (refine (m.mul 2 rfl (m.old hp.y) (m.get 0 rfl)).mono ?_); clear m; rintro e w4 ⟨rfl, y, hy, m⟩; replace m : MM non w w4 [(w1.heap.size, zi), (w2.heap.size, x), (w3.heap.size, y)] := m
  have r0 : Room (w4.alloc (.cells #[.int .u8 4] 5)) ob 0 65 := (hb.room.kp m.k fun _ _ h => h).kp ((Kp.refl non _).alloc _) fun _ _ h => h
  have ho := By.one w4 4 4 rfl (by omega) 5
  have m1 := (m.wide (T := at_ ob 0 65) fun _ _ _ h => h.elim).keep ((Kp.refl non w4).alloc (.cells #[.int .u8 4] 5))
  have hd := Lib.hid (r0.sub 0 1 (by omega))
  clear m hb
  go_wp2_with (at_builtin; refine wpList_append_in rfl _ _ rfl ob 0 0 65 rfl w4.heap.size 0 1 1 rfl (fun _ => 4) ho hd.out (by omega) ?_)
  generalize hv1 : ((w4.alloc (.cells #[.int .u8 4] 5)).setCells ob 0 (byl (fun _ => 4) 1)) = v1
  have q1 : By v1 ob 0 1 fun _ => 4 := by rw [← hv1]; exact By.set (hd.out) fun _ _ => by omega
  replace r0 : Room v1 ob 0 65 := by rw [← hv1]; exact r0.setCells _ _ _
  have m2 : MM (at_ ob 0 65) w v1 [(w1.heap.size, zi), (w2.heap.size, x), (w3.heap.size, y)] := by
    rw [← hv1]; exact m1.keepS (Kp.byl _ ob 0 1 _) fun b o h => by obtain ⟨rfl, h1, h2⟩ := h; exact ⟨hlt, rfl, by omega, by omega⟩
  clear m1 ho hd hv1
  refine (c80 (m2.get 1 rfl)).mono ?_
  rintro e w5 ⟨rfl, hk, hb5⟩
  replace m2 := m2.keep hk
  replace q1 := q1.kp hk fun _ _ h => h
  replace r0 := r0.kp hk fun _ _ h => h
  have hd := Lib.hid (r0.sub 1 32 (by omega))
  clear hk
  go_wp2_with (at_builtin; refine wpList_append_in rfl _ _ rfl ob 0 1 65 rfl v1.heap.size 0 32 32 rfl (be x.val) hb5 hd.out (by omega) ?_)
  generalize hv2 : w5.setCells ob (0 + 1) (byl (be x.val) 32) = v2
  have q2 : By v2 ob 1 32 (be x.val) := by rw [← hv2]; exact By.set (hd.out) fun i hi => (hb5 i hi).2
  have k2 : Kp (at_ ob 1 32) w5 v2 := by rw [← hv2]; exact Kp.byl w5 ob (0 + 1) 32 _
  replace r0 : Room v2 ob 0 65 := by rw [← hv2]; exact r0.setCells _ _ _
  replace m2 : MM (at_ ob 0 65) w v2 [(w1.heap.size, zi), (w2.heap.size, x), (w3.heap.size, y)] := 
    m2.keepS k2 fun b o h => by obtain ⟨rfl, h1, h2⟩ := h; exact ⟨hlt, rfl, by omega, by omega⟩
  replace q1 := q1.kp k2 fun i hi h => by have := h.2.1; omega
  clear hd hv2 hb5 k2
  refine (c80 (m2.get 2 rfl)).mono ?_
  rintro e w6 ⟨rfl, hk, hb6⟩
  replace m2 := m2.keep hk
  replace q1 := q1.kp hk fun _ _ h => h
  replace q2 := q2.kp hk fun _ _ h => h
  replace r0 := r0.kp hk fun _ _ h => h
  have hd := Lib.hid (r0.sub 33 32 (by omega))
  clear hk
  go_wp2_with (at_builtin; refine wpList_append_in rfl _ _ rfl ob 0 33 65 rfl v2.heap.size 0 32 32 rfl (be y.val) hb6 hd.out (by omega) ?_)
  generalize hv3 : w6.setCells ob (0 + 33) (byl (be y.val) 32) = v3
  have q3 : By v3 ob 33 32 (be y.val) := by rw [← hv3]; exact By.set (hd.out) fun i hi => (hb6 i hi).2
  have k3 : Kp (at_ ob 33 32) w6 v3 := by rw [← hv3]; exact Kp.byl w6 ob (0 + 33) 32 _
  replace m2 : MM (at_ ob 0 65) w v3 [(w1.heap.size, zi), (w2.heap.size, x), (w3.heap.size, y)] := 
    m2.keepS k3 fun b o h => by obtain ⟨rfl, h1, h2⟩ := h; exact ⟨hlt, rfl, by omega, by omega⟩
  replace q1 := q1.kp k3 fun i hi h => by have := h.2.1; omega
  replace q2 := q2.kp k3 fun i hi h => by have := h.2.1; omega
  have kk := m2.k
  have hall : By v3 ob 0 65 (encA x y) := fun i hi => by
    by_cases h0 : i = 0
    · subst h0; exact q1 0 (by omega)
    · by_cases h1 : i < 33
      · have := q2 (i - 1) (by omega)
        rw [show 1 + (i - 1) = 0 + i by omega] at this
        simp only [encA, if_neg h0, if_pos h1]
        exact this
      · have := q3 (i - 33) (by omega)
        rw [show 33 + (i - 33) = 0 + i by omega] at this
        simp only [encA, if_neg h0, if_neg h1]
        exact this
  rw [hx.out, hy.out, ← hzi] at hall
  clear hd hv3 hb6 k3 m2 r0 q1 q2 q3 hx hy hzi
  go_ret
  exact ⟨rfl, kk, hall⟩
end Go.Proofs.Ytjdjhccefnffmaa
set_option maxRecDepth 100000
set_option maxHeartbeats 4000000
namespace Go.Proofs.Ytjdjhccefnffmaa
open Go LX Go.RowKit
/-- A point that is written so: how many bytes, and which. -/
def ptN : EC.Pt → Nat
  | .far => 1
  | .aff _ _ => 65
def ptF : EC.Pt → Nat → Nat
  | .far, _ => 0
  | .aff x y, i => encA x y i
/-- A point of the curve lies there. -/
def PtAt (w : World) (b o : Nat) (P : EC.Pt) : Prop := P.Ok ∧ ∃ X Y Z, P3 w b o X Y Z ∧ EC.Pt.Rep X Y Z P
theorem PtAt.kp {w w' : World} {b o : Nat} {P : EC.Pt} {S : Nat → Nat → Prop} (h : PtAt w b o P) (hk : Kp S w w') (hS : ∀ i, i < 12 → ¬ S b (o + i)) : PtAt w' b o P := by
  obtain ⟨h0, X, Y, Z, h1, h2⟩ := h
  exact ⟨h0, X, Y, Z, h1.kp hk hS, h2⟩
theorem PtAt.drew {w : World} {b o : Nat} {P : EC.Pt} (h : PtAt w b o P) : PtAt w.drew b o P := by
  obtain ⟨h0, X, Y, Z, h1, h2⟩ := h
  exact ⟨h0, X, Y, Z, h1.drew, h2⟩
theorem PtAt.s3 {w : World} {b o : Nat} {P : EC.Pt} (h : PtAt w b o P) : S3 w b o := by
  obtain ⟨h0, X, Y, Z, h1, h2⟩ := h
  exact h1.sp
theorem rep_inv {X Y Z x y : EC.F} (h : EC.Pt.Rep X Y Z (.aff x y)) : X * EC.inv Z = x ∧ Y * EC.inv Z = y := by
  obtain ⟨h0, rfl, rfl⟩ := h
  have hi := EC.mul_inv Z h0
  generalize EC.inv Z = i at *
  constructor
  · rw [mul_assoc_, hi, mul_one_]
  · rw [mul_assoc_, hi, mul_one_]
theorem c41 {w : World} {p1 p2 : Nat} {P : EC.Pt} (hp : PtAt w p1 p2 P) : Calls Try.prog 41 #[pt p1 p2] w (Sl (ptN P) (ptF P) w) := by
  obtain ⟨-, X, Y, Z, h3, hr⟩ := hp
  have k0 : Kp non w (w.alloc (.cells (bys (fun _ => 0) 65) 100)) := (Kp.refl _ w).alloc _
  have hb := By.new w 100 (fun _ => 0) 65 fun _ _ => by omega
  have h3' := h3.kp k0 fun _ _ h => h
  have hzv : (zeroValue 100).run Try.prog w = .ok (.agg (bys (fun _ => 0) 65)) w := by kernel_rfl
  cases P with
  | far =>
    obtain ⟨rfl, rfl, -⟩ := hr
    go_enter Try.func41, Try.ntmps41
    go_wp2_with fail
    refine (c63_far h3' hb).mono ?_
    rintro e w1 ⟨rfl, hk, hr⟩
    have k1 : Kp non w w1 := k0.trans hk (fun _ _ _ h => h) (fun _ _ hx h => by have := h.1; omega)
    clear h3 h3' hb k0 hk
    go_wp2_with fail
    go_ret
    exact ⟨_, _, rfl, by decide, Nat.le_refl _, hr, k1⟩
  | aff x y =>
    have hz : Z ≠ 0 := hr.1
    obtain ⟨hx, hy⟩ := rep_inv hr
    clear hr
    go_enter Try.func41, Try.ntmps41
    go_wp2_with fail
    refine (c63_aff h3' hb hz).mono ?_
    rintro e w1 ⟨rfl, hk, hr⟩
    rw [hx, hy] at hr
    have k1 : Kp non w w1 := k0.trans hk (fun _ _ _ h => h) (fun _ _ hx h => by have := h.1; omega)
    clear h3 h3' hb k0 hk hx hy
    go_wp2_with fail
    go_ret
    exact ⟨_, _, rfl, Nat.le_refl _, Nat.le_refl _, hr, k1⟩
/-- The bytes of the base point's coordinates. -/
def gxB (i : Nat) : Nat := [107, 23, 209, 242, 225, 44, 66, 71, 248, 188, 230, 229, 99, 164, 64, 242, 119, 3, 125, 129, 45, 235, 51, 160, 244, 161, 57, 69, 216, 152, 194, 150].getD i 0
def gyB (i : Nat) : Nat := [79, 227, 66, 226, 254, 26, 127, 155, 142, 231, 235, 74, 124, 15, 158, 22, 43, 206, 51, 87, 107, 49, 94, 206, 203, 182, 64, 104, 55, 191, 81, 245].getD i 0
theorem gxB_lt : ∀ i, i < 32 → gxB i < 256 := by decide
theorem gyB_lt : ∀ i, i < 32 → gyB i < 256 := by decide
theorem gxB_val : hi8 gxB 32 < PN ∧ nF (hi8 gxB 32) = EC.Pt.Gx := by decide +kernel
theorem gyB_val : hi8 gyB 32 < PN ∧ nF (hi8 gyB 32) = EC.Pt.Gy := by decide +kernel
theorem gxB_lit : bys gxB 32 = #[.int .u8 107, .int .u8 23, .int .u8 209, .int .u8 242, .int .u8 225, .int .u8 44, .int .u8 66, .int .u8 71, .int .u8 248, .int .u8 188, .int .u8 230, .int .u8 229, .int .u8 99, .int .u8 164, .int .u8 64, .int .u8 242, .int .u8 119, .int .u8 3, .int .u8 125, .int .u8 129, .int .u8 45, .int .u8 235, .int .u8 51, .int .u8 160, .int .u8 244, .int .u8 161, .int .u8 57, .int .u8 69, .int .u8 216, .int .u8 152, .int .u8 194, .int .u8 150] := by kernel_rfl
theorem gyB_lit : bys gyB 32 = #[.int .u8 79, .int .u8 227, .int .u8 66, .int .u8 226, .int .u8 254, .int .u8 26, .int .u8 127, .int .u8 155, .int .u8 142, .int .u8 231, .int .u8 235, .int .u8 74, .int .u8 124, .int .u8 15, .int .u8 158, .int .u8 22, .int .u8 43, .int .u8 206, .int .u8 51, .int .u8 87, .int .u8 107, .int .u8 49, .int .u8 94, .int .u8 206, .int .u8 203, .int .u8 182, .int .u8 64, .int .u8 104, .int .u8 55, .int .u8 191, .int .u8 81, .int .u8 245] := by kernel_rfl
theorem c47 {w : World} {p1 p2 : Nat} (hs : S3 w p1 p2) : Calls Try.prog 47 #[pt p1 p2] w fun e w' => e = .returned (pt p1 p2) ∧ Kp (at_ p1 p2 12) w w' ∧ PtAt w' p1 p2 EC.Pt.G := by
  have k0 : Kp non w (w.alloc (.cells (bys gxB 32) 5)) := (Kp.refl _ w).alloc _
  have hb := By.new w 5 gxB 32 gxB_lt
  have hs0 := hs.kp k0 fun _ _ h => h
  rw [gxB_lit] at k0 hb hs0
  have hlt := hs.lt
  go_enter Try.func47, Try.ntmps47
  go_wp2_with fail
  refine (c73 (f := gxB) hs0.x hb).mono ?_
  rintro e w1 ⟨h1, -⟩
  obtain ⟨rfl, hk, he⟩ := h1 gxB_val.1
  rw [gxB_val.2] at he
  clear h1
  have hy1 := hs0.y.kp hk fun i _ h => by have := h.2.2; omega
  have hz1 := hs0.z.kp hk fun i _ h => by have := h.2.2; omega
  replace hk := (k0.wide (T := at_ p1 p2 12) fun _ _ _ h => h.elim).trans hk (fun _ _ _ h => h) (fun _ _ _ h => ⟨h.1, by have := h.2; omega, by have := h.2; omega⟩)
  clear k0 hb hs0
  have k0 : Kp non w1 (w1.alloc (.cells (bys gyB 32) 5)) := (Kp.refl _ w1).alloc _
  have hb := By.new w1 5 gyB 32 gyB_lt
  replace hy1 := hy1.kp k0 fun _ _ h => h
  replace hz1 := hz1.kp k0 fun _ _ h => h
  replace he := he.kp k0 fun _ _ h => h
  rw [gyB_lit] at k0 hb hy1 hz1 he
  go_wp2_with fail
  refine (c73 (f := gyB) hy1 hb).mono ?_
  rintro e w2 ⟨h1, -⟩
  obtain ⟨rfl, hk2, he2⟩ := h1 gyB_val.1
  rw [gyB_val.2] at he2
  clear h1
  replace hz1 := hz1.kp hk2 fun i _ h => by have := h.2.2; omega
  replace he := he.kp hk2 fun i _ h => by have := h.2.1; omega
  replace hk2 := (hk.trans k0 (fun _ _ _ h => h) (fun _ _ _ h => h.elim)).trans hk2 (fun _ _ _ h => h) (fun _ _ _ h => ⟨h.1, by have := h.2; omega, by have := h.2; omega⟩)
  clear hk k0 hb hy1
  go_wp2_with fail
  refine (c65 (p := (p1, p2 + 8)) hz1).mono ?_
  rintro e w3 ⟨rfl, hk3, he3⟩
  simp only [ptr] at *
  have kk := hk2.trans hk3 (fun _ _ _ h => h) (fun _ _ _ h => ⟨h.1, by have := h.2; omega, by have := h.2; omega⟩)
  have hp : P3 w3 p1 p2 EC.Pt.Gx EC.Pt.Gy 1 := ⟨he.kp hk3 fun i _ h => by have := h.2.1; omega, he2.kp hk3 fun i _ h => by have := h.2.1; omega, he3⟩
  clear hk2 hk3 he he2 he3 hz1
  go_wp2_with fail
  go_ret
  exact ⟨rfl, kk, EC.Pt.G_ok, _, _, _, hp, EC.Pt.rep_one _ _⟩
end Go.Proofs.Ytjdjhccefnffmaa
