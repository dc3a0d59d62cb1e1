import Derived.Test.YtjdjhccefnffmaaB27
set_option linter.unusedVariables false
set_option linter.unusedSimpArgs false
set_option maxRecDepth 100000
set_option maxHeartbeats 1000000
namespace Go.Proofs.Ytjdjhccefnffmaa
open Go LX Go.RowKit
theorem f3 {w : World} {n : Nat} {v : Value} {g : Nat → Nat} (hv : Arg w v n) (hg : ∀ i, i < 32 → g i < 256) : Calls Try.prog 3 #[v, .agg (bys g 32)] w (Tru w) := by
  obtain ⟨⟨ad, c, rfl⟩, hv⟩ := hv
  have hz := z27
  have k0 : Kp non w (w.alloc (.cells (bys g 32) 23)) := (Kp.refl _ w).alloc _
  have hB := By.new w 23 g 32 hg
  rcases hv with hbig | ⟨f, hv⟩
  · have a1 : (2147483647 : Int) < (n : Int) := by omega
    go_enter Try.func3, Try.ntmps3
    go_wp2_with fail
    go_ret
    exact ⟨rfl, k0⟩
  · have a1 : ¬ (2147483647 : Int) < (n : Int) := by have := hv.len; omega
    replace hv := hv.kp k0
    go_enter Try.func3, Try.ntmps3
    go_wp2_with fail
    refine (c13 hv).mono ?_
    generalize hHH : w.heap.size = H at *
    generalize (w.alloc (.cells (bys g 32) 23)) = W0 at *
    rintro e w1 ⟨fr, x, y, rfl, hQ, hk⟩
    replace hv := hv.kp hk
    replace hB := hB.kp hk fun _ _ h => h
    replace k0 := k0.non hk
    have k1 := k0.alloc (.cells (pl false (fun _ => 0) fun _ => 0).toArray 27)
    have h5 := Pl.new w1 27 false (fun _ => 0) fun _ => 0
    have hlt1 := k0.size
    obtain ⟨R, hR⟩ : ∃ R, R = rd n f := ⟨_, rfl⟩
    rw [← hR] at hQ ⊢
    clear hk
    cases R with
    | none =>
      clear hR hQ
      go_wp2_with (refine wpList_storeP rfl _ _ rfl w1.heap.size fr x y rfl rfl h5 ?_; intro W kW hW)
      go_ret
      exact ⟨rfl, kp_in k1 kW hlt1⟩
    | some P =>
      have hP := rd_ok hR.symm
      have hq := Lib.hid (hQ P rfl)
      replace hR := Lib.hid hR.symm
      clear hQ
      have hne : H < w1.heap.size := (hB 0 (by omega)).1.lt
      go_wp2_with (refine wpList_storeP rfl _ _ rfl w1.heap.size fr x y rfl rfl h5 ?_; intro W kW hW)
      have kk : Kp non w1 W := kp_in ((Kp.refl non w1).alloc _) kW (Nat.le_refl _)
      replace hv := hv.kp kk
      replace hB := hB.kp kk fun _ _ h => h
      replace k0 := k0.non kk
      clear kk kW h5 k1
      refine (c14 hv (in_arr hB) hR.out).mono ?_
      rintro e w2 ⟨u, rfl, hu, hk⟩
      replace hB := hB.kp hk fun _ _ h => h
      replace hW := hW.kp hk fun _ h => h
      replace k0 := k0.non hk
      clear hv hk
      go_wp2_with (first | (refine wpList_load23g (by kernel_rfl) _ rfl H 0 rfl g hB.range ?_) | (refine wpList_load27g (by kernel_rfl) _ rfl w1.heap.size rfl _ _ _ hW ?_))
      refine (c16v hg hP hq.out).mono ?_
      rintro e w3 ⟨rfl, hk⟩
      replace hu := hu.kp hk
      replace k0 := k0.non hk
      clear hB hW hk
      go_wp2_with fail
      refine (c15t hu).mono ?_
      rintro e w4 ⟨rfl, hk⟩
      replace k0 := k0.non hk
      clear hu hk
      go_wp2_with fail
      go_ret
      exact ⟨rfl, k0⟩
theorem f5 {w : World} {n : Nat} {v : Value} {g : Nat → Nat} (hv : Arg w v n) (hg : ∀ i, i < 32 → g i < 256) : Calls Try.prog 5 #[v, .agg (bys g 32)] w (Tru w) := by
  obtain ⟨⟨ad, c, rfl⟩, hv⟩ := hv
  have hz := z27
  have k0 : Kp non w (w.alloc (.cells (bys g 32) 23)) := (Kp.refl _ w).alloc _
  have hB := By.new w 23 g 32 hg
  rcases hv with hbig | ⟨f, hv⟩
  · have a1 : (2147483647 : Int) < (n : Int) := by omega
    go_enter Try.func5, Try.ntmps5
    go_wp2_with fail
    go_ret
    exact ⟨rfl, k0⟩
  · have a1 : ¬ (2147483647 : Int) < (n : Int) := by have := hv.len; omega
    replace hv := hv.kp k0
    go_enter Try.func5, Try.ntmps5
    go_wp2_with fail
    refine (c13 hv).mono ?_
    generalize hHH : w.heap.size = H at *
    generalize (w.alloc (.cells (bys g 32) 23)) = W0 at *
    rintro e w1 ⟨fr, x, y, rfl, hQ, hk⟩
    replace hv := hv.kp hk
    replace hB := hB.kp hk fun _ _ h => h
    replace k0 := k0.non hk
    have k1 := k0.alloc (.cells (pl false (fun _ => 0) fun _ => 0).toArray 27)
    have h5 := Pl.new w1 27 false (fun _ => 0) fun _ => 0
    have hlt1 := k0.size
    obtain ⟨R, hR⟩ : ∃ R, R = rd n f := ⟨_, rfl⟩
    rw [← hR] at hQ ⊢
    clear hk
    cases R with
    | none =>
      clear hR hQ
      go_wp2_with (refine wpList_storeP rfl _ _ rfl w1.heap.size fr x y rfl rfl h5 ?_; intro W kW hW)
      go_ret
      exact ⟨rfl, kp_in k1 kW hlt1⟩
    | some P =>
      have hP := rd_ok hR.symm
      have hq := Lib.hid (hQ P rfl)
      replace hR := Lib.hid hR.symm
      clear hQ
      have hne : H < w1.heap.size := (hB 0 (by omega)).1.lt
      go_wp2_with (refine wpList_storeP rfl _ _ rfl w1.heap.size fr x y rfl rfl h5 ?_; intro W kW hW)
      have kk : Kp non w1 W := kp_in ((Kp.refl non w1).alloc _) kW (Nat.le_refl _)
      replace hv := hv.kp kk
      replace hB := hB.kp kk fun _ _ h => h
      replace k0 := k0.non kk
      clear kk kW h5 k1
      refine (c22 hv (in_arr hB) hR.out).mono ?_
      rintro e w2 ⟨u, rfl, hu, hk⟩
      replace hB := hB.kp hk fun _ _ h => h
      replace hW := hW.kp hk fun _ h => h
      replace k0 := k0.non hk
      clear hv hk
      go_wp2_with (first | (refine wpList_load23g (by kernel_rfl) _ rfl H 0 rfl g hB.range ?_) | (refine wpList_load27g (by kernel_rfl) _ rfl w1.heap.size rfl _ _ _ hW ?_))
      refine (c16v hg hP hq.out).mono ?_
      rintro e w3 ⟨rfl, hk⟩
      replace hu := hu.kp hk
      replace k0 := k0.non hk
      clear hB hW hk
      go_wp2_with fail
      refine (c15t hu).mono ?_
      rintro e w4 ⟨rfl, hk⟩
      replace k0 := k0.non hk
      clear hu hk
      go_wp2_with fail
      go_ret
      exact ⟨rfl, k0⟩
theorem f8 {w : World} {n m : Nat} {v u : Value} (hv : Arg w v n) (hu : Arg w u m) : Calls Try.prog 8 #[v, u] w (Tru w) := by
  obtain ⟨⟨ad, c, rfl⟩, hv⟩ := hv
  obtain ⟨⟨ad2, c2, rfl⟩, hu⟩ := hu
  have hz := z27
  have k0 : Kp non w w := Kp.refl _ _
  rcases hv with hbig | ⟨f, hv⟩
  · have a1 : (2147483647 : Int) < (n : Int) := by omega
    clear hu
    go_enter Try.func8, Try.ntmps8
    go_wp2_with fail
    go_ret
    exact ⟨rfl, k0⟩
  · have a1 : ¬ (2147483647 : Int) < (n : Int) := by have := hv.len; omega
    rcases hu with hbig | ⟨g, hu⟩
    · have a2 : (2147483647 : Int) < (m : Int) := by omega
      go_enter Try.func8, Try.ntmps8
      go_wp2_with fail
      go_ret
      exact ⟨rfl, k0⟩
    · have a2 : ¬ (2147483647 : Int) < (m : Int) := by have := hu.len; omega
      go_enter Try.func8, Try.ntmps8
      go_wp2_with fail
      refine (c13 hv).mono ?_
      rintro e w1 ⟨fr, x, y, rfl, hQ, hk⟩
      replace hv := hv.kp hk
      replace hu := hu.kp hk
      replace k0 := k0.non hk
      have k1 := k0.alloc (.cells (pl false (fun _ => 0) fun _ => 0).toArray 27)
      have h5 := Pl.new w1 27 false (fun _ => 0) fun _ => 0
      have hlt1 := k0.size
      obtain ⟨R, hR⟩ : ∃ R, R = rd n f := ⟨_, rfl⟩
      rw [← hR] at hQ ⊢
      clear hk
      cases R with
      | none =>
        clear hR hQ
        go_wp2_with (refine wpList_storeP rfl _ _ rfl w1.heap.size fr x y rfl rfl h5 ?_; intro W kW hW)
        go_ret
        exact ⟨rfl, kp_in k1 kW hlt1⟩
      | some P =>
        have hP := rd_ok hR.symm
        have hq := Lib.hid (hQ P rfl)
        replace hR := Lib.hid hR.symm
        clear hQ
        by_cases hm : m = 32
        · have a3 : ((m : Int) == 32) = true := by rw [beq_iff_eq]; omega
          clear hu hv
          subst hm
          go_wp2_with (refine wpList_storeP rfl _ _ rfl w1.heap.size fr x y rfl rfl h5 ?_; intro W kW hW)
          go_ret
          exact ⟨rfl, kp_in k1 kW hlt1⟩
        · have a3 : ((m : Int) == 32) = false := by rw [beq_eq_false_iff_ne]; omega
          have hm' := Lib.hid hm
          clear hm
          go_wp2_with (refine wpList_storeP rfl _ _ rfl w1.heap.size fr x y rfl rfl h5 ?_; intro W kW hW)
          have kk : Kp non w1 W := kp_in ((Kp.refl non w1).alloc _) kW (Nat.le_refl _)
          replace hv := hv.kp kk
          replace hu := hu.kp kk
          replace k0 := k0.non kk
          clear kk kW h5 k1
          refine (c22_no hv hu hm'.out hR.out).mono ?_
          rintro e w2 ⟨z, rfl, -, hk⟩
          replace hv := hv.kp hk
          replace hu := hu.kp hk
          replace hW := hW.kp hk fun _ h => h
          replace k0 := k0.non hk
          clear hk
          go_wp2_with fail
          refine (c14_no hv hu hm'.out hR.out).mono ?_
          rintro e w3 ⟨t, rfl, ht, hk⟩
          replace hW := hW.kp hk fun _ h => h
          replace k0 := k0.non hk
          clear hv hu hk
          go_wp2_with (refine wpList_load27g (by kernel_rfl) _ rfl w1.heap.size rfl _ _ _ hW ?_)
          have hc := c15t ht
          rw [← hq.out] at hc
          refine hc.mono ?_
          rintro e w4 ⟨rfl, hk⟩
          replace k0 := k0.non hk
          clear ht hk hc
          go_wp2_with fail
          go_ret
          exact ⟨rfl, k0⟩
end Go.Proofs.Ytjdjhccefnffmaa
