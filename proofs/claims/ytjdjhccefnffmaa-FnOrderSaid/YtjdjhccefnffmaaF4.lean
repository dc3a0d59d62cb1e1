import Derived.Test.YtjdjhccefnffmaaFC
set_option linter.unusedVariables false
set_option linter.unusedSimpArgs false
set_option maxRecDepth 100000
set_option maxHeartbeats 4000000
namespace Go.Proofs.Ytjdjhccefnffmaa
open Go LX Go.RowKit
theorem f4 {w : World} {n : Nat} {v : Value} (hv : Arg w v n) : Calls Try.prog 4 #[v] w (Tru w) := by
  obtain ⟨⟨ad, c, rfl⟩, hv⟩ := hv
  have hz := z27
  have hzv := z23
  have k0 : Kp non w w := Kp.refl _ _
  rcases hv with hbig | ⟨f, hv⟩
  · have a1 : (2147483647 : Int) < (n : Int) := by omega
    go_enter Try.func4, Try.ntmps4
    go_wp2_with fail
    go_ret
    exact ⟨rfl, k0⟩
  · have a1 : ¬ (2147483647 : Int) < (n : Int) := by have := hv.len; omega
    go_enter Try.func4, Try.ntmps4
    go_wp2_with fail
    refine (c13 hv).mono ?_
    rintro e w1 ⟨fr, x, y, rfl, hQ, hk⟩
    replace hv := hv.kp hk
    replace k0 := k0.non hk
    have k1 := k0.alloc (.cells (pl false (fun _ => 0) fun _ => 0).toArray 27)
    have h5 := Pl.new w1 27 false (fun _ => 0) fun _ => 0
    have hlt1 := k0.size
    obtain ⟨R, hR⟩ : ∃ R, R = rd n f := ⟨_, rfl⟩
    rw [← hR] at hQ ⊢
    clear hk
    cases R with
    | none =>
      clear hR hQ
      go_wp2_with (refine wpList_storeP rfl _ _ rfl w1.heap.size fr x y rfl rfl h5 ?_; intro W kW hW)
      go_ret
      exact ⟨rfl, kp_in k1 kW hlt1⟩
    | some P =>
      have hP := rd_ok hR.symm
      have hq := Lib.hid (hQ P rfl)
      replace hR := Lib.hid hR.symm
      clear hQ
      go_wp2_with (refine wpList_storeP rfl _ _ rfl w1.heap.size fr x y rfl rfl h5 ?_; intro W kW hW)
      have kk : Kp non w1 W := kp_in ((Kp.refl non w1).alloc _) kW (Nat.le_refl _)
      replace hv := hv.kp kk
      replace k0 := k0.non kk
      clear kk kW h5 k1
      generalize hE : w1.heap.size = E at *
      refine c18.mono ?_
      rintro e w2 ⟨rfl, hk⟩
      replace hv := hv.kp hk
      replace hW := hW.kp hk fun _ h => h
      replace k0 := k0.non hk
      clear hk
      go_wp2_with fail
      refine (c17 (n := EC.N)).mono ?_
      rintro e w3 ⟨rfl, hk⟩
      replace hv := hv.kp hk
      replace hW := hW.kp hk fun _ h => h
      replace k0 := k0.non hk
      clear hk
      have h5 := By.new w3 23 (fun _ => 0) 32 fun _ _ => by omega
      have k3 := k0.alloc (.cells (bys (fun _ => 0) 32) 23)
      have l3 := k0.size
      have hw8 : IntKind.u8.wrap (81 - 1) = 80 := by kernel_rfl
      have hw9 : IntKind.u8.wrap 80 = 80 := by kernel_rfl
      go_wp2_with (first | (refine wpList_store32n rfl _ _ rfl w3.heap.size (be EC.N) rfl rfl h5 (fun _ _ => be_lt _ _) ?_; (intro W4 k4 hN; have k34 : Kp non w3 W4 := kp_in ((Kp.refl non w3).alloc _) k4 (Nat.le_refl _))) | (refine wpList_load32 rfl _ rfl w3.heap.size rfl (be EC.N) hN ?_) | (refine wpList_store32n rfl _ _ rfl W4.heap.size (be EC.N) rfl rfl (By.new W4 23 (fun _ => 0) 32 fun _ _ => by omega) (fun _ _ => be_lt _ _) ?_; (intro W5 k5 hM; have k45 : Kp non W4 W5 := kp_in ((Kp.refl non W4).alloc _) k5 (Nat.le_refl _); have c31 := (hM 31 (by omega)).1.1; have f31 := (hM 31 (by omega)).1.2; rw [Nat.zero_add] at c31 f31; rw [beN31] at c31)))
      have hM' := by_last hM beN1 beN1_31 (by omega)
      have k56 := kp_last W5 W4.heap.size (.int .u8 (80 : Nat))
      have hlt : w3.heap.size < W4.heap.size := (hN 0 (by omega)).1.lt
      have hN' := (hN.kp k45 fun _ _ h => h).kp k56 fun i _ h => by have := h.1; omega
      have hk : Kp non w3 (W5.setCell ⟨W4.heap.size, 31, none⟩ (.int .u8 (80 : Nat))) := kp_in (k34.non k45) k56 (by omega)
      replace hv := hv.kp hk
      replace hW := hW.kp hk fun _ h => h
      replace k0 := k0.non hk
      clear hk hN hM k34 k45 k56 k4 k5 h5 k3 c31 f31 hw8 hw9
      generalize hB5 : w3.heap.size = B5 at *
      generalize hB6 : W4.heap.size = B6 at *
      generalize (W5.setCell ⟨B6, 31, none⟩ (.int .u8 (80 : Nat))) = W0 at *
      have hv' : ∀ W, Kp non W0 W → In W (.slice ad n c) n f := fun W hk => hv.kp hk
      have hT' : ∀ W, Kp non W0 W → Pl W E fr x y := fun W hk => hW.kp hk fun _ h => h
      have hN5 : ∀ W, Kp non W0 W → By W B5 0 32 (be EC.N) := fun W hk => hN'.kp hk fun _ _ h => h
      have hN6 : ∀ W, Kp non W0 W → By W B6 0 32 (be (EC.N - 1)) := fun W hk => hM'.kp hk fun _ _ h => h
      clear hv hW hN' hM'
      have hk : Kp non W0 W0.drew := (Kp.refl _ _).drew
      refine wp_region_noPanic ?_
      refine wp_region_held_drew (S := (fun w' => Kp non W0 w')) (by kernel_rfl) hk (fun hHeld => ?_)
      refine takeD 0 (some 24) (.slice ad n c) rfl rfl (by kernel_rfl) (by kernel_rfl) (by kernel_rfl) (Or.inl ⟨by kernel_rfl, fun w hw => by kernel_rfl⟩) hk ?_
      refine takeD 1 (some 25) (.agg (bys (be EC.N) 32)) rfl rfl (by kernel_rfl) (by kernel_rfl) (by kernel_rfl) (yl23 (.tmp 5) B5 0 (be EC.N) (by kernel_rfl) rfl (by kernel_rfl) fun w h => (hN5 w h).range) hk ?_
      refine wpAnyH_ready (rs := [2, 3]) (by kernel_rfl) (by simp) ?_
      refine stepGo 20 #[.slice ad n c, .agg (bys (be EC.N) 32)] (some 26) rfl rfl (by kernel_rfl) (by kernel_rfl) (c20 (hv' _ hk) (fun _ _ => be_lt _ _) hR.out) ?_ ?_
      · rintro e v1 ⟨u1, rfl, h1, hj⟩
        replace hk := hk.non hj
        rw [hi8_be N_lt, EC.Pt.order hP EC.N rfl] at h1
        refine ⟨u1, rfl, hk, ?_⟩
        refine wpAnyH_ready (rs := [3]) (by kernel_rfl) (by simp) ?_
        refine stepSl1 (.int .u8 0) 5 (some 27) rfl rfl (by kernel_rfl) (by kernel_rfl) ?_ ?_
        · intro B v2 hj h2
          replace hk := hk.non hj
          replace h1 := h1.kp hj
          replace h2 := far_one h2
          refine ⟨hk, ?_⟩
          refine wpAnyH_ready (rs := [4]) (by kernel_rfl) (by simp) ?_
          refine stepGo 19 #[u1, .slice (some ⟨B, 0, none⟩) 1 1] (some 28) rfl rfl (by kernel_rfl) (by kernel_rfl) (c19t h1 h2) ?_ ?_
          · rintro e v3 ⟨rfl, hj⟩
            replace hk := hk.non hj
            replace h1 := h1.kp hj
            replace h2 := h2.kp hj
            refine ⟨.bool true, rfl, hk, ?_⟩
            refine takeD 5 (some 29) (.bool true) rfl rfl (by kernel_rfl) (by kernel_rfl) (by kernel_rfl) (Or.inl ⟨by kernel_rfl, fun w hw => by kernel_rfl⟩) hk ?_
            refine takeD 6 (some 30) (.slice ad n c) rfl rfl (by kernel_rfl) (by kernel_rfl) (by kernel_rfl) (Or.inl ⟨by kernel_rfl, fun w hw => by kernel_rfl⟩) hk ?_
            refine takeD 7 (some 31) (.agg (bys (be (EC.N - 1)) 32)) rfl rfl (by kernel_rfl) (by kernel_rfl) (by kernel_rfl) (yl23 (.tmp 6) B6 0 (be (EC.N - 1)) (by kernel_rfl) rfl (by kernel_rfl) fun w h => (hN6 w h).range) hk ?_
            refine takeD 9 (some 33) (.agg (pl fr x y).toArray) rfl rfl (by kernel_rfl) (by kernel_rfl) (by kernel_rfl) (yl27 (.tmp 3) E fr x y (by kernel_rfl) rfl (by kernel_rfl) hT') hk ?_
            refine wpAnyH_ready (rs := [8]) (by kernel_rfl) (by simp) ?_
            refine stepGo 20 #[.slice ad n c, .agg (bys (be (EC.N - 1)) 32)] (some 32) rfl rfl (by kernel_rfl) (by kernel_rfl) (c20 (hv' _ hk) (fun _ _ => be_lt _ _) hR.out) ?_ ?_
            · rintro e v4 ⟨u2, rfl, h3, hj⟩
              replace hk := hk.non hj
              replace h1 := h1.kp hj
              replace h2 := h2.kp hj
              rw [hi8_be N1_lt, neg_mul hP N_one] at h3
              refine ⟨u2, rfl, hk, ?_⟩
              refine wpAnyH_ready (rs := [10]) (by kernel_rfl) (by simp) ?_
              refine stepGo 21 #[.agg (pl fr x y).toArray] (some 34) rfl rfl (by kernel_rfl) (by kernel_rfl) (c21v hq.out) ?_ ?_
              · rintro e v5 ⟨rfl, hj⟩
                replace hk := hk.non hj
                replace h1 := h1.kp hj
                replace h2 := h2.kp hj
                replace h3 := h3.kp hj
                refine ⟨.agg (pvL (negP P)).toArray, rfl, hk, ?_⟩
                refine wpAnyH_ready (rs := [11]) (by kernel_rfl) (by simp) ?_
                refine stepGo 15 #[u2, .agg (pvL (negP P)).toArray] (some 35) rfl rfl (by kernel_rfl) (by kernel_rfl) (c15t h3) ?_ ?_
                · rintro e v6 ⟨rfl, hj⟩
                  replace hk := hk.non hj
                  replace h1 := h1.kp hj
                  replace h2 := h2.kp hj
                  replace h3 := h3.kp hj
                  refine ⟨.bool true, rfl, hk, ?_⟩
                  refine takeD 12 (some 36) (.bool true) rfl rfl (by kernel_rfl) (by kernel_rfl) (by kernel_rfl) (Or.inl ⟨by kernel_rfl, fun w hw => by kernel_rfl⟩) hk ?_
                  refine takeD 13 (some 2) (.bool true) rfl rfl (by kernel_rfl) (by kernel_rfl) (by kernel_rfl) (Or.inl ⟨by kernel_rfl, fun w hw => by kernel_rfl⟩) hk ?_
                  refine wpAnyH_done (by kernel_rfl) ?_ _
                  refine NoPanic.normal ?_
                  simp only [Act.put, List.setIfInBounds_toArray, List.set_cons_zero, List.set_cons_succ]
                  go_wp2_with fail
                  go_ret
                  exact ⟨rfl, k0.non hk⟩
                exact AllReadyH.nil
              exact AllReadyH.nil
            exact AllReadyH.nil
          exact AllReadyH.nil
        exact AllReadyH.nil
      refine stepSl1 (.int .u8 0) 5 (some 27) rfl rfl (by kernel_rfl) (by kernel_rfl) ?_ ?_
      · intro B v1 hj h2
        replace hk := hk.non hj
        replace h2 := far_one h2
        refine ⟨hk, ?_⟩
        refine wpAnyH_ready (rs := [2]) (by kernel_rfl) (by simp) ?_
        refine stepGo 20 #[.slice ad n c, .agg (bys (be EC.N) 32)] (some 26) rfl rfl (by kernel_rfl) (by kernel_rfl) (c20 (hv' _ hk) (fun _ _ => be_lt _ _) hR.out) ?_ ?_
        · rintro e v2 ⟨u1, rfl, h1, hj⟩
          replace hk := hk.non hj
          replace h2 := h2.kp hj
          rw [hi8_be N_lt, EC.Pt.order hP EC.N rfl] at h1
          refine ⟨u1, rfl, hk, ?_⟩
          refine wpAnyH_ready (rs := [4]) (by kernel_rfl) (by simp) ?_
          refine stepGo 19 #[u1, .slice (some ⟨B, 0, none⟩) 1 1] (some 28) rfl rfl (by kernel_rfl) (by kernel_rfl) (c19t h1 h2) ?_ ?_
          · rintro e v3 ⟨rfl, hj⟩
            replace hk := hk.non hj
            replace h2 := h2.kp hj
            replace h1 := h1.kp hj
            refine ⟨.bool true, rfl, hk, ?_⟩
            refine takeD 5 (some 29) (.bool true) rfl rfl (by kernel_rfl) (by kernel_rfl) (by kernel_rfl) (Or.inl ⟨by kernel_rfl, fun w hw => by kernel_rfl⟩) hk ?_
            refine takeD 6 (some 30) (.slice ad n c) rfl rfl (by kernel_rfl) (by kernel_rfl) (by kernel_rfl) (Or.inl ⟨by kernel_rfl, fun w hw => by kernel_rfl⟩) hk ?_
            refine takeD 7 (some 31) (.agg (bys (be (EC.N - 1)) 32)) rfl rfl (by kernel_rfl) (by kernel_rfl) (by kernel_rfl) (yl23 (.tmp 6) B6 0 (be (EC.N - 1)) (by kernel_rfl) rfl (by kernel_rfl) fun w h => (hN6 w h).range) hk ?_
            refine takeD 9 (some 33) (.agg (pl fr x y).toArray) rfl rfl (by kernel_rfl) (by kernel_rfl) (by kernel_rfl) (yl27 (.tmp 3) E fr x y (by kernel_rfl) rfl (by kernel_rfl) hT') hk ?_
            refine wpAnyH_ready (rs := [8]) (by kernel_rfl) (by simp) ?_
            refine stepGo 20 #[.slice ad n c, .agg (bys (be (EC.N - 1)) 32)] (some 32) rfl rfl (by kernel_rfl) (by kernel_rfl) (c20 (hv' _ hk) (fun _ _ => be_lt _ _) hR.out) ?_ ?_
            · rintro e v4 ⟨u2, rfl, h3, hj⟩
              replace hk := hk.non hj
              replace h2 := h2.kp hj
              replace h1 := h1.kp hj
              rw [hi8_be N1_lt, neg_mul hP N_one] at h3
              refine ⟨u2, rfl, hk, ?_⟩
              refine wpAnyH_ready (rs := [10]) (by kernel_rfl) (by simp) ?_
              refine stepGo 21 #[.agg (pl fr x y).toArray] (some 34) rfl rfl (by kernel_rfl) (by kernel_rfl) (c21v hq.out) ?_ ?_
              · rintro e v5 ⟨rfl, hj⟩
                replace hk := hk.non hj
                replace h2 := h2.kp hj
                replace h1 := h1.kp hj
                replace h3 := h3.kp hj
                refine ⟨.agg (pvL (negP P)).toArray, rfl, hk, ?_⟩
                refine wpAnyH_ready (rs := [11]) (by kernel_rfl) (by simp) ?_
                refine stepGo 15 #[u2, .agg (pvL (negP P)).toArray] (some 35) rfl rfl (by kernel_rfl) (by kernel_rfl) (c15t h3) ?_ ?_
                · rintro e v6 ⟨rfl, hj⟩
                  replace hk := hk.non hj
                  replace h2 := h2.kp hj
                  replace h1 := h1.kp hj
                  replace h3 := h3.kp hj
                  refine ⟨.bool true, rfl, hk, ?_⟩
                  refine takeD 12 (some 36) (.bool true) rfl rfl (by kernel_rfl) (by kernel_rfl) (by kernel_rfl) (Or.inl ⟨by kernel_rfl, fun w hw => by kernel_rfl⟩) hk ?_
                  refine takeD 13 (some 2) (.bool true) rfl rfl (by kernel_rfl) (by kernel_rfl) (by kernel_rfl) (Or.inl ⟨by kernel_rfl, fun w hw => by kernel_rfl⟩) hk ?_
                  refine wpAnyH_done (by kernel_rfl) ?_ _
                  refine NoPanic.normal ?_
                  simp only [Act.put, List.setIfInBounds_toArray, List.set_cons_zero, List.set_cons_succ]
                  go_wp2_with fail
                  go_ret
                  exact ⟨rfl, k0.non hk⟩
                exact AllReadyH.nil
              exact AllReadyH.nil
            exact AllReadyH.nil
          exact AllReadyH.nil
        exact AllReadyH.nil
      exact AllReadyH.nil
end Go.Proofs.Ytjdjhccefnffmaa
