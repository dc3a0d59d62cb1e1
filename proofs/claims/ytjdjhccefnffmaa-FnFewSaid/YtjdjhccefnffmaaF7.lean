import Derived.Test.YtjdjhccefnffmaaFC
set_option linter.unusedVariables false
set_option linter.unusedSimpArgs false
set_option maxRecDepth 100000
set_option maxHeartbeats 4000000
namespace Go.Proofs.Ytjdjhccefnffmaa
open Go LX Go.RowKit
theorem f7 {w : World} {n : Nat} {v : Value} (hv : Arg w v n) : Calls Try.prog 7 #[v] w (Tru w) := by
  obtain ⟨⟨ad, c, rfl⟩, hv⟩ := hv
  have hz := z27
  have hzv := z23
  have k0 : Kp non w w := Kp.refl _ _
  rcases hv with hbig | ⟨f, hv⟩
  · have a1 : (2147483647 : Int) < (n : Int) := by omega
    go_enter Try.func7, Try.ntmps7
    go_wp2_with fail
    go_ret
    exact ⟨rfl, k0⟩
  · have a1 : ¬ (2147483647 : Int) < (n : Int) := by have := hv.len; omega
    go_enter Try.func7, Try.ntmps7
    go_wp2_with fail
    refine (c13 hv).mono ?_
    rintro e w1 ⟨fr, x, y, rfl, hQ, hk⟩
    replace hv := hv.kp hk
    replace k0 := k0.non hk
    have k1 := k0.alloc (.cells (pl false (fun _ => 0) fun _ => 0).toArray 27)
    have h5 := Pl.new w1 27 false (fun _ => 0) fun _ => 0
    have hlt1 := k0.size
    obtain ⟨R, hR⟩ : ∃ R, R = rd n f := ⟨_, rfl⟩
    rw [← hR] at hQ ⊢
    clear hk
    cases R with
    | none =>
      clear hR hQ
      go_wp2_with (refine wpList_storeP rfl _ _ rfl w1.heap.size fr x y rfl rfl h5 ?_; intro W kW hW)
      go_ret
      exact ⟨rfl, kp_in k1 kW hlt1⟩
    | some P =>
      have hP := rd_ok hR.symm
      have hq := Lib.hid (hQ P rfl)
      replace hR := Lib.hid hR.symm
      clear hQ
      go_wp2_with (refine wpList_storeP rfl _ _ rfl w1.heap.size fr x y rfl rfl h5 ?_; intro W kW hW)
      have kk : Kp non w1 W := kp_in ((Kp.refl non w1).alloc _) kW (Nat.le_refl _)
      replace hv := hv.kp kk
      replace k0 := k0.non kk
      clear kk kW h5 k1
      generalize hE : w1.heap.size = E at *
      have hc := c25 hv
      rw [hR.out] at hc
      refine hc.mono ?_
      clear hc
      rintro e w2 ⟨u, rfl, hu, hk⟩
      replace hv := hv.kp hk
      replace hW := hW.kp hk fun _ h => h
      replace k0 := k0.non hk
      clear hk
      go_wp2_with fail
      generalize w2 = W0 at *
      have hv' : ∀ W, Kp non W0 W → In W (.slice ad n c) n f := fun W hk => hv.kp hk
      have hD' : ∀ W, Kp non W0 W → PtS W u (P.sum P) := fun W hk => hu.kp hk
      have hT' : ∀ W, Kp non W0 W → Pl W E fr x y := fun W hk => hW.kp hk fun _ h => h
      clear hv hu hW
      have hk : Kp non W0 W0.drew := (Kp.refl _ _).drew
      refine wp_region_noPanic ?_
      refine wp_region_held_drew (S := (fun w' => Kp non W0 w')) (by kernel_rfl) hk (fun hHeld => ?_)
      refine takeD 0 (some 22) (.bool true) rfl rfl (by kernel_rfl) (by kernel_rfl) (by kernel_rfl) (Or.inl ⟨by kernel_rfl, fun w hw => by kernel_rfl⟩) hk ?_
      refine takeD 1 (some 23) (.bool true) rfl rfl (by kernel_rfl) (by kernel_rfl) (by kernel_rfl) (Or.inl ⟨by kernel_rfl, fun w hw => by kernel_rfl⟩) hk ?_
      refine takeD 2 (some 24) (.slice ad n c) rfl rfl (by kernel_rfl) (by kernel_rfl) (by kernel_rfl) (Or.inl ⟨by kernel_rfl, fun w hw => by kernel_rfl⟩) hk ?_
      refine takeD 3 (some 25) (.agg (bys (fun _ => 0) 32)) rfl rfl (by kernel_rfl) (by kernel_rfl) (by kernel_rfl) (Or.inl ⟨by kernel_rfl, fun w hw => by kernel_rfl⟩) hk ?_
      refine wpAnyH_ready (rs := [4, 5]) (by kernel_rfl) (by simp) ?_
      refine stepGo 20 #[.slice ad n c, .agg (bys (fun _ => 0) 32)] (some 26) rfl rfl (by kernel_rfl) (by kernel_rfl) (c20 (hv' _ hk) (fun _ _ => by omega) hR.out) ?_ ?_
      · rintro e v1 ⟨u1, rfl, h1, hj⟩
        replace hk := hk.non hj
        rw [hi8_0] at h1
        refine ⟨u1, rfl, hk, ?_⟩
        refine wpAnyH_ready (rs := [5]) (by kernel_rfl) (by simp) ?_
        refine stepSl1 (.int .u8 0) 5 (some 27) rfl rfl (by kernel_rfl) (by kernel_rfl) ?_ ?_
        · intro B v2 hj h2
          replace hk := hk.non hj
          replace h1 := h1.kp hj
          replace h2 := far_one h2
          refine ⟨hk, ?_⟩
          refine wpAnyH_ready (rs := [6]) (by kernel_rfl) (by simp) ?_
          refine stepGo 19 #[u1, .slice (some ⟨B, 0, none⟩) 1 1] (some 28) rfl rfl (by kernel_rfl) (by kernel_rfl) (c19t (P := .far) h1 h2) ?_ ?_
          · rintro e v3 ⟨rfl, hj⟩
            replace hk := hk.non hj
            replace h1 := h1.kp hj
            replace h2 := h2.kp hj
            refine ⟨.bool true, rfl, hk, ?_⟩
            refine takeD 7 (some 29) (.bool true) rfl rfl (by kernel_rfl) (by kernel_rfl) (by kernel_rfl) (Or.inl ⟨by kernel_rfl, fun w hw => by kernel_rfl⟩) hk ?_
            refine takeD 8 (some 30) (.bool true) rfl rfl (by kernel_rfl) (by kernel_rfl) (by kernel_rfl) (Or.inl ⟨by kernel_rfl, fun w hw => by kernel_rfl⟩) hk ?_
            refine takeD 9 (some 31) (.slice ad n c) rfl rfl (by kernel_rfl) (by kernel_rfl) (by kernel_rfl) (Or.inl ⟨by kernel_rfl, fun w hw => by kernel_rfl⟩) hk ?_
            refine takeD 10 (some 32) (.agg (bys (lst 1) 32)) rfl rfl (by kernel_rfl) (by kernel_rfl) (by kernel_rfl) (Or.inl ⟨by kernel_rfl, fun w hw => by kernel_rfl⟩) hk ?_
            refine takeD 12 (some 34) (.agg (pl fr x y).toArray) rfl rfl (by kernel_rfl) (by kernel_rfl) (by kernel_rfl) (yl27 (.tmp 3) E fr x y (by kernel_rfl) rfl (by kernel_rfl) hT') hk ?_
            refine wpAnyH_ready (rs := [11]) (by kernel_rfl) (by simp) ?_
            refine stepGo 20 #[.slice ad n c, .agg (bys (lst 1) 32)] (some 33) rfl rfl (by kernel_rfl) (by kernel_rfl) (c20 (hv' _ hk) (lst_lt (by omega)) hR.out) ?_ ?_
            · rintro e v4 ⟨u2, rfl, h3, hj⟩
              replace hk := hk.non hj
              replace h1 := h1.kp hj
              replace h2 := h2.kp hj
              rw [lst_num, mul_one'] at h3
              refine ⟨u2, rfl, hk, ?_⟩
              refine wpAnyH_ready (rs := [13]) (by kernel_rfl) (by simp) ?_
              refine stepGo 15 #[u2, .agg (pl fr x y).toArray] (some 35) rfl rfl (by kernel_rfl) (by kernel_rfl) (c15w h3 hq.out) ?_ ?_
              · rintro e v5 ⟨rfl, hj⟩
                replace hk := hk.non hj
                replace h1 := h1.kp hj
                replace h2 := h2.kp hj
                replace h3 := h3.kp hj
                refine ⟨.bool true, rfl, hk, ?_⟩
                refine takeD 14 (some 36) (.bool true) rfl rfl (by kernel_rfl) (by kernel_rfl) (by kernel_rfl) (Or.inl ⟨by kernel_rfl, fun w hw => by kernel_rfl⟩) hk ?_
                refine takeD 15 (some 37) (.bool true) rfl rfl (by kernel_rfl) (by kernel_rfl) (by kernel_rfl) (Or.inl ⟨by kernel_rfl, fun w hw => by kernel_rfl⟩) hk ?_
                refine takeD 16 (some 38) (.slice ad n c) rfl rfl (by kernel_rfl) (by kernel_rfl) (by kernel_rfl) (Or.inl ⟨by kernel_rfl, fun w hw => by kernel_rfl⟩) hk ?_
                refine takeD 17 (some 39) (.agg (bys (lst 2) 32)) rfl rfl (by kernel_rfl) (by kernel_rfl) (by kernel_rfl) (Or.inl ⟨by kernel_rfl, fun w hw => by kernel_rfl⟩) hk ?_
                refine takeD 19 (some 41) (u) rfl rfl (by kernel_rfl) (by kernel_rfl) (by kernel_rfl) (Or.inl ⟨by kernel_rfl, fun w hw => by kernel_rfl⟩) hk ?_
                refine wpAnyH_ready (rs := [18]) (by kernel_rfl) (by simp) ?_
                refine stepGo 20 #[.slice ad n c, .agg (bys (lst 2) 32)] (some 40) rfl rfl (by kernel_rfl) (by kernel_rfl) (c20 (hv' _ hk) (lst_lt (by omega)) hR.out) ?_ ?_
                · rintro e v6 ⟨u3, rfl, h4, hj⟩
                  replace hk := hk.non hj
                  replace h1 := h1.kp hj
                  replace h2 := h2.kp hj
                  replace h3 := h3.kp hj
                  rw [lst_num, mul_two] at h4
                  refine ⟨u3, rfl, hk, ?_⟩
                  refine wpAnyH_ready (rs := [20]) (by kernel_rfl) (by simp) ?_
                  refine stepGo 24 #[u3, u] (some 42) rfl rfl (by kernel_rfl) (by kernel_rfl) (c24t h4 (hD' _ hk) (EC.Pt.Ok.sum hP hP)) ?_ ?_
                  · rintro e v7 ⟨rfl, hj⟩
                    replace hk := hk.non hj
                    replace h1 := h1.kp hj
                    replace h2 := h2.kp hj
                    replace h3 := h3.kp hj
                    replace h4 := h4.kp hj
                    refine ⟨.bool true, rfl, hk, ?_⟩
                    refine takeD 21 (some 43) (.bool true) rfl rfl (by kernel_rfl) (by kernel_rfl) (by kernel_rfl) (Or.inl ⟨by kernel_rfl, fun w hw => by kernel_rfl⟩) hk ?_
                    refine takeD 22 (some 2) (.bool true) rfl rfl (by kernel_rfl) (by kernel_rfl) (by kernel_rfl) (Or.inl ⟨by kernel_rfl, fun w hw => by kernel_rfl⟩) hk ?_
                    refine wpAnyH_done (by kernel_rfl) ?_ _
                    refine NoPanic.normal ?_
                    simp only [Act.put, List.setIfInBounds_toArray, List.set_cons_zero, List.set_cons_succ]
                    go_wp2_with fail
                    go_ret
                    exact ⟨rfl, k0.non hk⟩
                  exact AllReadyH.nil
                exact AllReadyH.nil
              exact AllReadyH.nil
            exact AllReadyH.nil
          exact AllReadyH.nil
        exact AllReadyH.nil
      refine stepSl1 (.int .u8 0) 5 (some 27) rfl rfl (by kernel_rfl) (by kernel_rfl) ?_ ?_
      · intro B v1 hj h2
        replace hk := hk.non hj
        replace h2 := far_one h2
        refine ⟨hk, ?_⟩
        refine wpAnyH_ready (rs := [4]) (by kernel_rfl) (by simp) ?_
        refine stepGo 20 #[.slice ad n c, .agg (bys (fun _ => 0) 32)] (some 26) rfl rfl (by kernel_rfl) (by kernel_rfl) (c20 (hv' _ hk) (fun _ _ => by omega) hR.out) ?_ ?_
        · rintro e v2 ⟨u1, rfl, h1, hj⟩
          replace hk := hk.non hj
          replace h2 := h2.kp hj
          rw [hi8_0] at h1
          refine ⟨u1, rfl, hk, ?_⟩
          refine wpAnyH_ready (rs := [6]) (by kernel_rfl) (by simp) ?_
          refine stepGo 19 #[u1, .slice (some ⟨B, 0, none⟩) 1 1] (some 28) rfl rfl (by kernel_rfl) (by kernel_rfl) (c19t (P := .far) h1 h2) ?_ ?_
          · rintro e v3 ⟨rfl, hj⟩
            replace hk := hk.non hj
            replace h2 := h2.kp hj
            replace h1 := h1.kp hj
            refine ⟨.bool true, rfl, hk, ?_⟩
            refine takeD 7 (some 29) (.bool true) rfl rfl (by kernel_rfl) (by kernel_rfl) (by kernel_rfl) (Or.inl ⟨by kernel_rfl, fun w hw => by kernel_rfl⟩) hk ?_
            refine takeD 8 (some 30) (.bool true) rfl rfl (by kernel_rfl) (by kernel_rfl) (by kernel_rfl) (Or.inl ⟨by kernel_rfl, fun w hw => by kernel_rfl⟩) hk ?_
            refine takeD 9 (some 31) (.slice ad n c) rfl rfl (by kernel_rfl) (by kernel_rfl) (by kernel_rfl) (Or.inl ⟨by kernel_rfl, fun w hw => by kernel_rfl⟩) hk ?_
            refine takeD 10 (some 32) (.agg (bys (lst 1) 32)) rfl rfl (by kernel_rfl) (by kernel_rfl) (by kernel_rfl) (Or.inl ⟨by kernel_rfl, fun w hw => by kernel_rfl⟩) hk ?_
            refine takeD 12 (some 34) (.agg (pl fr x y).toArray) rfl rfl (by kernel_rfl) (by kernel_rfl) (by kernel_rfl) (yl27 (.tmp 3) E fr x y (by kernel_rfl) rfl (by kernel_rfl) hT') hk ?_
            refine wpAnyH_ready (rs := [11]) (by kernel_rfl) (by simp) ?_
            refine stepGo 20 #[.slice ad n c, .agg (bys (lst 1) 32)] (some 33) rfl rfl (by kernel_rfl) (by kernel_rfl) (c20 (hv' _ hk) (lst_lt (by omega)) hR.out) ?_ ?_
            · rintro e v4 ⟨u2, rfl, h3, hj⟩
              replace hk := hk.non hj
              replace h2 := h2.kp hj
              replace h1 := h1.kp hj
              rw [lst_num, mul_one'] at h3
              refine ⟨u2, rfl, hk, ?_⟩
              refine wpAnyH_ready (rs := [13]) (by kernel_rfl) (by simp) ?_
              refine stepGo 15 #[u2, .agg (pl fr x y).toArray] (some 35) rfl rfl (by kernel_rfl) (by kernel_rfl) (c15w h3 hq.out) ?_ ?_
              · rintro e v5 ⟨rfl, hj⟩
                replace hk := hk.non hj
                replace h2 := h2.kp hj
                replace h1 := h1.kp hj
                replace h3 := h3.kp hj
                refine ⟨.bool true, rfl, hk, ?_⟩
                refine takeD 14 (some 36) (.bool true) rfl rfl (by kernel_rfl) (by kernel_rfl) (by kernel_rfl) (Or.inl ⟨by kernel_rfl, fun w hw => by kernel_rfl⟩) hk ?_
                refine takeD 15 (some 37) (.bool true) rfl rfl (by kernel_rfl) (by kernel_rfl) (by kernel_rfl) (Or.inl ⟨by kernel_rfl, fun w hw => by kernel_rfl⟩) hk ?_
                refine takeD 16 (some 38) (.slice ad n c) rfl rfl (by kernel_rfl) (by kernel_rfl) (by kernel_rfl) (Or.inl ⟨by kernel_rfl, fun w hw => by kernel_rfl⟩) hk ?_
                refine takeD 17 (some 39) (.agg (bys (lst 2) 32)) rfl rfl (by kernel_rfl) (by kernel_rfl) (by kernel_rfl) (Or.inl ⟨by kernel_rfl, fun w hw => by kernel_rfl⟩) hk ?_
                refine takeD 19 (some 41) (u) rfl rfl (by kernel_rfl) (by kernel_rfl) (by kernel_rfl) (Or.inl ⟨by kernel_rfl, fun w hw => by kernel_rfl⟩) hk ?_
                refine wpAnyH_ready (rs := [18]) (by kernel_rfl) (by simp) ?_
                refine stepGo 20 #[.slice ad n c, .agg (bys (lst 2) 32)] (some 40) rfl rfl (by kernel_rfl) (by kernel_rfl) (c20 (hv' _ hk) (lst_lt (by omega)) hR.out) ?_ ?_
                · rintro e v6 ⟨u3, rfl, h4, hj⟩
                  replace hk := hk.non hj
                  replace h2 := h2.kp hj
                  replace h1 := h1.kp hj
                  replace h3 := h3.kp hj
                  rw [lst_num, mul_two] at h4
                  refine ⟨u3, rfl, hk, ?_⟩
                  refine wpAnyH_ready (rs := [20]) (by kernel_rfl) (by simp) ?_
                  refine stepGo 24 #[u3, u] (some 42) rfl rfl (by kernel_rfl) (by kernel_rfl) (c24t h4 (hD' _ hk) (EC.Pt.Ok.sum hP hP)) ?_ ?_
                  · rintro e v7 ⟨rfl, hj⟩
                    replace hk := hk.non hj
                    replace h2 := h2.kp hj
                    replace h1 := h1.kp hj
                    replace h3 := h3.kp hj
                    replace h4 := h4.kp hj
                    refine ⟨.bool true, rfl, hk, ?_⟩
                    refine takeD 21 (some 43) (.bool true) rfl rfl (by kernel_rfl) (by kernel_rfl) (by kernel_rfl) (Or.inl ⟨by kernel_rfl, fun w hw => by kernel_rfl⟩) hk ?_
                    refine takeD 22 (some 2) (.bool true) rfl rfl (by kernel_rfl) (by kernel_rfl) (by kernel_rfl) (Or.inl ⟨by kernel_rfl, fun w hw => by kernel_rfl⟩) hk ?_
                    refine wpAnyH_done (by kernel_rfl) ?_ _
                    refine NoPanic.normal ?_
                    simp only [Act.put, List.setIfInBounds_toArray, List.set_cons_zero, List.set_cons_succ]
                    go_wp2_with fail
                    go_ret
                    exact ⟨rfl, k0.non hk⟩
                  exact AllReadyH.nil
                exact AllReadyH.nil
              exact AllReadyH.nil
            exact AllReadyH.nil
          exact AllReadyH.nil
        exact AllReadyH.nil
      exact AllReadyH.nil
end Go.Proofs.Ytjdjhccefnffmaa
