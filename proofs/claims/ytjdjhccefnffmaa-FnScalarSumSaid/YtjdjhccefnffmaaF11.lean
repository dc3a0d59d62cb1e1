import Derived.Test.YtjdjhccefnffmaaFB
set_option linter.unusedVariables false
set_option linter.unusedSimpArgs false
set_option maxRecDepth 100000
set_option maxHeartbeats 4000000
namespace Go.Proofs.Ytjdjhccefnffmaa
open Go LX Go.RowKit
theorem f11 {w : World} {n : Nat} {v : Value} {g m : Nat → Nat} (hv : Arg w v n) (hg : ∀ i, i < 32 → g i < 256) (hm : ∀ i, i < 32 → m i < 256) : Calls Try.prog 11 #[v, .agg (bys g 32), .agg (bys m 32)] w (Tru w) := by
  obtain ⟨⟨ad, c, rfl⟩, hv⟩ := hv
  have hzv := z23
  have k0 : Kp non w ((w.alloc (.cells (bys g 32) 23)).alloc (.cells (bys m 32) 23)) := ((Kp.refl _ w).alloc _).alloc _
  have hB := (By.new w 23 g 32 hg).kp ((Kp.refl non _).alloc (.cells (bys m 32) 23)) fun _ _ h => h
  have hC := By.new (w.alloc (.cells (bys g 32) 23)) 23 m 32 hm
  rw [size1] at hC
  rcases hv with hbig | ⟨f, hv⟩
  · have a1 : (2147483647 : Int) < (n : Int) := by omega
    go_enter Try.func11, Try.ntmps11
    go_wp2_with fail
    go_ret
    exact ⟨rfl, k0⟩
  · have a1 : ¬ (2147483647 : Int) < (n : Int) := by have := hv.len; omega
    replace hv := hv.kp k0
    go_enter Try.func11, Try.ntmps11
    go_wp2_with (first | (refine wpList_load32 rfl _ rfl w.heap.size rfl g hB ?_) | (refine wpList_load32 rfl _ rfl (w.heap.size + 1) rfl m hC ?_))
    refine (c26 hg hm).mono ?_
    rintro e w1 ⟨b, rfl, hb, hk⟩
    obtain ⟨S, hS⟩ : ∃ S, S = (hi8 g 32 + hi8 m 32) := ⟨_, rfl⟩
    rw [← hS] at hb ⊢
    replace hS := Lib.hid hS
    replace hb := Lib.hid hb
    generalize hHH : w.heap.size = H at *
    replace hv := hv.kp hk
    replace hB := hB.kp hk fun _ _ h => h
    replace hC := hC.kp hk fun _ _ h => h
    replace k0 := k0.non hk
    have k1 := k0.alloc (.cells (bys (fun _ => 0) 32) 23)
    have h5 := By.new w1 23 (fun _ => 0) 32 fun _ _ => by omega
    have hl := k0.size
    clear hk
    go_wp2_with (refine wpList_store32n rfl _ _ rfl w1.heap.size (be S) rfl rfl h5 (fun _ _ => by unfold be; omega) ?_; intro W0 kW hS5)
    have kk : Kp non w1 W0 := kp_in ((Kp.refl non w1).alloc _) kW (Nat.le_refl _)
    replace hv := hv.kp kk
    replace hB := hB.kp kk fun _ _ h => h
    replace hC := hC.kp kk fun _ _ h => h
    replace k0 := k0.non kk
    clear kk kW h5 k1
    generalize hE : w1.heap.size = E at *
    have hv' : ∀ W, Kp non W0 W → In W (.slice ad n c) n f := fun W hk => hv.kp hk
    have hB' : ∀ W, Kp non W0 W → By W H 0 32 g := fun W hk => hB.kp hk fun _ _ h => h
    have hC' : ∀ W, Kp non W0 W → By W (H + 1) 0 32 m := fun W hk => hC.kp hk fun _ _ h => h
    have hS' : ∀ W, Kp non W0 W → By W E 0 32 (be S) := fun W hk => hS5.kp hk fun _ _ h => h
    obtain ⟨R, hR⟩ : ∃ R, rd n f = R := ⟨_, rfl⟩
    clear hB hv hS5
    cases b with
    | false =>
      replace hR := Lib.hid hR
      have hk : Kp non W0 W0.drew := (Kp.refl _ _).drew
      refine wp_region_noPanic ?_
      refine wp_region_held_drew (S := (fun w' => Kp non W0 w')) (by kernel_rfl) hk (fun hHeld => ?_)
      refine takeD 0 (some 18) (.bool false) rfl rfl (by kernel_rfl) (by kernel_rfl) (by kernel_rfl) (Or.inl ⟨by kernel_rfl, fun w hw => by kernel_rfl⟩) hk ?_
      refine takeD 1 (some 19) (.bool true) rfl rfl (by kernel_rfl) (by kernel_rfl) (by kernel_rfl) (Or.inl ⟨by kernel_rfl, fun w hw => by kernel_rfl⟩) hk ?_
      refine takeD 2 (some 20) (.bool true) rfl rfl (by kernel_rfl) (by kernel_rfl) (by kernel_rfl) (Or.inl ⟨by kernel_rfl, fun w hw => by kernel_rfl⟩) hk ?_
      refine takeD 3 (some 21) (undef) rfl rfl (by kernel_rfl) (by kernel_rfl) (by kernel_rfl) (Or.inr ⟨by kernel_rfl, rfl⟩) hk ?_
      refine takeD 4 (some 22) (undef) rfl rfl (by kernel_rfl) (by kernel_rfl) (by kernel_rfl) (Or.inr ⟨by kernel_rfl, rfl⟩) hk ?_
      refine takeD 5 (some 23) (undef) rfl rfl (by kernel_rfl) (by kernel_rfl) (by kernel_rfl) (Or.inr ⟨by kernel_rfl, rfl⟩) hk ?_
      refine takeD 6 (some 24) (undef) rfl rfl (by kernel_rfl) (by kernel_rfl) (by kernel_rfl) (Or.inr ⟨by kernel_rfl, rfl⟩) hk ?_
      refine takeD 7 (some 25) (.bool true) rfl rfl (by kernel_rfl) (by kernel_rfl) (by kernel_rfl) (Or.inl ⟨by kernel_rfl, fun w hw => by kernel_rfl⟩) hk ?_
      refine takeD 8 (some 26) (.bool true) rfl rfl (by kernel_rfl) (by kernel_rfl) (by kernel_rfl) (Or.inl ⟨by kernel_rfl, fun w hw => by kernel_rfl⟩) hk ?_
      refine takeD 9 (some 27) (undef) rfl rfl (by kernel_rfl) (by kernel_rfl) (by kernel_rfl) (Or.inr ⟨by kernel_rfl, rfl⟩) hk ?_
      refine takeD 10 (some 28) (undef) rfl rfl (by kernel_rfl) (by kernel_rfl) (by kernel_rfl) (Or.inr ⟨by kernel_rfl, rfl⟩) hk ?_
      refine takeD 11 (some 29) (undef) rfl rfl (by kernel_rfl) (by kernel_rfl) (by kernel_rfl) (Or.inr ⟨by kernel_rfl, rfl⟩) hk ?_
      refine takeD 12 (some 30) (undef) rfl rfl (by kernel_rfl) (by kernel_rfl) (by kernel_rfl) (Or.inr ⟨by kernel_rfl, rfl⟩) hk ?_
      refine takeD 13 (some 31) (undef) rfl rfl (by kernel_rfl) (by kernel_rfl) (by kernel_rfl) (Or.inr ⟨by kernel_rfl, rfl⟩) hk ?_
      refine takeD 14 (some 32) (undef) rfl rfl (by kernel_rfl) (by kernel_rfl) (by kernel_rfl) (Or.inr ⟨by kernel_rfl, rfl⟩) hk ?_
      refine takeD 15 (some 33) (undef) rfl rfl (by kernel_rfl) (by kernel_rfl) (by kernel_rfl) (Or.inr ⟨by kernel_rfl, rfl⟩) hk ?_
      refine takeD 16 (some 34) (undef) rfl rfl (by kernel_rfl) (by kernel_rfl) (by kernel_rfl) (Or.inr ⟨by kernel_rfl, rfl⟩) hk ?_
      refine takeD 17 (some 35) (undef) rfl rfl (by kernel_rfl) (by kernel_rfl) (by kernel_rfl) (Or.inr ⟨by kernel_rfl, rfl⟩) hk ?_
      refine takeD 18 (some 36) (undef) rfl rfl (by kernel_rfl) (by kernel_rfl) (by kernel_rfl) (Or.inr ⟨by kernel_rfl, rfl⟩) hk ?_
      refine takeD 19 (some 37) (undef) rfl rfl (by kernel_rfl) (by kernel_rfl) (by kernel_rfl) (Or.inr ⟨by kernel_rfl, rfl⟩) hk ?_
      refine takeD 20 (some 38) (.bool true) rfl rfl (by kernel_rfl) (by kernel_rfl) (by kernel_rfl) (Or.inl ⟨by kernel_rfl, fun w hw => by kernel_rfl⟩) hk ?_
      refine takeD 21 (some 6) (.bool true) rfl rfl (by kernel_rfl) (by kernel_rfl) (by kernel_rfl) (Or.inl ⟨by kernel_rfl, fun w hw => by kernel_rfl⟩) hk ?_
      refine wpAnyH_done (by kernel_rfl) ?_ _
      refine NoPanic.normal ?_
      simp only [Act.put, List.setIfInBounds_toArray, List.set_cons_zero, List.set_cons_succ]
      go_wp2_with fail
      go_ret
      exact ⟨rfl, k0.non hk⟩
    | true =>
      have hlt := hb.out.1 rfl
      have hn : hi8 (be S) 32 = S := hi8_be hlt
      have hbe : ∀ i, i < 32 → be S i < 256 := fun _ _ => by unfold be; omega
      replace hn := Lib.hid hn
      clear hlt hb
      cases R with
      | none =>
        replace hR := Lib.hid hR
        have hk : Kp non W0 W0.drew := (Kp.refl _ _).drew
        refine wp_region_noPanic ?_
        refine wp_region_held_drew (S := (fun w' => Kp non W0 w')) (by kernel_rfl) hk (fun hHeld => ?_)
        refine takeD 0 (some 18) (.bool true) rfl rfl (by kernel_rfl) (by kernel_rfl) (by kernel_rfl) (Or.inl ⟨by kernel_rfl, fun w hw => by kernel_rfl⟩) hk ?_
        refine takeD 1 (some 19) (.bool false) rfl rfl (by kernel_rfl) (by kernel_rfl) (by kernel_rfl) (Or.inl ⟨by kernel_rfl, fun w hw => by kernel_rfl⟩) hk ?_
        refine takeD 2 (some 20) (.bool false) rfl rfl (by kernel_rfl) (by kernel_rfl) (by kernel_rfl) (Or.inl ⟨by kernel_rfl, fun w hw => by kernel_rfl⟩) hk ?_
        refine takeD 3 (some 21) (.slice ad n c) rfl rfl (by kernel_rfl) (by kernel_rfl) (by kernel_rfl) (Or.inl ⟨by kernel_rfl, fun w hw => by kernel_rfl⟩) hk ?_
        refine wpAnyH_ready (rs := [4]) (by kernel_rfl) (by simp) ?_
        refine stepSl1 (.slice ad n c) 22 (some 22) rfl rfl (by kernel_rfl) (by kernel_rfl) ?_ ?_
        · intro B v1 hj hb1
          replace hk := hk.non hj
          refine ⟨hk, ?_⟩
          refine wpAnyH_ready (rs := [5]) (by kernel_rfl) (by simp) ?_
          refine stepGo 23 #[.slice (some ⟨B, 0, none⟩) 1 1] (some 23) rfl rfl (by kernel_rfl) (by kernel_rfl) (c23f hb1 (hv' _ hk) hR.out) ?_ ?_
          · rintro e v2 ⟨rfl, hj⟩
            replace hk := hk.non hj
            replace hb1 := hb1.kp hj (fun h => h)
            refine ⟨.bool false, rfl, hk, ?_⟩
            refine takeD 6 (some 24) (.bool true) rfl rfl (by kernel_rfl) (by kernel_rfl) (by kernel_rfl) (Or.inl ⟨by kernel_rfl, fun w hw => by kernel_rfl⟩) hk ?_
            refine takeD 7 (some 25) (.bool true) rfl rfl (by kernel_rfl) (by kernel_rfl) (by kernel_rfl) (Or.inl ⟨by kernel_rfl, fun w hw => by kernel_rfl⟩) hk ?_
            refine takeD 8 (some 26) (.bool true) rfl rfl (by kernel_rfl) (by kernel_rfl) (by kernel_rfl) (Or.inl ⟨by kernel_rfl, fun w hw => by kernel_rfl⟩) hk ?_
            refine takeD 9 (some 27) (undef) rfl rfl (by kernel_rfl) (by kernel_rfl) (by kernel_rfl) (Or.inr ⟨by kernel_rfl, rfl⟩) hk ?_
            refine takeD 10 (some 28) (undef) rfl rfl (by kernel_rfl) (by kernel_rfl) (by kernel_rfl) (Or.inr ⟨by kernel_rfl, rfl⟩) hk ?_
            refine takeD 11 (some 29) (undef) rfl rfl (by kernel_rfl) (by kernel_rfl) (by kernel_rfl) (Or.inr ⟨by kernel_rfl, rfl⟩) hk ?_
            refine takeD 12 (some 30) (undef) rfl rfl (by kernel_rfl) (by kernel_rfl) (by kernel_rfl) (Or.inr ⟨by kernel_rfl, rfl⟩) hk ?_
            refine takeD 13 (some 31) (undef) rfl rfl (by kernel_rfl) (by kernel_rfl) (by kernel_rfl) (Or.inr ⟨by kernel_rfl, rfl⟩) hk ?_
            refine takeD 14 (some 32) (undef) rfl rfl (by kernel_rfl) (by kernel_rfl) (by kernel_rfl) (Or.inr ⟨by kernel_rfl, rfl⟩) hk ?_
            refine takeD 15 (some 33) (undef) rfl rfl (by kernel_rfl) (by kernel_rfl) (by kernel_rfl) (Or.inr ⟨by kernel_rfl, rfl⟩) hk ?_
            refine takeD 16 (some 34) (undef) rfl rfl (by kernel_rfl) (by kernel_rfl) (by kernel_rfl) (Or.inr ⟨by kernel_rfl, rfl⟩) hk ?_
            refine takeD 17 (some 35) (undef) rfl rfl (by kernel_rfl) (by kernel_rfl) (by kernel_rfl) (Or.inr ⟨by kernel_rfl, rfl⟩) hk ?_
            refine takeD 18 (some 36) (undef) rfl rfl (by kernel_rfl) (by kernel_rfl) (by kernel_rfl) (Or.inr ⟨by kernel_rfl, rfl⟩) hk ?_
            refine takeD 19 (some 37) (undef) rfl rfl (by kernel_rfl) (by kernel_rfl) (by kernel_rfl) (Or.inr ⟨by kernel_rfl, rfl⟩) hk ?_
            refine takeD 20 (some 38) (.bool true) rfl rfl (by kernel_rfl) (by kernel_rfl) (by kernel_rfl) (Or.inl ⟨by kernel_rfl, fun w hw => by kernel_rfl⟩) hk ?_
            refine takeD 21 (some 6) (.bool true) rfl rfl (by kernel_rfl) (by kernel_rfl) (by kernel_rfl) (Or.inl ⟨by kernel_rfl, fun w hw => by kernel_rfl⟩) hk ?_
            refine wpAnyH_done (by kernel_rfl) ?_ _
            refine NoPanic.normal ?_
            simp only [Act.put, List.setIfInBounds_toArray, List.set_cons_zero, List.set_cons_succ]
            go_wp2_with fail
            go_ret
            exact ⟨rfl, k0.non hk⟩
          exact AllReadyH.nil
        exact AllReadyH.nil
      | some P =>
        have hP := rd_ok hR
        replace hR := Lib.hid hR
        have hk : Kp non W0 W0.drew := (Kp.refl _ _).drew
        refine wp_region_noPanic ?_
        refine wp_region_held_drew (S := (fun w' => Kp non W0 w')) (by kernel_rfl) hk (fun hHeld => ?_)
        refine takeD 0 (some 18) (.bool true) rfl rfl (by kernel_rfl) (by kernel_rfl) (by kernel_rfl) (Or.inl ⟨by kernel_rfl, fun w hw => by kernel_rfl⟩) hk ?_
        refine takeD 1 (some 19) (.bool false) rfl rfl (by kernel_rfl) (by kernel_rfl) (by kernel_rfl) (Or.inl ⟨by kernel_rfl, fun w hw => by kernel_rfl⟩) hk ?_
        refine takeD 2 (some 20) (.bool false) rfl rfl (by kernel_rfl) (by kernel_rfl) (by kernel_rfl) (Or.inl ⟨by kernel_rfl, fun w hw => by kernel_rfl⟩) hk ?_
        refine takeD 3 (some 21) (.slice ad n c) rfl rfl (by kernel_rfl) (by kernel_rfl) (by kernel_rfl) (Or.inl ⟨by kernel_rfl, fun w hw => by kernel_rfl⟩) hk ?_
        refine wpAnyH_ready (rs := [4]) (by kernel_rfl) (by simp) ?_
        refine stepSl1 (.slice ad n c) 22 (some 22) rfl rfl (by kernel_rfl) (by kernel_rfl) ?_ ?_
        · intro B v1 hj hb1
          replace hk := hk.non hj
          refine ⟨hk, ?_⟩
          refine wpAnyH_ready (rs := [5]) (by kernel_rfl) (by simp) ?_
          refine stepGo 23 #[.slice (some ⟨B, 0, none⟩) 1 1] (some 23) rfl rfl (by kernel_rfl) (by kernel_rfl) (c23t hb1 (hv' _ hk) hR.out) ?_ ?_
          · rintro e v2 ⟨rfl, hj⟩
            replace hk := hk.non hj
            replace hb1 := hb1.kp hj (fun h => h)
            refine ⟨.bool true, rfl, hk, ?_⟩
            refine takeD 6 (some 24) (.bool false) rfl rfl (by kernel_rfl) (by kernel_rfl) (by kernel_rfl) (Or.inl ⟨by kernel_rfl, fun w hw => by kernel_rfl⟩) hk ?_
            refine takeD 7 (some 25) (.bool false) rfl rfl (by kernel_rfl) (by kernel_rfl) (by kernel_rfl) (Or.inl ⟨by kernel_rfl, fun w hw => by kernel_rfl⟩) hk ?_
            refine takeD 8 (some 26) (.bool false) rfl rfl (by kernel_rfl) (by kernel_rfl) (by kernel_rfl) (Or.inl ⟨by kernel_rfl, fun w hw => by kernel_rfl⟩) hk ?_
            refine takeD 9 (some 27) (.slice ad n c) rfl rfl (by kernel_rfl) (by kernel_rfl) (by kernel_rfl) (Or.inl ⟨by kernel_rfl, fun w hw => by kernel_rfl⟩) hk ?_
            refine takeD 10 (some 28) (.agg (bys (be S) 32)) rfl rfl (by kernel_rfl) (by kernel_rfl) (by kernel_rfl) (yl23 (.tmp 7) E 0 (be S) (by kernel_rfl) rfl (by kernel_rfl) fun w h => (hS' w h).range) hk ?_
            refine takeD 12 (some 30) (.slice ad n c) rfl rfl (by kernel_rfl) (by kernel_rfl) (by kernel_rfl) (Or.inl ⟨by kernel_rfl, fun w hw => by kernel_rfl⟩) hk ?_
            refine takeD 13 (some 31) (.agg (bys (g) 32)) rfl rfl (by kernel_rfl) (by kernel_rfl) (by kernel_rfl) (yl23 (.tmp 4) H 0 (g) (by kernel_rfl) rfl (by kernel_rfl) fun w h => (hB' w h).range) hk ?_
            refine takeD 15 (some 33) (.slice ad n c) rfl rfl (by kernel_rfl) (by kernel_rfl) (by kernel_rfl) (Or.inl ⟨by kernel_rfl, fun w hw => by kernel_rfl⟩) hk ?_
            refine takeD 16 (some 34) (.agg (bys (m) 32)) rfl rfl (by kernel_rfl) (by kernel_rfl) (by kernel_rfl) (yl23 (.tmp 5) (H + 1) 0 (m) (by kernel_rfl) rfl (by kernel_rfl) fun w h => (hC' w h).range) hk ?_
            refine wpAnyH_ready (rs := [11]) (by kernel_rfl) (by simp) ?_
            refine stepGo 20 #[.slice ad n c, .agg (bys (be S) 32)] (some 29) rfl rfl (by kernel_rfl) (by kernel_rfl) (c20 (hv' _ hk) hbe hR.out) ?_ ?_
            · rintro e v3 ⟨u1, rfl, h1, hj⟩
              replace hk := hk.non hj
              replace hb1 := hb1.kp hj (fun h => h)
              rw [hn.out, hS.out] at h1
              refine ⟨u1, rfl, hk, ?_⟩
              refine wpAnyH_ready (rs := [14]) (by kernel_rfl) (by simp) ?_
              refine stepGo 20 #[.slice ad n c, .agg (bys g 32)] (some 32) rfl rfl (by kernel_rfl) (by kernel_rfl) (c20 (hv' _ hk) hg hR.out) ?_ ?_
              · rintro e v4 ⟨u2, rfl, h2, hj⟩
                replace hk := hk.non hj
                replace h1 := h1.kp hj
                replace hb1 := hb1.kp hj (fun h => h)
                refine ⟨u2, rfl, hk, ?_⟩
                refine wpAnyH_ready (rs := [17]) (by kernel_rfl) (by simp) ?_
                refine stepGo 20 #[.slice ad n c, .agg (bys m 32)] (some 35) rfl rfl (by kernel_rfl) (by kernel_rfl) (c20 (hv' _ hk) hm hR.out) ?_ ?_
                · rintro e v5 ⟨u3, rfl, h3, hj⟩
                  replace hk := hk.non hj
                  replace h1 := h1.kp hj
                  replace h2 := h2.kp hj
                  replace hb1 := hb1.kp hj (fun h => h)
                  refine ⟨u3, rfl, hk, ?_⟩
                  refine wpAnyH_ready (rs := [18]) (by kernel_rfl) (by simp) ?_
                  refine stepGo 27 #[u2, u3] (some 36) rfl rfl (by kernel_rfl) (by kernel_rfl) (c27 h2.inn h3.inn (rd_pt (EC.Pt.Ok.mul hP _)) (rd_pt (EC.Pt.Ok.mul hP _))) ?_ ?_
                  · rintro e v6 ⟨u4, rfl, h4, hj⟩
                    replace hk := hk.non hj
                    replace h1 := h1.kp hj
                    replace h2 := h2.kp hj
                    replace h3 := h3.kp hj
                    replace hb1 := hb1.kp hj (fun h => h)
                    rw [← EC.Pt.mul_add hP] at h4
                    refine ⟨u4, rfl, hk, ?_⟩
                    refine wpAnyH_ready (rs := [19]) (by kernel_rfl) (by simp) ?_
                    refine stepGo 24 #[u1, u4] (some 37) rfl rfl (by kernel_rfl) (by kernel_rfl) (c24t h1 h4 (EC.Pt.Ok.mul hP _)) ?_ ?_
                    · rintro e v7 ⟨rfl, hj⟩
                      replace hk := hk.non hj
                      replace h1 := h1.kp hj
                      replace h2 := h2.kp hj
                      replace h3 := h3.kp hj
                      replace h4 := h4.kp hj
                      replace hb1 := hb1.kp hj (fun h => h)
                      refine ⟨.bool true, rfl, hk, ?_⟩
                      refine takeD 20 (some 38) (.bool true) rfl rfl (by kernel_rfl) (by kernel_rfl) (by kernel_rfl) (Or.inl ⟨by kernel_rfl, fun w hw => by kernel_rfl⟩) hk ?_
                      refine takeD 21 (some 6) (.bool true) rfl rfl (by kernel_rfl) (by kernel_rfl) (by kernel_rfl) (Or.inl ⟨by kernel_rfl, fun w hw => by kernel_rfl⟩) hk ?_
                      refine wpAnyH_done (by kernel_rfl) ?_ _
                      refine NoPanic.normal ?_
                      simp only [Act.put, List.setIfInBounds_toArray, List.set_cons_zero, List.set_cons_succ]
                      go_wp2_with fail
                      go_ret
                      exact ⟨rfl, k0.non hk⟩
                    exact AllReadyH.nil
                  exact AllReadyH.nil
                exact AllReadyH.nil
              exact AllReadyH.nil
            exact AllReadyH.nil
          exact AllReadyH.nil
        exact AllReadyH.nil
end Go.Proofs.Ytjdjhccefnffmaa
