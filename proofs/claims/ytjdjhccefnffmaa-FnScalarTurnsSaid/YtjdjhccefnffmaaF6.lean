import Derived.Test.YtjdjhccefnffmaaFB
set_option linter.unusedVariables false
set_option linter.unusedSimpArgs false
set_option maxRecDepth 100000
set_option maxHeartbeats 4000000
namespace Go.Proofs.Ytjdjhccefnffmaa
open Go LX Go.RowKit
theorem f6 {w : World} {n : Nat} {v : Value} {g m : Nat → Nat} (hv : Arg w v n) (hg : ∀ i, i < 32 → g i < 256) (hm : ∀ i, i < 32 → m i < 256) : Calls Try.prog 6 #[v, .agg (bys g 32), .agg (bys m 32)] w (Tru w) := by
  obtain ⟨⟨ad, c, rfl⟩, hv⟩ := hv
  have k0 : Kp non w ((w.alloc (.cells (bys g 32) 23)).alloc (.cells (bys m 32) 23)) := ((Kp.refl _ w).alloc _).alloc _
  have hB := (By.new w 23 g 32 hg).kp ((Kp.refl non _).alloc (.cells (bys m 32) 23)) fun _ _ h => h
  have hC := By.new (w.alloc (.cells (bys g 32) 23)) 23 m 32 hm
  rw [size1] at hC
  rcases hv with hbig | ⟨f, hv⟩
  · have a1 : (2147483647 : Int) < (n : Int) := by omega
    go_enter Try.func6, Try.ntmps6
    go_wp2_with fail
    go_ret
    exact ⟨rfl, k0⟩
  · have a1 : ¬ (2147483647 : Int) < (n : Int) := by have := hv.len; omega
    replace hv := hv.kp k0
    go_enter Try.func6, Try.ntmps6
    go_wp2_with fail
    generalize hHH : w.heap.size = H at *
    generalize ((w.alloc (.cells (bys g 32) 23)).alloc (.cells (bys m 32) 23)) = W0 at *
    have hv' : ∀ W, Kp non W0 W → In W (.slice ad n c) n f := fun W hk => hv.kp hk
    have hB' : ∀ W, Kp non W0 W → By W H 0 32 g := fun W hk => hB.kp hk fun _ _ h => h
    have hC' : ∀ W, Kp non W0 W → By W (H + 1) 0 32 m := fun W hk => hC.kp hk fun _ _ h => h
    obtain ⟨R, hR⟩ : ∃ R, rd n f = R := ⟨_, rfl⟩
    clear hB hC hv
    cases R with
    | none =>
      replace hR := Lib.hid hR
      have hk : Kp non W0 W0.drew := (Kp.refl _ _).drew
      refine wp_region_noPanic ?_
      refine wp_region_held_drew (S := (fun w' => Kp non W0 w')) (by kernel_rfl) hk (fun hHeld => ?_)
      refine takeD 0 (some 10) (.slice ad n c) rfl rfl (by kernel_rfl) (by kernel_rfl) (by kernel_rfl) (Or.inl ⟨by kernel_rfl, fun w hw => by kernel_rfl⟩) hk ?_
      refine wpAnyH_ready (rs := [1]) (by kernel_rfl) (by simp) ?_
      refine stepSl1 (.slice ad n c) 22 (some 11) rfl rfl (by kernel_rfl) (by kernel_rfl) ?_ ?_
      · intro B v1 hj hb
        replace hk := hk.non hj
        refine ⟨hk, ?_⟩
        refine wpAnyH_ready (rs := [2]) (by kernel_rfl) (by simp) ?_
        refine stepGo 23 #[.slice (some ⟨B, 0, none⟩) 1 1] (some 12) rfl rfl (by kernel_rfl) (by kernel_rfl) (c23f hb (hv' _ hk) hR.out) ?_ ?_
        · rintro e v2 ⟨rfl, hj⟩
          replace hk := hk.non hj
          replace hb := hb.kp hj (fun h => h)
          refine ⟨.bool false, rfl, hk, ?_⟩
          refine takeD 3 (some 13) (.bool true) rfl rfl (by kernel_rfl) (by kernel_rfl) (by kernel_rfl) (Or.inl ⟨by kernel_rfl, fun w hw => by kernel_rfl⟩) hk ?_
          refine takeD 4 (some 14) (.bool true) rfl rfl (by kernel_rfl) (by kernel_rfl) (by kernel_rfl) (Or.inl ⟨by kernel_rfl, fun w hw => by kernel_rfl⟩) hk ?_
          refine takeD 5 (some 15) (undef) rfl rfl (by kernel_rfl) (by kernel_rfl) (by kernel_rfl) (Or.inr ⟨by kernel_rfl, rfl⟩) hk ?_
          refine takeD 6 (some 16) (undef) rfl rfl (by kernel_rfl) (by kernel_rfl) (by kernel_rfl) (Or.inr ⟨by kernel_rfl, rfl⟩) hk ?_
          refine takeD 7 (some 17) (undef) rfl rfl (by kernel_rfl) (by kernel_rfl) (by kernel_rfl) (Or.inr ⟨by kernel_rfl, rfl⟩) hk ?_
          refine takeD 8 (some 18) (undef) rfl rfl (by kernel_rfl) (by kernel_rfl) (by kernel_rfl) (Or.inr ⟨by kernel_rfl, rfl⟩) hk ?_
          refine takeD 9 (some 19) (undef) rfl rfl (by kernel_rfl) (by kernel_rfl) (by kernel_rfl) (Or.inr ⟨by kernel_rfl, rfl⟩) hk ?_
          refine takeD 10 (some 20) (undef) rfl rfl (by kernel_rfl) (by kernel_rfl) (by kernel_rfl) (Or.inr ⟨by kernel_rfl, rfl⟩) hk ?_
          refine takeD 11 (some 21) (undef) rfl rfl (by kernel_rfl) (by kernel_rfl) (by kernel_rfl) (Or.inr ⟨by kernel_rfl, rfl⟩) hk ?_
          refine takeD 12 (some 22) (undef) rfl rfl (by kernel_rfl) (by kernel_rfl) (by kernel_rfl) (Or.inr ⟨by kernel_rfl, rfl⟩) hk ?_
          refine takeD 13 (some 23) (undef) rfl rfl (by kernel_rfl) (by kernel_rfl) (by kernel_rfl) (Or.inr ⟨by kernel_rfl, rfl⟩) hk ?_
          refine takeD 14 (some 24) (undef) rfl rfl (by kernel_rfl) (by kernel_rfl) (by kernel_rfl) (Or.inr ⟨by kernel_rfl, rfl⟩) hk ?_
          refine takeD 15 (some 25) (undef) rfl rfl (by kernel_rfl) (by kernel_rfl) (by kernel_rfl) (Or.inr ⟨by kernel_rfl, rfl⟩) hk ?_
          refine takeD 16 (some 26) (.bool true) rfl rfl (by kernel_rfl) (by kernel_rfl) (by kernel_rfl) (Or.inl ⟨by kernel_rfl, fun w hw => by kernel_rfl⟩) hk ?_
          refine takeD 17 (some 6) (.bool true) rfl rfl (by kernel_rfl) (by kernel_rfl) (by kernel_rfl) (Or.inl ⟨by kernel_rfl, fun w hw => by kernel_rfl⟩) hk ?_
          refine wpAnyH_done (by kernel_rfl) ?_ _
          refine NoPanic.normal ?_
          simp only [Act.put, List.setIfInBounds_toArray, List.set_cons_zero, List.set_cons_succ]
          go_wp2_with fail
          go_ret
          exact ⟨rfl, k0.non hk⟩
        exact AllReadyH.nil
      exact AllReadyH.nil
    | some P =>
      have hP := rd_ok hR
      replace hR := Lib.hid hR
      have hk : Kp non W0 W0.drew := (Kp.refl _ _).drew
      refine wp_region_noPanic ?_
      refine wp_region_held_drew (S := (fun w' => Kp non W0 w')) (by kernel_rfl) hk (fun hHeld => ?_)
      refine takeD 0 (some 10) (.slice ad n c) rfl rfl (by kernel_rfl) (by kernel_rfl) (by kernel_rfl) (Or.inl ⟨by kernel_rfl, fun w hw => by kernel_rfl⟩) hk ?_
      refine wpAnyH_ready (rs := [1]) (by kernel_rfl) (by simp) ?_
      refine stepSl1 (.slice ad n c) 22 (some 11) rfl rfl (by kernel_rfl) (by kernel_rfl) ?_ ?_
      · intro B v1 hj hb
        replace hk := hk.non hj
        refine ⟨hk, ?_⟩
        refine wpAnyH_ready (rs := [2]) (by kernel_rfl) (by simp) ?_
        refine stepGo 23 #[.slice (some ⟨B, 0, none⟩) 1 1] (some 12) rfl rfl (by kernel_rfl) (by kernel_rfl) (c23t hb (hv' _ hk) hR.out) ?_ ?_
        · rintro e v2 ⟨rfl, hj⟩
          replace hk := hk.non hj
          replace hb := hb.kp hj (fun h => h)
          refine ⟨.bool true, rfl, hk, ?_⟩
          refine takeD 3 (some 13) (.bool false) rfl rfl (by kernel_rfl) (by kernel_rfl) (by kernel_rfl) (Or.inl ⟨by kernel_rfl, fun w hw => by kernel_rfl⟩) hk ?_
          refine takeD 4 (some 14) (.bool false) rfl rfl (by kernel_rfl) (by kernel_rfl) (by kernel_rfl) (Or.inl ⟨by kernel_rfl, fun w hw => by kernel_rfl⟩) hk ?_
          refine takeD 5 (some 15) (.slice ad n c) rfl rfl (by kernel_rfl) (by kernel_rfl) (by kernel_rfl) (Or.inl ⟨by kernel_rfl, fun w hw => by kernel_rfl⟩) hk ?_
          refine takeD 6 (some 16) (.agg (bys (g) 32)) rfl rfl (by kernel_rfl) (by kernel_rfl) (by kernel_rfl) (yl23 (.tmp 4) H 0 (g) (by kernel_rfl) rfl (by kernel_rfl) fun w h => (hB' w h).range) hk ?_
          refine takeD 8 (some 18) (.agg (bys (m) 32)) rfl rfl (by kernel_rfl) (by kernel_rfl) (by kernel_rfl) (yl23 (.tmp 5) (H + 1) 0 (m) (by kernel_rfl) rfl (by kernel_rfl) fun w h => (hC' w h).range) hk ?_
          refine takeD 10 (some 20) (.slice ad n c) rfl rfl (by kernel_rfl) (by kernel_rfl) (by kernel_rfl) (Or.inl ⟨by kernel_rfl, fun w hw => by kernel_rfl⟩) hk ?_
          refine takeD 11 (some 21) (.agg (bys (m) 32)) rfl rfl (by kernel_rfl) (by kernel_rfl) (by kernel_rfl) (yl23 (.tmp 5) (H + 1) 0 (m) (by kernel_rfl) rfl (by kernel_rfl) fun w h => (hC' w h).range) hk ?_
          refine takeD 13 (some 23) (.agg (bys (g) 32)) rfl rfl (by kernel_rfl) (by kernel_rfl) (by kernel_rfl) (yl23 (.tmp 4) H 0 (g) (by kernel_rfl) rfl (by kernel_rfl) fun w h => (hB' w h).range) hk ?_
          refine wpAnyH_ready (rs := [7]) (by kernel_rfl) (by simp) ?_
          refine stepGo 20 #[.slice ad n c, .agg (bys g 32)] (some 17) rfl rfl (by kernel_rfl) (by kernel_rfl) (c20 (hv' _ hk) hg hR.out) ?_ ?_
          · rintro e v3 ⟨u1, rfl, h1, hj⟩
            replace hk := hk.non hj
            replace hb := hb.kp hj (fun h => h)
            refine ⟨u1, rfl, hk, ?_⟩
            refine wpAnyH_ready (rs := [9]) (by kernel_rfl) (by simp) ?_
            refine stepGo 20 #[u1, .agg (bys m 32)] (some 19) rfl rfl (by kernel_rfl) (by kernel_rfl) (c20 h1.inn hm (rd_pt (EC.Pt.Ok.mul hP _))) ?_ ?_
            · rintro e v4 ⟨u2, rfl, h2, hj⟩
              replace hk := hk.non hj
              replace h1 := h1.kp hj
              replace hb := hb.kp hj (fun h => h)
              refine ⟨u2, rfl, hk, ?_⟩
              refine wpAnyH_ready (rs := [12]) (by kernel_rfl) (by simp) ?_
              refine stepGo 20 #[.slice ad n c, .agg (bys m 32)] (some 22) rfl rfl (by kernel_rfl) (by kernel_rfl) (c20 (hv' _ hk) hm hR.out) ?_ ?_
              · rintro e v5 ⟨u3, rfl, h3, hj⟩
                replace hk := hk.non hj
                replace h1 := h1.kp hj
                replace h2 := h2.kp hj
                replace hb := hb.kp hj (fun h => h)
                refine ⟨u3, rfl, hk, ?_⟩
                refine wpAnyH_ready (rs := [14]) (by kernel_rfl) (by simp) ?_
                refine stepGo 20 #[u3, .agg (bys g 32)] (some 24) rfl rfl (by kernel_rfl) (by kernel_rfl) (c20 h3.inn hg (rd_pt (EC.Pt.Ok.mul hP _))) ?_ ?_
                · rintro e v6 ⟨u4, rfl, h4, hj⟩
                  replace hk := hk.non hj
                  replace h1 := h1.kp hj
                  replace h2 := h2.kp hj
                  replace h3 := h3.kp hj
                  replace hb := hb.kp hj (fun h => h)
                  rw [EC.Pt.mul_swap hP] at h4
                  refine ⟨u4, rfl, hk, ?_⟩
                  refine wpAnyH_ready (rs := [15]) (by kernel_rfl) (by simp) ?_
                  refine stepGo 24 #[u2, u4] (some 25) rfl rfl (by kernel_rfl) (by kernel_rfl) (c24t h2 h4 (EC.Pt.Ok.mul (EC.Pt.Ok.mul hP _) _)) ?_ ?_
                  · rintro e v7 ⟨rfl, hj⟩
                    replace hk := hk.non hj
                    replace h1 := h1.kp hj
                    replace h2 := h2.kp hj
                    replace h3 := h3.kp hj
                    replace h4 := h4.kp hj
                    replace hb := hb.kp hj (fun h => h)
                    refine ⟨.bool true, rfl, hk, ?_⟩
                    refine takeD 16 (some 26) (.bool true) rfl rfl (by kernel_rfl) (by kernel_rfl) (by kernel_rfl) (Or.inl ⟨by kernel_rfl, fun w hw => by kernel_rfl⟩) hk ?_
                    refine takeD 17 (some 6) (.bool true) rfl rfl (by kernel_rfl) (by kernel_rfl) (by kernel_rfl) (Or.inl ⟨by kernel_rfl, fun w hw => by kernel_rfl⟩) hk ?_
                    refine wpAnyH_done (by kernel_rfl) ?_ _
                    refine NoPanic.normal ?_
                    simp only [Act.put, List.setIfInBounds_toArray, List.set_cons_zero, List.set_cons_succ]
                    go_wp2_with fail
                    go_ret
                    exact ⟨rfl, k0.non hk⟩
                  exact AllReadyH.nil
                exact AllReadyH.nil
              exact AllReadyH.nil
            exact AllReadyH.nil
          exact AllReadyH.nil
        exact AllReadyH.nil
      exact AllReadyH.nil
end Go.Proofs.Ytjdjhccefnffmaa
