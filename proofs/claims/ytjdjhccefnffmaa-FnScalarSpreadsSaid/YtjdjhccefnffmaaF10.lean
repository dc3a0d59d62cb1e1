import Derived.Test.YtjdjhccefnffmaaFB
set_option linter.unusedVariables false
set_option linter.unusedSimpArgs false
set_option maxRecDepth 100000
set_option maxHeartbeats 4000000
namespace Go.Proofs.Ytjdjhccefnffmaa
open Go LX Go.RowKit
theorem f10 {w : World} {n m : Nat} {v u : Value} {g : Nat → Nat} (hv : Arg w v n) (hu : Arg w u m) (hg : ∀ i, i < 32 → g i < 256) : Calls Try.prog 10 #[v, u, .agg (bys g 32)] w (Tru w) := by
  obtain ⟨⟨ad, c, rfl⟩, hv⟩ := hv
  obtain ⟨⟨ad2, c2, rfl⟩, hu⟩ := hu
  have k0 : Kp non w (w.alloc (.cells (bys g 32) 23)) := (Kp.refl _ w).alloc _
  have hB := By.new w 23 g 32 hg
  rcases hv with hbig | ⟨f, hv⟩
  · have a1 : (2147483647 : Int) < (n : Int) := by omega
    clear hu
    go_enter Try.func10, Try.ntmps10
    go_wp2_with fail
    go_ret
    exact ⟨rfl, k0⟩
  · have a1 : ¬ (2147483647 : Int) < (n : Int) := by have := hv.len; omega
    rcases hu with hbig | ⟨f2, hu⟩
    · have a2 : (2147483647 : Int) < (m : Int) := by omega
      go_enter Try.func10, Try.ntmps10
      go_wp2_with fail
      go_ret
      exact ⟨rfl, k0⟩
    · have a2 : ¬ (2147483647 : Int) < (m : Int) := by have := hu.len; omega
      replace hv := hv.kp k0
      replace hu := hu.kp k0
      go_enter Try.func10, Try.ntmps10
      go_wp2_with fail
      generalize hHH : w.heap.size = H at *
      generalize (w.alloc (.cells (bys g 32) 23)) = W0 at *
      have hv' : ∀ W, Kp non W0 W → In W (.slice ad n c) n f := fun W hk => hv.kp hk
      have hu' : ∀ W, Kp non W0 W → In W (.slice ad2 m c2) m f2 := fun W hk => hu.kp hk
      have hB' : ∀ W, Kp non W0 W → By W H 0 32 g := fun W hk => hB.kp hk fun _ _ h => h
      clear hB hv hu
      by_cases hno : rd n f = none ∨ rd m f2 = none
      · replace hno := Lib.hid hno
        have hk : Kp non W0 W0.drew := (Kp.refl _ _).drew
        refine wp_region_noPanic ?_
        refine wp_region_held_drew (S := (fun w' => Kp non W0 w')) (by kernel_rfl) hk (fun hHeld => ?_)
        refine takeD 0 (some 15) (.slice ad n c) rfl rfl (by kernel_rfl) (by kernel_rfl) (by kernel_rfl) (Or.inl ⟨by kernel_rfl, fun w hw => by kernel_rfl⟩) hk ?_
        refine takeD 1 (some 16) (.slice ad2 m c2) rfl rfl (by kernel_rfl) (by kernel_rfl) (by kernel_rfl) (Or.inl ⟨by kernel_rfl, fun w hw => by kernel_rfl⟩) hk ?_
        refine wpAnyH_ready (rs := [2]) (by kernel_rfl) (by simp) ?_
        refine stepSl2 (.slice ad n c) (.slice ad2 m c2) 22 (some 17) rfl rfl (by kernel_rfl) (by kernel_rfl) ?_ ?_
        · intro B v1 hj hb hb2
          replace hk := hk.non hj
          refine ⟨hk, ?_⟩
          refine wpAnyH_ready (rs := [3]) (by kernel_rfl) (by simp) ?_
          refine stepGo 23 #[.slice (some ⟨B, 0, none⟩) 2 2] (some 18) rfl rfl (by kernel_rfl) (by kernel_rfl) (c23ff hb hb2 (hv' _ hk) (hu' _ hk) hno.out) ?_ ?_
          · rintro e v2 ⟨rfl, hj⟩
            replace hk := hk.non hj
            replace hb := hb.kp hj (fun h => h)
            replace hb2 := hb2.kp hj (fun h => h)
            refine ⟨.bool false, rfl, hk, ?_⟩
            refine takeD 4 (some 19) (.bool true) rfl rfl (by kernel_rfl) (by kernel_rfl) (by kernel_rfl) (Or.inl ⟨by kernel_rfl, fun w hw => by kernel_rfl⟩) hk ?_
            refine takeD 5 (some 20) (.bool true) rfl rfl (by kernel_rfl) (by kernel_rfl) (by kernel_rfl) (Or.inl ⟨by kernel_rfl, fun w hw => by kernel_rfl⟩) hk ?_
            refine takeD 6 (some 21) (undef) rfl rfl (by kernel_rfl) (by kernel_rfl) (by kernel_rfl) (Or.inr ⟨by kernel_rfl, rfl⟩) hk ?_
            refine takeD 7 (some 22) (undef) rfl rfl (by kernel_rfl) (by kernel_rfl) (by kernel_rfl) (Or.inr ⟨by kernel_rfl, rfl⟩) hk ?_
            refine takeD 8 (some 23) (undef) rfl rfl (by kernel_rfl) (by kernel_rfl) (by kernel_rfl) (Or.inr ⟨by kernel_rfl, rfl⟩) hk ?_
            refine takeD 9 (some 24) (undef) rfl rfl (by kernel_rfl) (by kernel_rfl) (by kernel_rfl) (Or.inr ⟨by kernel_rfl, rfl⟩) hk ?_
            refine takeD 10 (some 25) (undef) rfl rfl (by kernel_rfl) (by kernel_rfl) (by kernel_rfl) (Or.inr ⟨by kernel_rfl, rfl⟩) hk ?_
            refine takeD 11 (some 26) (undef) rfl rfl (by kernel_rfl) (by kernel_rfl) (by kernel_rfl) (Or.inr ⟨by kernel_rfl, rfl⟩) hk ?_
            refine takeD 12 (some 27) (undef) rfl rfl (by kernel_rfl) (by kernel_rfl) (by kernel_rfl) (Or.inr ⟨by kernel_rfl, rfl⟩) hk ?_
            refine takeD 13 (some 28) (undef) rfl rfl (by kernel_rfl) (by kernel_rfl) (by kernel_rfl) (Or.inr ⟨by kernel_rfl, rfl⟩) hk ?_
            refine takeD 14 (some 29) (undef) rfl rfl (by kernel_rfl) (by kernel_rfl) (by kernel_rfl) (Or.inr ⟨by kernel_rfl, rfl⟩) hk ?_
            refine takeD 15 (some 30) (undef) rfl rfl (by kernel_rfl) (by kernel_rfl) (by kernel_rfl) (Or.inr ⟨by kernel_rfl, rfl⟩) hk ?_
            refine takeD 16 (some 31) (undef) rfl rfl (by kernel_rfl) (by kernel_rfl) (by kernel_rfl) (Or.inr ⟨by kernel_rfl, rfl⟩) hk ?_
            refine takeD 17 (some 32) (undef) rfl rfl (by kernel_rfl) (by kernel_rfl) (by kernel_rfl) (Or.inr ⟨by kernel_rfl, rfl⟩) hk ?_
            refine takeD 18 (some 33) (undef) rfl rfl (by kernel_rfl) (by kernel_rfl) (by kernel_rfl) (Or.inr ⟨by kernel_rfl, rfl⟩) hk ?_
            refine takeD 19 (some 34) (.bool true) rfl rfl (by kernel_rfl) (by kernel_rfl) (by kernel_rfl) (Or.inl ⟨by kernel_rfl, fun w hw => by kernel_rfl⟩) hk ?_
            refine takeD 20 (some 6) (.bool true) rfl rfl (by kernel_rfl) (by kernel_rfl) (by kernel_rfl) (Or.inl ⟨by kernel_rfl, fun w hw => by kernel_rfl⟩) hk ?_
            refine wpAnyH_done (by kernel_rfl) ?_ _
            refine NoPanic.normal ?_
            simp only [Act.put, List.setIfInBounds_toArray, List.set_cons_zero, List.set_cons_succ]
            go_wp2_with fail
            go_ret
            exact ⟨rfl, k0.non hk⟩
          exact AllReadyH.nil
        exact AllReadyH.nil
      · obtain ⟨P, hR⟩ : ∃ P, rd n f = some P := by
          cases h : rd n f with
          | none => exact absurd (.inl h) hno
          | some P => exact ⟨P, rfl⟩
        obtain ⟨R, hR2⟩ : ∃ P, rd m f2 = some P := by
          cases h : rd m f2 with
          | none => exact absurd (.inr h) hno
          | some P => exact ⟨P, rfl⟩
        have hP := rd_ok hR
        have hQ := rd_ok hR2
        replace hR := Lib.hid hR
        replace hR2 := Lib.hid hR2
        clear hno
        have hk : Kp non W0 W0.drew := (Kp.refl _ _).drew
        refine wp_region_noPanic ?_
        refine wp_region_held_drew (S := (fun w' => Kp non W0 w')) (by kernel_rfl) hk (fun hHeld => ?_)
        refine takeD 0 (some 15) (.slice ad n c) rfl rfl (by kernel_rfl) (by kernel_rfl) (by kernel_rfl) (Or.inl ⟨by kernel_rfl, fun w hw => by kernel_rfl⟩) hk ?_
        refine takeD 1 (some 16) (.slice ad2 m c2) rfl rfl (by kernel_rfl) (by kernel_rfl) (by kernel_rfl) (Or.inl ⟨by kernel_rfl, fun w hw => by kernel_rfl⟩) hk ?_
        refine wpAnyH_ready (rs := [2]) (by kernel_rfl) (by simp) ?_
        refine stepSl2 (.slice ad n c) (.slice ad2 m c2) 22 (some 17) rfl rfl (by kernel_rfl) (by kernel_rfl) ?_ ?_
        · intro B v1 hj hb hb2
          replace hk := hk.non hj
          refine ⟨hk, ?_⟩
          refine wpAnyH_ready (rs := [3]) (by kernel_rfl) (by simp) ?_
          refine stepGo 23 #[.slice (some ⟨B, 0, none⟩) 2 2] (some 18) rfl rfl (by kernel_rfl) (by kernel_rfl) (c23tt hb hb2 (hv' _ hk) (hu' _ hk) hR.out hR2.out) ?_ ?_
          · rintro e v2 ⟨rfl, hj⟩
            replace hk := hk.non hj
            replace hb := hb.kp hj (fun h => h)
            replace hb2 := hb2.kp hj (fun h => h)
            refine ⟨.bool true, rfl, hk, ?_⟩
            refine takeD 4 (some 19) (.bool false) rfl rfl (by kernel_rfl) (by kernel_rfl) (by kernel_rfl) (Or.inl ⟨by kernel_rfl, fun w hw => by kernel_rfl⟩) hk ?_
            refine takeD 5 (some 20) (.bool false) rfl rfl (by kernel_rfl) (by kernel_rfl) (by kernel_rfl) (Or.inl ⟨by kernel_rfl, fun w hw => by kernel_rfl⟩) hk ?_
            refine takeD 6 (some 21) (.slice ad n c) rfl rfl (by kernel_rfl) (by kernel_rfl) (by kernel_rfl) (Or.inl ⟨by kernel_rfl, fun w hw => by kernel_rfl⟩) hk ?_
            refine takeD 7 (some 22) (.slice ad2 m c2) rfl rfl (by kernel_rfl) (by kernel_rfl) (by kernel_rfl) (Or.inl ⟨by kernel_rfl, fun w hw => by kernel_rfl⟩) hk ?_
            refine takeD 9 (some 24) (.agg (bys (g) 32)) rfl rfl (by kernel_rfl) (by kernel_rfl) (by kernel_rfl) (yl23 (.tmp 5) H 0 (g) (by kernel_rfl) rfl (by kernel_rfl) fun w h => (hB' w h).range) hk ?_
            refine takeD 11 (some 26) (.slice ad n c) rfl rfl (by kernel_rfl) (by kernel_rfl) (by kernel_rfl) (Or.inl ⟨by kernel_rfl, fun w hw => by kernel_rfl⟩) hk ?_
            refine takeD 12 (some 27) (.agg (bys (g) 32)) rfl rfl (by kernel_rfl) (by kernel_rfl) (by kernel_rfl) (yl23 (.tmp 5) H 0 (g) (by kernel_rfl) rfl (by kernel_rfl) fun w h => (hB' w h).range) hk ?_
            refine takeD 14 (some 29) (.slice ad2 m c2) rfl rfl (by kernel_rfl) (by kernel_rfl) (by kernel_rfl) (Or.inl ⟨by kernel_rfl, fun w hw => by kernel_rfl⟩) hk ?_
            refine takeD 15 (some 30) (.agg (bys (g) 32)) rfl rfl (by kernel_rfl) (by kernel_rfl) (by kernel_rfl) (yl23 (.tmp 5) H 0 (g) (by kernel_rfl) rfl (by kernel_rfl) fun w h => (hB' w h).range) hk ?_
            refine wpAnyH_ready (rs := [8]) (by kernel_rfl) (by simp) ?_
            refine stepGo 27 #[.slice ad n c, .slice ad2 m c2] (some 23) rfl rfl (by kernel_rfl) (by kernel_rfl) (c27 (hv' _ hk) (hu' _ hk) hR.out hR2.out) ?_ ?_
            · rintro e v3 ⟨u1, rfl, h1, hj⟩
              replace hk := hk.non hj
              replace hb := hb.kp hj (fun h => h)
              replace hb2 := hb2.kp hj (fun h => h)
              refine ⟨u1, rfl, hk, ?_⟩
              refine wpAnyH_ready (rs := [10]) (by kernel_rfl) (by simp) ?_
              refine stepGo 20 #[u1, .agg (bys g 32)] (some 25) rfl rfl (by kernel_rfl) (by kernel_rfl) (c20 h1.inn hg (rd_pt (EC.Pt.Ok.sum hP hQ))) ?_ ?_
              · rintro e v4 ⟨u2, rfl, h2, hj⟩
                replace hk := hk.non hj
                replace h1 := h1.kp hj
                replace hb := hb.kp hj (fun h => h)
                replace hb2 := hb2.kp hj (fun h => h)
                refine ⟨u2, rfl, hk, ?_⟩
                refine wpAnyH_ready (rs := [13]) (by kernel_rfl) (by simp) ?_
                refine stepGo 20 #[.slice ad n c, .agg (bys g 32)] (some 28) rfl rfl (by kernel_rfl) (by kernel_rfl) (c20 (hv' _ hk) hg hR.out) ?_ ?_
                · rintro e v5 ⟨u3, rfl, h3, hj⟩
                  replace hk := hk.non hj
                  replace h1 := h1.kp hj
                  replace h2 := h2.kp hj
                  replace hb := hb.kp hj (fun h => h)
                  replace hb2 := hb2.kp hj (fun h => h)
                  refine ⟨u3, rfl, hk, ?_⟩
                  refine wpAnyH_ready (rs := [16]) (by kernel_rfl) (by simp) ?_
                  refine stepGo 20 #[.slice ad2 m c2, .agg (bys g 32)] (some 31) rfl rfl (by kernel_rfl) (by kernel_rfl) (c20 (hu' _ hk) hg hR2.out) ?_ ?_
                  · rintro e v6 ⟨u4, rfl, h4, hj⟩
                    replace hk := hk.non hj
                    replace h1 := h1.kp hj
                    replace h2 := h2.kp hj
                    replace h3 := h3.kp hj
                    replace hb := hb.kp hj (fun h => h)
                    replace hb2 := hb2.kp hj (fun h => h)
                    refine ⟨u4, rfl, hk, ?_⟩
                    refine wpAnyH_ready (rs := [17]) (by kernel_rfl) (by simp) ?_
                    refine stepGo 27 #[u3, u4] (some 32) rfl rfl (by kernel_rfl) (by kernel_rfl) (c27 h3.inn h4.inn (rd_pt (EC.Pt.Ok.mul hP _)) (rd_pt (EC.Pt.Ok.mul hQ _))) ?_ ?_
                    · rintro e v7 ⟨u5, rfl, h5, hj⟩
                      replace hk := hk.non hj
                      replace h1 := h1.kp hj
                      replace h2 := h2.kp hj
                      replace h3 := h3.kp hj
                      replace h4 := h4.kp hj
                      replace hb := hb.kp hj (fun h => h)
                      replace hb2 := hb2.kp hj (fun h => h)
                      rw [← EC.Pt.mul_sum hP hQ] at h5
                      refine ⟨u5, rfl, hk, ?_⟩
                      refine wpAnyH_ready (rs := [18]) (by kernel_rfl) (by simp) ?_
                      refine stepGo 24 #[u2, u5] (some 33) rfl rfl (by kernel_rfl) (by kernel_rfl) (c24t h2 h5 (EC.Pt.Ok.mul (EC.Pt.Ok.sum hP hQ) _)) ?_ ?_
                      · rintro e v8 ⟨rfl, hj⟩
                        replace hk := hk.non hj
                        replace h1 := h1.kp hj
                        replace h2 := h2.kp hj
                        replace h3 := h3.kp hj
                        replace h4 := h4.kp hj
                        replace h5 := h5.kp hj
                        replace hb := hb.kp hj (fun h => h)
                        replace hb2 := hb2.kp hj (fun h => h)
                        refine ⟨.bool true, rfl, hk, ?_⟩
                        refine takeD 19 (some 34) (.bool true) rfl rfl (by kernel_rfl) (by kernel_rfl) (by kernel_rfl) (Or.inl ⟨by kernel_rfl, fun w hw => by kernel_rfl⟩) hk ?_
                        refine takeD 20 (some 6) (.bool true) rfl rfl (by kernel_rfl) (by kernel_rfl) (by kernel_rfl) (Or.inl ⟨by kernel_rfl, fun w hw => by kernel_rfl⟩) hk ?_
                        refine wpAnyH_done (by kernel_rfl) ?_ _
                        refine NoPanic.normal ?_
                        simp only [Act.put, List.setIfInBounds_toArray, List.set_cons_zero, List.set_cons_succ]
                        go_wp2_with fail
                        go_ret
                        exact ⟨rfl, k0.non hk⟩
                      exact AllReadyH.nil
                    exact AllReadyH.nil
                  exact AllReadyH.nil
                exact AllReadyH.nil
              exact AllReadyH.nil
            exact AllReadyH.nil
          exact AllReadyH.nil
        exact AllReadyH.nil
end Go.Proofs.Ytjdjhccefnffmaa
