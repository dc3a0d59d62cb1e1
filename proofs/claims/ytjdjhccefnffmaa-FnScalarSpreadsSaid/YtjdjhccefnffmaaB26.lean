import Derived.Test.YtjdjhccefnffmaaB23
import Derived.Test.YtjdjhccefnffmaaB25
set_option linter.unusedVariables false
set_option linter.unusedSimpArgs false
set_option maxRecDepth 100000
set_option maxHeartbeats 4000000
namespace Go.Proofs.Ytjdjhccefnffmaa
open Go LX Go.RowKit
theorem e64 {w : World} {x : EC.F} : Calls Try.prog 64 #[Ev x] w (Ex01 (EC.inv x) w) := c64.mono Ev01.ex
theorem eq80 : ∀ (x : EC.F) (W : World), (Op.equalIn 10000 25 (.agg (a8 (ew x))) (.agg #[.int .i64 0, .int .i64 0, .int .i64 0, .int .i64 0, .int .i64 0, .int .i64 0, .int .i64 0, .int .i64 0])).run Try.prog W = .ok (decide (x = 0)) W := fun x W => by
  have := eq8 x 0 W
  rwa [show a8 (ew 0) = #[.int .i64 0, .int .i64 0, .int .i64 0, .int .i64 0, .int .i64 0, .int .i64 0, .int .i64 0, .int .i64 0] from by kernel_rfl] at this
theorem c43_chord {w : World} {x1 y1 x2 y2 : EC.F} (hne : x1 ≠ x2) : Calls Try.prog 43 #[.agg (pl false (ew x1) (ew y1)).toArray, .agg (pl false (ew x2) (ew y2)).toArray] w (Pv01 ((EC.Pt.aff x1 y1).sum (.aff x2 y2)) w) := by
  have hd := decide_eq_false hne
  have hz := z27
  have k0 : Kp non w ((((w.alloc (.cells (pl false (ew x1) (ew y1)).toArray 27)).alloc (.cells (pl false (ew x2) (ew y2)).toArray 27)).alloc (.cells (pl false (fun _ => 0) fun _ => 0).toArray 27)).alloc (.cells (a8 fun _ => 0) 25)) := ((((Kp.refl _ w).alloc _).alloc _).alloc _).alloc _
  have h0 := (((Pl.new w 27 false (ew x1) (ew y1)).kp ((Kp.refl non _).alloc (.cells (pl false (ew x2) (ew y2)).toArray 27)) fun _ h => h).kp ((Kp.refl non _).alloc (.cells (pl false (fun _ => 0) fun _ => 0).toArray 27)) fun _ h => h).kp ((Kp.refl non _).alloc (.cells (a8 fun _ => 0) 25)) fun _ h => h
  have h1 := ((Pl.new (w.alloc (.cells (pl false (ew x1) (ew y1)).toArray 27)) 27 false (ew x2) (ew y2)).kp ((Kp.refl non _).alloc (.cells (pl false (fun _ => 0) fun _ => 0).toArray 27)) fun _ h => h).kp ((Kp.refl non _).alloc (.cells (a8 fun _ => 0) 25)) fun _ h => h
  have hR := (Pl.new ((w.alloc (.cells (pl false (ew x1) (ew y1)).toArray 27)).alloc (.cells (pl false (ew x2) (ew y2)).toArray 27)) 27 false (fun _ => 0) (fun _ => 0)).kp ((Kp.refl non _).alloc (.cells (a8 fun _ => 0) 25)) fun _ h => h
  have hE := Ws.new8 (((w.alloc (.cells (pl false (ew x1) (ew y1)).toArray 27)).alloc (.cells (pl false (ew x2) (ew y2)).toArray 27)).alloc (.cells (pl false (fun _ => 0) fun _ => 0).toArray 27)) 25 (fun _ => 0)
  simp only [size1] at h1 hR hE
  have c0 := ((Pl.new w 27 false (ew x1) (ew y1)).kp ((Kp.refl non _).alloc (.cells (pl false (ew x2) (ew y2)).toArray 27)) fun _ h => h).kp ((Kp.refl non _).alloc (.cells (pl false (fun _ => 0) fun _ => 0).toArray 27)) fun _ h => h
  have c1 := (Pl.new (w.alloc (.cells (pl false (ew x1) (ew y1)).toArray 27)) 27 false (ew x2) (ew y2)).kp ((Kp.refl non _).alloc (.cells (pl false (fun _ => 0) fun _ => 0).toArray 27)) fun _ h => h
  rw [size1] at c1
  replace c0 := c0.r 0 (.bool false) rfl
  replace c1 := c1.r 0 (.bool false) rfl
  rw [Nat.zero_add] at c0 c1
  have hpl : ¬ (pl false (fun _ => 0) fun _ => 0) = [] := by simp [pl]
  have hq := eq8
  have hq0 := eq80
  go_enter Try.func43, Try.ntmps43
  go_wp2_with (first | (refine wpList_load25 rfl _ rfl w.heap.size 1 rfl (ew x1) h0.x8 ?_) | (refine wpList_load25 rfl _ rfl (w.heap.size + 1) 1 rfl (ew x2) h1.x8 ?_) | (refine wpList_load25 rfl _ rfl w.heap.size 9 rfl (ew y1) h0.y8 ?_) | (refine wpList_load25 rfl _ rfl (w.heap.size + 1) 9 rfl (ew y2) h1.y8 ?_))
  generalize hHH : w.heap.size = H at *
  generalize ((((w.alloc (.cells (pl false (ew x1) (ew y1)).toArray 27)).alloc (.cells (pl false (ew x2) (ew y2)).toArray 27)).alloc (.cells (pl false (fun _ => 0) fun _ => 0).toArray 27)).alloc (.cells (a8 fun _ => 0) 25)) = W0 at *
  have hn : Kp non W0 W0.drew := (Kp.refl _ _).drew
  have hk : Kp (at_ (H + 3) 0 8) W0 W0.drew := kpW hn
  have hP : ∀ W, Kp (at_ (H + 3) 0 8) W0 W → Pl W H false (ew x1) (ew y1) := fun W hk => h0.kp hk fun _ h => by have := h.1; omega
  have hQ : ∀ W, Kp (at_ (H + 3) 0 8) W0 W → Pl W (H + 1) false (ew x2) (ew y2) := fun W hk => h1.kp hk fun _ h => by have := h.1; omega
  clear h0 h1 c0 c1 hq hq0 hd
  refine wp_region_noPanic ?_
  refine wp_region_held_drew (S := (fun w' => Kp (at_ (H + 3) 0 8) W0 w')) (by kernel_rfl) hk (fun hHeld => ?_)
  refine takeD 0 (some 36) (.pointer (some ⟨H + 1, 9, none⟩)) rfl rfl (by kernel_rfl) (by kernel_rfl) (by kernel_rfl) (Or.inl ⟨by kernel_rfl, fun w hw => by kernel_rfl⟩) hk ?_
  refine takeD 1 (some 37) (.agg (a8 (ew y2))) rfl rfl (by kernel_rfl) (by kernel_rfl) (by kernel_rfl) (yl25 (.tmp 36) (H + 1) 9 (ew y2) (by kernel_rfl) rfl (by kernel_rfl) fun w h => (hQ w h).y8) hk ?_
  refine takeD 2 (some 38) (.pointer (some ⟨H, 9, none⟩)) rfl rfl (by kernel_rfl) (by kernel_rfl) (by kernel_rfl) (Or.inl ⟨by kernel_rfl, fun w hw => by kernel_rfl⟩) hk ?_
  refine takeD 3 (some 39) (.agg (a8 (ew y1))) rfl rfl (by kernel_rfl) (by kernel_rfl) (by kernel_rfl) (yl25 (.tmp 38) H 9 (ew y1) (by kernel_rfl) rfl (by kernel_rfl) fun w h => (hP w h).y8) hk ?_
  refine takeD 5 (some 41) (.pointer (some ⟨H + 1, 1, none⟩)) rfl rfl (by kernel_rfl) (by kernel_rfl) (by kernel_rfl) (Or.inl ⟨by kernel_rfl, fun w hw => by kernel_rfl⟩) hk ?_
  refine takeD 6 (some 42) (.agg (a8 (ew x2))) rfl rfl (by kernel_rfl) (by kernel_rfl) (by kernel_rfl) (yl25 (.tmp 41) (H + 1) 1 (ew x2) (by kernel_rfl) rfl (by kernel_rfl) fun w h => (hQ w h).x8) hk ?_
  refine takeD 7 (some 43) (.pointer (some ⟨H, 1, none⟩)) rfl rfl (by kernel_rfl) (by kernel_rfl) (by kernel_rfl) (Or.inl ⟨by kernel_rfl, fun w hw => by kernel_rfl⟩) hk ?_
  refine takeD 8 (some 44) (.agg (a8 (ew x1))) rfl rfl (by kernel_rfl) (by kernel_rfl) (by kernel_rfl) (yl25 (.tmp 43) H 1 (ew x1) (by kernel_rfl) rfl (by kernel_rfl) fun w h => (hP w h).x8) hk ?_
  refine wpAnyH_ready (rs := [4]) (by kernel_rfl) (by simp) ?_
  refine stepGo 37 #[.agg (a8 (ew y2)), .agg (a8 (ew y1))] (some 40) rfl rfl (by kernel_rfl) (by kernel_rfl) (e37 (a := y2) (b := y1)) ?_ ?_
  · rintro e v1 ⟨za, hza, rfl, hj⟩
    have hn := hn.non hj
    have hk : Kp (at_ (H + 3) 0 8) W0 v1 := kpW hn
    refine ⟨Ev za, rfl, hk, ?_⟩
    refine wpAnyH_ready (rs := [9]) (by kernel_rfl) (by simp) ?_
    refine stepGo 37 #[.agg (a8 (ew x2)), .agg (a8 (ew x1))] (some 45) rfl rfl (by kernel_rfl) (by kernel_rfl) (e37 (a := x2) (b := x1)) ?_ ?_
    · rintro e v2 ⟨zb, hzb, rfl, hj⟩
      have hn := hn.non hj
      have hk : Kp (at_ (H + 3) 0 8) W0 v2 := kpW hn
      refine ⟨Ev zb, rfl, hk, ?_⟩
      refine wpAnyH_ready (rs := [10]) (by kernel_rfl) (by simp) ?_
      refine stepGo 64 #[Ev zb] (some 46) rfl rfl (by kernel_rfl) (by kernel_rfl) (e64 (x := zb)) ?_ ?_
      · rintro e v3 ⟨zc, hzc, rfl, hj⟩
        have hn := hn.non hj
        have hk : Kp (at_ (H + 3) 0 8) W0 v3 := kpW hn
        refine ⟨Ev zc, rfl, hk, ?_⟩
        refine wpAnyH_ready (rs := [11]) (by kernel_rfl) (by simp) ?_
        refine stepGo 48 #[Ev za, Ev zc] (some 47) rfl rfl (by kernel_rfl) (by kernel_rfl) (e48 (a := za) (b := zc)) ?_ ?_
        · rintro e v4 ⟨s, hs, rfl, hj⟩
          have hn := hn.non hj
          have hk : Kp (at_ (H + 3) 0 8) W0 v4 := kpW hn
          refine ⟨Ev s, rfl, hk, ?_⟩
          refine wpAnyH_ready (rs := [12]) (by kernel_rfl) (by simp) ?_
          refine stepS25 (.tmp 5) (.tmp 47) (H + 3) (ew s) rfl rfl (by kernel_rfl) rfl (by kernel_rfl) (by kernel_rfl) (hE.kp hn fun _ _ h => h) ?_ ?_
          · intro v5 hj hE1
            have hk : Kp (at_ (H + 3) 0 8) W0 v5 := (kpW hn).trans hj (fun _ _ _ h => h) (fun _ _ _ h => h)
            refine ⟨hk, ?_⟩
            refine wpAnyH_done (by kernel_rfl) ?_ _
            refine NoPanic.normal ?_
            simp only [Act.put, List.setIfInBounds_toArray, List.set_cons_zero, List.set_cons_succ]
            go_wp2_with fail
            replace hs := Lib.hid (show s = (y2 - y1) * EC.inv (x2 - x1) by rw [hs.out, hzc.out, hza.out, hzb.out])
            have kv : Kp non w v5 := kp_in k0 hk (by omega)
            have vP := hP _ hk
            have vQ := hQ _ hk
            have vR : Pl v5 (H + 2) false (fun _ => 0) (fun _ => 0) := hR.kp hk fun _ h => by have := h.1; omega
            have vE := hE1
            have vH : H + 3 < v5.heap.size := (vE 0 (by omega)).lt
            generalize v5 = V at kv vP vQ vR vE vH ⊢
            clear hE1 hk hHeld hP hQ hR hE k0 hn
            go_cut [6] from 61 to 69 (fun t6 wx => ∃ B z, t6 = pt B 0 ∧ Hid (z = s * s - x1 - x2 ∧ Kp non V wx ∧ V.heap.size ≤ B ∧ B < wx.heap.size ∧ Ws wx B 8 (ew z)))
            case first =>
              have hn : Kp non V V.drew := (Kp.refl _ _).drew
              have hk := hn
              have hP : ∀ W, Kp non V W → Pl W H false (ew x1) (ew y1) := fun W hk => vP.kp hk fun _ h => h
              have hQ : ∀ W, Kp non V W → Pl W (H + 1) false (ew x2) (ew y2) := fun W hk => vQ.kp hk fun _ h => h
              have hE : ∀ W, Kp non V W → Ws W (H + 3) 8 (ew s) := fun W hk => vE.kp hk fun _ _ h => h
              refine wp_region_noPanic ?_
              refine wp_region_held_drew (S := (fun w' => Kp non V w')) (by kernel_rfl) hk (fun hHeld => ?_)
              refine takeD 0 (some 61) (.agg (a8 (ew s))) rfl rfl (by kernel_rfl) (by kernel_rfl) (by kernel_rfl) (yl25 (.tmp 5) (H + 3) 0 (ew s) (by kernel_rfl) rfl (by kernel_rfl) fun w h => (hE w h).r) hk ?_
              refine takeD 1 (some 62) (.agg (a8 (ew s))) rfl rfl (by kernel_rfl) (by kernel_rfl) (by kernel_rfl) (yl25 (.tmp 5) (H + 3) 0 (ew s) (by kernel_rfl) rfl (by kernel_rfl) fun w h => (hE w h).r) hk ?_
              refine takeD 3 (some 64) (.pointer (some ⟨H, 1, none⟩)) rfl rfl (by kernel_rfl) (by kernel_rfl) (by kernel_rfl) (Or.inl ⟨by kernel_rfl, fun w hw => by kernel_rfl⟩) hk ?_
              refine takeD 4 (some 65) (.agg (a8 (ew x1))) rfl rfl (by kernel_rfl) (by kernel_rfl) (by kernel_rfl) (yl25 (.tmp 64) H 1 (ew x1) (by kernel_rfl) rfl (by kernel_rfl) fun w h => (hP w h).x8) hk ?_
              refine takeD 6 (some 67) (.pointer (some ⟨H + 1, 1, none⟩)) rfl rfl (by kernel_rfl) (by kernel_rfl) (by kernel_rfl) (Or.inl ⟨by kernel_rfl, fun w hw => by kernel_rfl⟩) hk ?_
              refine takeD 7 (some 68) (.agg (a8 (ew x2))) rfl rfl (by kernel_rfl) (by kernel_rfl) (by kernel_rfl) (yl25 (.tmp 67) (H + 1) 1 (ew x2) (by kernel_rfl) rfl (by kernel_rfl) fun w h => (hQ w h).x8) hk ?_
              refine wpAnyH_ready (rs := [2, 9]) (by kernel_rfl) (by simp) ?_
              refine stepGo 48 #[.agg (a8 (ew s)), .agg (a8 (ew s))] (some 63) rfl rfl (by kernel_rfl) (by kernel_rfl) (e48 (a := s) (b := s)) ?_ ?_
              · rintro e v1 ⟨za, hza, rfl, hj⟩
                have hn := hn.non hj
                have hk := hn
                refine ⟨Ev za, rfl, hk, ?_⟩
                refine wpAnyH_ready (rs := [5, 9]) (by kernel_rfl) (by simp) ?_
                refine stepGo 37 #[Ev za, .agg (a8 (ew x1))] (some 66) rfl rfl (by kernel_rfl) (by kernel_rfl) (e37 (a := za) (b := x1)) ?_ ?_
                · rintro e v2 ⟨zb, hzb, rfl, hj⟩
                  have hn := hn.non hj
                  have hk := hn
                  refine ⟨Ev zb, rfl, hk, ?_⟩
                  refine wpAnyH_ready (rs := [8, 9]) (by kernel_rfl) (by simp) ?_
                  refine stepGo 37 #[Ev zb, .agg (a8 (ew x2))] (some 69) rfl rfl (by kernel_rfl) (by kernel_rfl) (e37 (a := zb) (b := x2)) ?_ ?_
                  · rintro e v3 ⟨z, hz, rfl, hj⟩
                    have hn := hn.non hj
                    have hk := hn
                    refine ⟨Ev z, rfl, hk, ?_⟩
                    refine wpAnyH_ready (rs := [9]) (by kernel_rfl) (by simp) ?_
                    refine stepA25 (some 6) rfl rfl (by kernel_rfl) (by kernel_rfl) ?_ ?_
                    · intro B v4 lB mB hj hB
                      have hks := hn.size
                      have hn := hn.non hj
                      have hk := hn
                      replace lB := Nat.le_trans hks lB
                      refine ⟨hk, ?_⟩
                      refine wpAnyH_ready (rs := [10]) (by kernel_rfl) (by simp) ?_
                      refine stepS25 (.tmp 6) (.tmp 69) B (ew z) rfl rfl (by kernel_rfl) rfl (by kernel_rfl) (by kernel_rfl) hB ?_ ?_
                      · intro v5 hj hB
                        have hn := kp_in hn hj lB
                        have hk := hn
                        refine ⟨hk, ?_⟩
                        refine wpAnyH_done (by kernel_rfl) ?_ _
                        refine NoPanic.normal ?_
                        simp only [Act.put, List.setIfInBounds_toArray, List.set_cons_zero, List.set_cons_succ]
                        go_wp2_with fail
                        go_meet
                        case rel => exact ⟨_, z, rfl, Lib.hid ⟨by rw [hz.out, hzb.out, hza.out], hn, lB, (hB 0 (by omega)).lt, hB⟩⟩
                      exact AllReadyH.nil
                    exact AllReadyH.nil
                  refine stepA25 (some 6) rfl rfl (by kernel_rfl) (by kernel_rfl) ?_ ?_
                  · intro B v3 lB mB hj hB
                    have hks := hn.size
                    have hn := hn.non hj
                    have hk := hn
                    replace lB := Nat.le_trans hks lB
                    refine ⟨hk, ?_⟩
                    refine wpAnyH_ready (rs := [8]) (by kernel_rfl) (by simp) ?_
                    refine stepGo 37 #[Ev zb, .agg (a8 (ew x2))] (some 69) rfl rfl (by kernel_rfl) (by kernel_rfl) (e37 (a := zb) (b := x2)) ?_ ?_
                    · rintro e v4 ⟨z, hz, rfl, hj⟩
                      have hn := hn.non hj
                      have hk := hn
                      replace hB := hB.kp hj fun _ _ h => h
                      refine ⟨Ev z, rfl, hk, ?_⟩
                      refine wpAnyH_ready (rs := [10]) (by kernel_rfl) (by simp) ?_
                      refine stepS25 (.tmp 6) (.tmp 69) B (ew z) rfl rfl (by kernel_rfl) rfl (by kernel_rfl) (by kernel_rfl) hB ?_ ?_
                      · intro v5 hj hB
                        have hn := kp_in hn hj lB
                        have hk := hn
                        refine ⟨hk, ?_⟩
                        refine wpAnyH_done (by kernel_rfl) ?_ _
                        refine NoPanic.normal ?_
                        simp only [Act.put, List.setIfInBounds_toArray, List.set_cons_zero, List.set_cons_succ]
                        go_wp2_with fail
                        go_meet
                        case rel => exact ⟨_, z, rfl, Lib.hid ⟨by rw [hz.out, hzb.out, hza.out], hn, lB, (hB 0 (by omega)).lt, hB⟩⟩
                      exact AllReadyH.nil
                    exact AllReadyH.nil
                  exact AllReadyH.nil
                refine stepA25 (some 6) rfl rfl (by kernel_rfl) (by kernel_rfl) ?_ ?_
                · intro B v2 lB mB hj hB
                  have hks := hn.size
                  have hn := hn.non hj
                  have hk := hn
                  replace lB := Nat.le_trans hks lB
                  refine ⟨hk, ?_⟩
                  refine wpAnyH_ready (rs := [5]) (by kernel_rfl) (by simp) ?_
                  refine stepGo 37 #[Ev za, .agg (a8 (ew x1))] (some 66) rfl rfl (by kernel_rfl) (by kernel_rfl) (e37 (a := za) (b := x1)) ?_ ?_
                  · rintro e v3 ⟨zb, hzb, rfl, hj⟩
                    have hn := hn.non hj
                    have hk := hn
                    replace hB := hB.kp hj fun _ _ h => h
                    refine ⟨Ev zb, rfl, hk, ?_⟩
                    refine wpAnyH_ready (rs := [8]) (by kernel_rfl) (by simp) ?_
                    refine stepGo 37 #[Ev zb, .agg (a8 (ew x2))] (some 69) rfl rfl (by kernel_rfl) (by kernel_rfl) (e37 (a := zb) (b := x2)) ?_ ?_
                    · rintro e v4 ⟨z, hz, rfl, hj⟩
                      have hn := hn.non hj
                      have hk := hn
                      replace hB := hB.kp hj fun _ _ h => h
                      refine ⟨Ev z, rfl, hk, ?_⟩
                      refine wpAnyH_ready (rs := [10]) (by kernel_rfl) (by simp) ?_
                      refine stepS25 (.tmp 6) (.tmp 69) B (ew z) rfl rfl (by kernel_rfl) rfl (by kernel_rfl) (by kernel_rfl) hB ?_ ?_
                      · intro v5 hj hB
                        have hn := kp_in hn hj lB
                        have hk := hn
                        refine ⟨hk, ?_⟩
                        refine wpAnyH_done (by kernel_rfl) ?_ _
                        refine NoPanic.normal ?_
                        simp only [Act.put, List.setIfInBounds_toArray, List.set_cons_zero, List.set_cons_succ]
                        go_wp2_with fail
                        go_meet
                        case rel => exact ⟨_, z, rfl, Lib.hid ⟨by rw [hz.out, hzb.out, hza.out], hn, lB, (hB 0 (by omega)).lt, hB⟩⟩
                      exact AllReadyH.nil
                    exact AllReadyH.nil
                  exact AllReadyH.nil
                exact AllReadyH.nil
              refine stepA25 (some 6) rfl rfl (by kernel_rfl) (by kernel_rfl) ?_ ?_
              · intro B v1 lB mB hj hB
                have hks := hn.size
                have hn := hn.non hj
                have hk := hn
                replace lB := Nat.le_trans hks lB
                refine ⟨hk, ?_⟩
                refine wpAnyH_ready (rs := [2]) (by kernel_rfl) (by simp) ?_
                refine stepGo 48 #[.agg (a8 (ew s)), .agg (a8 (ew s))] (some 63) rfl rfl (by kernel_rfl) (by kernel_rfl) (e48 (a := s) (b := s)) ?_ ?_
                · rintro e v2 ⟨za, hza, rfl, hj⟩
                  have hn := hn.non hj
                  have hk := hn
                  replace hB := hB.kp hj fun _ _ h => h
                  refine ⟨Ev za, rfl, hk, ?_⟩
                  refine wpAnyH_ready (rs := [5]) (by kernel_rfl) (by simp) ?_
                  refine stepGo 37 #[Ev za, .agg (a8 (ew x1))] (some 66) rfl rfl (by kernel_rfl) (by kernel_rfl) (e37 (a := za) (b := x1)) ?_ ?_
                  · rintro e v3 ⟨zb, hzb, rfl, hj⟩
                    have hn := hn.non hj
                    have hk := hn
                    replace hB := hB.kp hj fun _ _ h => h
                    refine ⟨Ev zb, rfl, hk, ?_⟩
                    refine wpAnyH_ready (rs := [8]) (by kernel_rfl) (by simp) ?_
                    refine stepGo 37 #[Ev zb, .agg (a8 (ew x2))] (some 69) rfl rfl (by kernel_rfl) (by kernel_rfl) (e37 (a := zb) (b := x2)) ?_ ?_
                    · rintro e v4 ⟨z, hz, rfl, hj⟩
                      have hn := hn.non hj
                      have hk := hn
                      replace hB := hB.kp hj fun _ _ h => h
                      refine ⟨Ev z, rfl, hk, ?_⟩
                      refine wpAnyH_ready (rs := [10]) (by kernel_rfl) (by simp) ?_
                      refine stepS25 (.tmp 6) (.tmp 69) B (ew z) rfl rfl (by kernel_rfl) rfl (by kernel_rfl) (by kernel_rfl) hB ?_ ?_
                      · intro v5 hj hB
                        have hn := kp_in hn hj lB
                        have hk := hn
                        refine ⟨hk, ?_⟩
                        refine wpAnyH_done (by kernel_rfl) ?_ _
                        refine NoPanic.normal ?_
                        simp only [Act.put, List.setIfInBounds_toArray, List.set_cons_zero, List.set_cons_succ]
                        go_wp2_with fail
                        go_meet
                        case rel => exact ⟨_, z, rfl, Lib.hid ⟨by rw [hz.out, hzb.out, hza.out], hn, lB, (hB 0 (by omega)).lt, hB⟩⟩
                      exact AllReadyH.nil
                    exact AllReadyH.nil
                  exact AllReadyH.nil
                exact AllReadyH.nil
              exact AllReadyH.nil
            case rest =>
              obtain ⟨B, z, rfl, hh⟩ := hcut
              obtain ⟨hz, hkc, lB, mB, hB0⟩ := hh.out
              replace kv := kv.non hkc
              replace vP := vP.kp hkc fun _ h => h
              replace vQ := vQ.kp hkc fun _ h => h
              replace vR := vR.kp hkc fun _ h => h
              replace vE := vE.kp hkc fun _ _ h => h
              have hBne : B ≠ H + 2 := by omega
              clear hh hkc lB mB
              go_wp2_with fail
              have hn : Kp non wc wc.drew := (Kp.refl _ _).drew
              have hk : Kp (at_ (H + 2) 0 17) wc wc.drew := kpW hn
              have hP : ∀ W, Kp (at_ (H + 2) 0 17) wc W → Pl W H false (ew x1) (ew y1) := fun W hk => vP.kp hk fun _ h => by have := h.1; omega
              have hE : ∀ W, Kp (at_ (H + 2) 0 17) wc W → Ws W (H + 3) 8 (ew s) := fun W hk => vE.kp hk fun _ _ h => by have := h.1; omega
              have hB : ∀ W, Kp (at_ (H + 2) 0 17) wc W → Ws W B 8 (ew z) := fun W hk => hB0.kp hk fun _ _ h => hBne h.1
              refine wp_region_noPanic ?_
              refine wp_region_held_drew (S := (fun w' => Kp (at_ (H + 2) 0 17) wc w')) (by kernel_rfl) hk (fun hHeld => ?_)
              refine takeD 0 (some 70) (.agg (a8 (ew z))) rfl rfl (by kernel_rfl) (by kernel_rfl) (by kernel_rfl) (yl25 (.tmp 6) B 0 (ew z) (by kernel_rfl) rfl (by kernel_rfl) fun w h => (hB w h).r) hk ?_
              refine takeD 1 (some 71) (.agg (a8 (ew s))) rfl rfl (by kernel_rfl) (by kernel_rfl) (by kernel_rfl) (yl25 (.tmp 5) (H + 3) 0 (ew s) (by kernel_rfl) rfl (by kernel_rfl) fun w h => (hE w h).r) hk ?_
              refine takeD 2 (some 72) (.pointer (some ⟨H, 1, none⟩)) rfl rfl (by kernel_rfl) (by kernel_rfl) (by kernel_rfl) (Or.inl ⟨by kernel_rfl, fun w hw => by kernel_rfl⟩) hk ?_
              refine takeD 3 (some 73) (.agg (a8 (ew x1))) rfl rfl (by kernel_rfl) (by kernel_rfl) (by kernel_rfl) (yl25 (.tmp 72) H 1 (ew x1) (by kernel_rfl) rfl (by kernel_rfl) fun w h => (hP w h).x8) hk ?_
              refine takeD 4 (some 74) (.agg (a8 (ew z))) rfl rfl (by kernel_rfl) (by kernel_rfl) (by kernel_rfl) (yl25 (.tmp 6) B 0 (ew z) (by kernel_rfl) rfl (by kernel_rfl) fun w h => (hB w h).r) hk ?_
              refine takeD 7 (some 77) (.pointer (some ⟨H, 9, none⟩)) rfl rfl (by kernel_rfl) (by kernel_rfl) (by kernel_rfl) (Or.inl ⟨by kernel_rfl, fun w hw => by kernel_rfl⟩) hk ?_
              refine takeD 8 (some 78) (.agg (a8 (ew y1))) rfl rfl (by kernel_rfl) (by kernel_rfl) (by kernel_rfl) (yl25 (.tmp 77) H 9 (ew y1) (by kernel_rfl) rfl (by kernel_rfl) fun w h => (hP w h).y8) hk ?_
              refine wpAnyH_ready (rs := [5]) (by kernel_rfl) (by simp) ?_
              refine stepGo 37 #[.agg (a8 (ew x1)), .agg (a8 (ew z))] (some 75) rfl rfl (by kernel_rfl) (by kernel_rfl) (e37 (a := x1) (b := z)) ?_ ?_
              · rintro e v1 ⟨za, hza, rfl, hj⟩
                have hn := hn.non hj
                have hk : Kp (at_ (H + 2) 0 17) wc v1 := kpW hn
                refine ⟨Ev za, rfl, hk, ?_⟩
                refine wpAnyH_ready (rs := [6]) (by kernel_rfl) (by simp) ?_
                refine stepGo 48 #[.agg (a8 (ew s)), Ev za] (some 76) rfl rfl (by kernel_rfl) (by kernel_rfl) (e48 (a := s) (b := za)) ?_ ?_
                · rintro e v2 ⟨zb, hzb, rfl, hj⟩
                  have hn := hn.non hj
                  have hk : Kp (at_ (H + 2) 0 17) wc v2 := kpW hn
                  refine ⟨Ev zb, rfl, hk, ?_⟩
                  refine wpAnyH_ready (rs := [9]) (by kernel_rfl) (by simp) ?_
                  refine stepGo 37 #[Ev zb, .agg (a8 (ew y1))] (some 79) rfl rfl (by kernel_rfl) (by kernel_rfl) (e37 (a := zb) (b := y1)) ?_ ?_
                  · rintro e v3 ⟨yy, hyy, rfl, hj⟩
                    have hn := hn.non hj
                    have hk : Kp (at_ (H + 2) 0 17) wc v3 := kpW hn
                    refine ⟨Ev yy, rfl, hk, ?_⟩
                    refine takeD 10 (some 80) (.agg (pl false (ew z) (ew yy)).toArray) rfl rfl (by kernel_rfl) (by kernel_rfl) (by kernel_rfl) (Or.inl ⟨by kernel_rfl, fun w hw => by kernel_rfl⟩) hk ?_
                    refine wpAnyH_ready (rs := [11]) (by kernel_rfl) (by simp) ?_
                    refine stepS27 (.tmp 4) (.tmp 80) (H + 2) false (ew z) (ew yy) rfl rfl (by kernel_rfl) rfl (by kernel_rfl) (by kernel_rfl) (vR.kp hn fun _ h => h) ?_ ?_
                    · intro v4 hj hr
                      have hk : Kp (at_ (H + 2) 0 17) wc v4 := (kpW hn).trans hj (fun _ _ _ h => h) (fun _ _ _ h => h)
                      have kk := kp_in (kv.non hn) hj (by omega)
                      refine ⟨hk, ?_⟩
                      refine wpAnyH_done (by kernel_rfl) ?_ _
                      refine NoPanic.normal ?_
                      simp only [Act.put, List.setIfInBounds_toArray, List.set_cons_zero, List.set_cons_succ]
                      go_wp2_with fail
                      refine bodyPost_ret (results27 rfl rfl hr) rfl ?_
                      have hy : yy = s * (x1 - z) - y1 := by rw [hyy.out, hzb.out, hza.out]
                      have e : (EC.Pt.aff x1 y1).sum (.aff x2 y2) = .aff z yy := by rw [EC.Pt.sum_chord hne, hy, hz, hs.out]
                      rw [e]
                      exact ⟨rfl, kk⟩
                    exact AllReadyH.nil
                  exact AllReadyH.nil
                exact AllReadyH.nil
              exact AllReadyH.nil
          exact AllReadyH.nil
        exact AllReadyH.nil
      exact AllReadyH.nil
    exact AllReadyH.nil
  exact AllReadyH.nil
theorem c43_tangent {w : World} {x1 y1 : EC.F} (hne : y1 ≠ 0) : Calls Try.prog 43 #[.agg (pl false (ew x1) (ew y1)).toArray, .agg (pl false (ew x1) (ew y1)).toArray] w (Pv01 ((EC.Pt.aff x1 y1).sum (.aff x1 y1)) w) := by
  have hd := decide_eq_false hne
  have hz := z27
  have k0 : Kp non w ((((w.alloc (.cells (pl false (ew x1) (ew y1)).toArray 27)).alloc (.cells (pl false (ew x1) (ew y1)).toArray 27)).alloc (.cells (pl false (fun _ => 0) fun _ => 0).toArray 27)).alloc (.cells (a8 fun _ => 0) 25)) := ((((Kp.refl _ w).alloc _).alloc _).alloc _).alloc _
  have h0 := (((Pl.new w 27 false (ew x1) (ew y1)).kp ((Kp.refl non _).alloc (.cells (pl false (ew x1) (ew y1)).toArray 27)) fun _ h => h).kp ((Kp.refl non _).alloc (.cells (pl false (fun _ => 0) fun _ => 0).toArray 27)) fun _ h => h).kp ((Kp.refl non _).alloc (.cells (a8 fun _ => 0) 25)) fun _ h => h
  have h1 := ((Pl.new (w.alloc (.cells (pl false (ew x1) (ew y1)).toArray 27)) 27 false (ew x1) (ew y1)).kp ((Kp.refl non _).alloc (.cells (pl false (fun _ => 0) fun _ => 0).toArray 27)) fun _ h => h).kp ((Kp.refl non _).alloc (.cells (a8 fun _ => 0) 25)) fun _ h => h
  have hR := (Pl.new ((w.alloc (.cells (pl false (ew x1) (ew y1)).toArray 27)).alloc (.cells (pl false (ew x1) (ew y1)).toArray 27)) 27 false (fun _ => 0) (fun _ => 0)).kp ((Kp.refl non _).alloc (.cells (a8 fun _ => 0) 25)) fun _ h => h
  have hE := Ws.new8 (((w.alloc (.cells (pl false (ew x1) (ew y1)).toArray 27)).alloc (.cells (pl false (ew x1) (ew y1)).toArray 27)).alloc (.cells (pl false (fun _ => 0) fun _ => 0).toArray 27)) 25 (fun _ => 0)
  simp only [size1] at h1 hR hE
  have c0 := ((Pl.new w 27 false (ew x1) (ew y1)).kp ((Kp.refl non _).alloc (.cells (pl false (ew x1) (ew y1)).toArray 27)) fun _ h => h).kp ((Kp.refl non _).alloc (.cells (pl false (fun _ => 0) fun _ => 0).toArray 27)) fun _ h => h
  have c1 := (Pl.new (w.alloc (.cells (pl false (ew x1) (ew y1)).toArray 27)) 27 false (ew x1) (ew y1)).kp ((Kp.refl non _).alloc (.cells (pl false (fun _ => 0) fun _ => 0).toArray 27)) fun _ h => h
  rw [size1] at c1
  replace c0 := c0.r 0 (.bool false) rfl
  replace c1 := c1.r 0 (.bool false) rfl
  rw [Nat.zero_add] at c0 c1
  have hpl : ¬ (pl false (fun _ => 0) fun _ => 0) = [] := by simp [pl]
  have d0 := h0.r 9 (.int .i64 (ew y1 0)) rfl
  have d1 := h0.r 10 (.int .i64 (ew y1 1)) rfl
  have d2 := h0.r 11 (.int .i64 (ew y1 2)) rfl
  have d3 := h0.r 12 (.int .i64 (ew y1 3)) rfl
  have d4 := h0.r 13 (.int .i64 (ew y1 4)) rfl
  have d5 := h0.r 14 (.int .i64 (ew y1 5)) rfl
  have d6 := h0.r 15 (.int .i64 (ew y1 6)) rfl
  have d7 := h0.r 16 (.int .i64 (ew y1 7)) rfl
  simp only [Nat.zero_add] at d0 d1 d2 d3 d4 d5 d6 d7
  have hq := eq8
  have hq0 := eq80
  go_enter Try.func43, Try.ntmps43
  go_wp2_with (first | (refine wpList_load25 rfl _ rfl w.heap.size 1 rfl (ew x1) h0.x8 ?_) | (refine wpList_load25 rfl _ rfl (w.heap.size + 1) 1 rfl (ew x1) h1.x8 ?_) | (refine wpList_load25 rfl _ rfl w.heap.size 9 rfl (ew y1) h0.y8 ?_) | (refine wpList_load25 rfl _ rfl (w.heap.size + 1) 9 rfl (ew y1) h1.y8 ?_))
  clear d0 d1 d2 d3 d4 d5 d6 d7
  generalize hHH : w.heap.size = H at *
  generalize ((((w.alloc (.cells (pl false (ew x1) (ew y1)).toArray 27)).alloc (.cells (pl false (ew x1) (ew y1)).toArray 27)).alloc (.cells (pl false (fun _ => 0) fun _ => 0).toArray 27)).alloc (.cells (a8 fun _ => 0) 25)) = W0 at *
  have hn : Kp non W0 W0.drew := (Kp.refl _ _).drew
  have hk : Kp (at_ (H + 3) 0 8) W0 W0.drew := kpW hn
  have hP : ∀ W, Kp (at_ (H + 3) 0 8) W0 W → Pl W H false (ew x1) (ew y1) := fun W hk => h0.kp hk fun _ h => by have := h.1; omega
  have hQ : ∀ W, Kp (at_ (H + 3) 0 8) W0 W → Pl W (H + 1) false (ew x1) (ew y1) := fun W hk => h1.kp hk fun _ h => by have := h.1; omega
  clear h0 h1 c0 c1 hq hq0 hd
  refine wp_region_noPanic ?_
  refine wp_region_held_drew (S := (fun w' => Kp (at_ (H + 3) 0 8) W0 w')) (by kernel_rfl) hk (fun hHeld => ?_)
  refine takeD 1 (some 15) (.pointer (some ⟨H, 1, none⟩)) rfl rfl (by kernel_rfl) (by kernel_rfl) (by kernel_rfl) (Or.inl ⟨by kernel_rfl, fun w hw => by kernel_rfl⟩) hk ?_
  refine takeD 2 (some 16) (.agg (a8 (ew x1))) rfl rfl (by kernel_rfl) (by kernel_rfl) (by kernel_rfl) (yl25 (.tmp 15) H 1 (ew x1) (by kernel_rfl) rfl (by kernel_rfl) fun w h => (hP w h).x8) hk ?_
  refine takeD 3 (some 17) (.pointer (some ⟨H, 1, none⟩)) rfl rfl (by kernel_rfl) (by kernel_rfl) (by kernel_rfl) (Or.inl ⟨by kernel_rfl, fun w hw => by kernel_rfl⟩) hk ?_
  refine takeD 4 (some 18) (.agg (a8 (ew x1))) rfl rfl (by kernel_rfl) (by kernel_rfl) (by kernel_rfl) (yl25 (.tmp 17) H 1 (ew x1) (by kernel_rfl) rfl (by kernel_rfl) fun w h => (hP w h).x8) hk ?_
  refine takeD 9 (some 23) (.pointer (some ⟨H, 9, none⟩)) rfl rfl (by kernel_rfl) (by kernel_rfl) (by kernel_rfl) (Or.inl ⟨by kernel_rfl, fun w hw => by kernel_rfl⟩) hk ?_
  refine takeD 10 (some 24) (.agg (a8 (ew y1))) rfl rfl (by kernel_rfl) (by kernel_rfl) (by kernel_rfl) (yl25 (.tmp 23) H 9 (ew y1) (by kernel_rfl) rfl (by kernel_rfl) fun w h => (hP w h).y8) hk ?_
  refine takeD 11 (some 25) (.pointer (some ⟨H, 9, none⟩)) rfl rfl (by kernel_rfl) (by kernel_rfl) (by kernel_rfl) (Or.inl ⟨by kernel_rfl, fun w hw => by kernel_rfl⟩) hk ?_
  refine takeD 12 (some 26) (.agg (a8 (ew y1))) rfl rfl (by kernel_rfl) (by kernel_rfl) (by kernel_rfl) (yl25 (.tmp 25) H 9 (ew y1) (by kernel_rfl) rfl (by kernel_rfl) fun w h => (hP w h).y8) hk ?_
  refine wpAnyH_ready (rs := [0]) (by kernel_rfl) (by simp) ?_
  refine stepGo 52 #[.int .i64 3] (some 14) rfl rfl (by kernel_rfl) (by kernel_rfl) e52 ?_ ?_
  · rintro e v1 ⟨za, hza, rfl, hj⟩
    have hn := hn.non hj
    have hk : Kp (at_ (H + 3) 0 8) W0 v1 := kpW hn
    refine ⟨Ev za, rfl, hk, ?_⟩
    refine wpAnyH_ready (rs := [5]) (by kernel_rfl) (by simp) ?_
    refine stepGo 48 #[.agg (a8 (ew x1)), .agg (a8 (ew x1))] (some 19) rfl rfl (by kernel_rfl) (by kernel_rfl) (e48 (a := x1) (b := x1)) ?_ ?_
    · rintro e v2 ⟨zb, hzb, rfl, hj⟩
      have hn := hn.non hj
      have hk : Kp (at_ (H + 3) 0 8) W0 v2 := kpW hn
      refine ⟨Ev zb, rfl, hk, ?_⟩
      refine wpAnyH_ready (rs := [6]) (by kernel_rfl) (by simp) ?_
      refine stepGo 48 #[Ev za, Ev zb] (some 20) rfl rfl (by kernel_rfl) (by kernel_rfl) (e48 (a := za) (b := zb)) ?_ ?_
      · rintro e v3 ⟨zc, hzc, rfl, hj⟩
        have hn := hn.non hj
        have hk : Kp (at_ (H + 3) 0 8) W0 v3 := kpW hn
        refine ⟨Ev zc, rfl, hk, ?_⟩
        refine wpAnyH_ready (rs := [7]) (by kernel_rfl) (by simp) ?_
        refine stepGo 52 #[.int .i64 3] (some 21) rfl rfl (by kernel_rfl) (by kernel_rfl) e52 ?_ ?_
        · rintro e v4 ⟨zd, hzd, rfl, hj⟩
          have hn := hn.non hj
          have hk : Kp (at_ (H + 3) 0 8) W0 v4 := kpW hn
          refine ⟨Ev zd, rfl, hk, ?_⟩
          refine wpAnyH_ready (rs := [8]) (by kernel_rfl) (by simp) ?_
          refine stepGo 37 #[Ev zc, Ev zd] (some 22) rfl rfl (by kernel_rfl) (by kernel_rfl) (e37 (a := zc) (b := zd)) ?_ ?_
          · rintro e v5 ⟨ze, hze, rfl, hj⟩
            have hn := hn.non hj
            have hk : Kp (at_ (H + 3) 0 8) W0 v5 := kpW hn
            refine ⟨Ev ze, rfl, hk, ?_⟩
            refine wpAnyH_ready (rs := [13]) (by kernel_rfl) (by simp) ?_
            refine stepGo 51 #[.agg (a8 (ew y1)), .agg (a8 (ew y1))] (some 27) rfl rfl (by kernel_rfl) (by kernel_rfl) (e51 (a := y1) (b := y1)) ?_ ?_
            · rintro e v6 ⟨zf, hzf, rfl, hj⟩
              have hn := hn.non hj
              have hk : Kp (at_ (H + 3) 0 8) W0 v6 := kpW hn
              refine ⟨Ev zf, rfl, hk, ?_⟩
              refine wpAnyH_ready (rs := [14]) (by kernel_rfl) (by simp) ?_
              refine stepGo 64 #[Ev zf] (some 28) rfl rfl (by kernel_rfl) (by kernel_rfl) (e64 (x := zf)) ?_ ?_
              · rintro e v7 ⟨zg, hzg, rfl, hj⟩
                have hn := hn.non hj
                have hk : Kp (at_ (H + 3) 0 8) W0 v7 := kpW hn
                refine ⟨Ev zg, rfl, hk, ?_⟩
                refine wpAnyH_ready (rs := [15]) (by kernel_rfl) (by simp) ?_
                refine stepGo 48 #[Ev ze, Ev zg] (some 29) rfl rfl (by kernel_rfl) (by kernel_rfl) (e48 (a := ze) (b := zg)) ?_ ?_
                · rintro e v8 ⟨s, hs, rfl, hj⟩
                  have hn := hn.non hj
                  have hk : Kp (at_ (H + 3) 0 8) W0 v8 := kpW hn
                  refine ⟨Ev s, rfl, hk, ?_⟩
                  refine wpAnyH_ready (rs := [16]) (by kernel_rfl) (by simp) ?_
                  refine stepS25 (.tmp 5) (.tmp 29) (H + 3) (ew s) rfl rfl (by kernel_rfl) rfl (by kernel_rfl) (by kernel_rfl) (hE.kp hn fun _ _ h => h) ?_ ?_
                  · intro v9 hj hE1
                    have hk : Kp (at_ (H + 3) 0 8) W0 v9 := (kpW hn).trans hj (fun _ _ _ h => h) (fun _ _ _ h => h)
                    refine ⟨hk, ?_⟩
                    refine wpAnyH_done (by kernel_rfl) ?_ _
                    refine NoPanic.normal ?_
                    simp only [Act.put, List.setIfInBounds_toArray, List.set_cons_zero, List.set_cons_succ]
                    go_wp2_with fail
                    replace hs := Lib.hid (show s = (3 * (x1 * x1) - 3) * EC.inv (y1 + y1) by rw [hs.out, hze.out, hzg.out, hzc.out, hzd.out, hzf.out, hza.out, hzb.out])
                    have kv : Kp non w v9 := kp_in k0 hk (by omega)
                    have vP := hP _ hk
                    have vQ := hQ _ hk
                    have vR : Pl v9 (H + 2) false (fun _ => 0) (fun _ => 0) := hR.kp hk fun _ h => by have := h.1; omega
                    have vE := hE1
                    have vH : H + 3 < v9.heap.size := (vE 0 (by omega)).lt
                    generalize v9 = V at kv vP vQ vR vE vH ⊢
                    clear hE1 hk hHeld hP hQ hR hE k0 hn
                    go_cut [6] from 61 to 69 (fun t6 wx => ∃ B z, t6 = pt B 0 ∧ Hid (z = s * s - x1 - x1 ∧ Kp non V wx ∧ V.heap.size ≤ B ∧ B < wx.heap.size ∧ Ws wx B 8 (ew z)))
                    case first =>
                      have hn : Kp non V V.drew := (Kp.refl _ _).drew
                      have hk := hn
                      have hP : ∀ W, Kp non V W → Pl W H false (ew x1) (ew y1) := fun W hk => vP.kp hk fun _ h => h
                      have hQ : ∀ W, Kp non V W → Pl W (H + 1) false (ew x1) (ew y1) := fun W hk => vQ.kp hk fun _ h => h
                      have hE : ∀ W, Kp non V W → Ws W (H + 3) 8 (ew s) := fun W hk => vE.kp hk fun _ _ h => h
                      refine wp_region_noPanic ?_
                      refine wp_region_held_drew (S := (fun w' => Kp non V w')) (by kernel_rfl) hk (fun hHeld => ?_)
                      refine takeD 0 (some 61) (.agg (a8 (ew s))) rfl rfl (by kernel_rfl) (by kernel_rfl) (by kernel_rfl) (yl25 (.tmp 5) (H + 3) 0 (ew s) (by kernel_rfl) rfl (by kernel_rfl) fun w h => (hE w h).r) hk ?_
                      refine takeD 1 (some 62) (.agg (a8 (ew s))) rfl rfl (by kernel_rfl) (by kernel_rfl) (by kernel_rfl) (yl25 (.tmp 5) (H + 3) 0 (ew s) (by kernel_rfl) rfl (by kernel_rfl) fun w h => (hE w h).r) hk ?_
                      refine takeD 3 (some 64) (.pointer (some ⟨H, 1, none⟩)) rfl rfl (by kernel_rfl) (by kernel_rfl) (by kernel_rfl) (Or.inl ⟨by kernel_rfl, fun w hw => by kernel_rfl⟩) hk ?_
                      refine takeD 4 (some 65) (.agg (a8 (ew x1))) rfl rfl (by kernel_rfl) (by kernel_rfl) (by kernel_rfl) (yl25 (.tmp 64) H 1 (ew x1) (by kernel_rfl) rfl (by kernel_rfl) fun w h => (hP w h).x8) hk ?_
                      refine takeD 6 (some 67) (.pointer (some ⟨H + 1, 1, none⟩)) rfl rfl (by kernel_rfl) (by kernel_rfl) (by kernel_rfl) (Or.inl ⟨by kernel_rfl, fun w hw => by kernel_rfl⟩) hk ?_
                      refine takeD 7 (some 68) (.agg (a8 (ew x1))) rfl rfl (by kernel_rfl) (by kernel_rfl) (by kernel_rfl) (yl25 (.tmp 67) (H + 1) 1 (ew x1) (by kernel_rfl) rfl (by kernel_rfl) fun w h => (hQ w h).x8) hk ?_
                      refine wpAnyH_ready (rs := [2, 9]) (by kernel_rfl) (by simp) ?_
                      refine stepGo 48 #[.agg (a8 (ew s)), .agg (a8 (ew s))] (some 63) rfl rfl (by kernel_rfl) (by kernel_rfl) (e48 (a := s) (b := s)) ?_ ?_
                      · rintro e v1 ⟨za, hza, rfl, hj⟩
                        have hn := hn.non hj
                        have hk := hn
                        refine ⟨Ev za, rfl, hk, ?_⟩
                        refine wpAnyH_ready (rs := [5, 9]) (by kernel_rfl) (by simp) ?_
                        refine stepGo 37 #[Ev za, .agg (a8 (ew x1))] (some 66) rfl rfl (by kernel_rfl) (by kernel_rfl) (e37 (a := za) (b := x1)) ?_ ?_
                        · rintro e v2 ⟨zb, hzb, rfl, hj⟩
                          have hn := hn.non hj
                          have hk := hn
                          refine ⟨Ev zb, rfl, hk, ?_⟩
                          refine wpAnyH_ready (rs := [8, 9]) (by kernel_rfl) (by simp) ?_
                          refine stepGo 37 #[Ev zb, .agg (a8 (ew x1))] (some 69) rfl rfl (by kernel_rfl) (by kernel_rfl) (e37 (a := zb) (b := x1)) ?_ ?_
                          · rintro e v3 ⟨z, hz, rfl, hj⟩
                            have hn := hn.non hj
                            have hk := hn
                            refine ⟨Ev z, rfl, hk, ?_⟩
                            refine wpAnyH_ready (rs := [9]) (by kernel_rfl) (by simp) ?_
                            refine stepA25 (some 6) rfl rfl (by kernel_rfl) (by kernel_rfl) ?_ ?_
                            · intro B v4 lB mB hj hB
                              have hks := hn.size
                              have hn := hn.non hj
                              have hk := hn
                              replace lB := Nat.le_trans hks lB
                              refine ⟨hk, ?_⟩
                              refine wpAnyH_ready (rs := [10]) (by kernel_rfl) (by simp) ?_
                              refine stepS25 (.tmp 6) (.tmp 69) B (ew z) rfl rfl (by kernel_rfl) rfl (by kernel_rfl) (by kernel_rfl) hB ?_ ?_
                              · intro v5 hj hB
                                have hn := kp_in hn hj lB
                                have hk := hn
                                refine ⟨hk, ?_⟩
                                refine wpAnyH_done (by kernel_rfl) ?_ _
                                refine NoPanic.normal ?_
                                simp only [Act.put, List.setIfInBounds_toArray, List.set_cons_zero, List.set_cons_succ]
                                go_wp2_with fail
                                go_meet
                                case rel => exact ⟨_, z, rfl, Lib.hid ⟨by rw [hz.out, hzb.out, hza.out], hn, lB, (hB 0 (by omega)).lt, hB⟩⟩
                              exact AllReadyH.nil
                            exact AllReadyH.nil
                          refine stepA25 (some 6) rfl rfl (by kernel_rfl) (by kernel_rfl) ?_ ?_
                          · intro B v3 lB mB hj hB
                            have hks := hn.size
                            have hn := hn.non hj
                            have hk := hn
                            replace lB := Nat.le_trans hks lB
                            refine ⟨hk, ?_⟩
                            refine wpAnyH_ready (rs := [8]) (by kernel_rfl) (by simp) ?_
                            refine stepGo 37 #[Ev zb, .agg (a8 (ew x1))] (some 69) rfl rfl (by kernel_rfl) (by kernel_rfl) (e37 (a := zb) (b := x1)) ?_ ?_
                            · rintro e v4 ⟨z, hz, rfl, hj⟩
                              have hn := hn.non hj
                              have hk := hn
                              replace hB := hB.kp hj fun _ _ h => h
                              refine ⟨Ev z, rfl, hk, ?_⟩
                              refine wpAnyH_ready (rs := [10]) (by kernel_rfl) (by simp) ?_
                              refine stepS25 (.tmp 6) (.tmp 69) B (ew z) rfl rfl (by kernel_rfl) rfl (by kernel_rfl) (by kernel_rfl) hB ?_ ?_
                              · intro v5 hj hB
                                have hn := kp_in hn hj lB
                                have hk := hn
                                refine ⟨hk, ?_⟩
                                refine wpAnyH_done (by kernel_rfl) ?_ _
                                refine NoPanic.normal ?_
                                simp only [Act.put, List.setIfInBounds_toArray, List.set_cons_zero, List.set_cons_succ]
                                go_wp2_with fail
                                go_meet
                                case rel => exact ⟨_, z, rfl, Lib.hid ⟨by rw [hz.out, hzb.out, hza.out], hn, lB, (hB 0 (by omega)).lt, hB⟩⟩
                              exact AllReadyH.nil
                            exact AllReadyH.nil
                          exact AllReadyH.nil
                        refine stepA25 (some 6) rfl rfl (by kernel_rfl) (by kernel_rfl) ?_ ?_
                        · intro B v2 lB mB hj hB
                          have hks := hn.size
                          have hn := hn.non hj
                          have hk := hn
                          replace lB := Nat.le_trans hks lB
                          refine ⟨hk, ?_⟩
                          refine wpAnyH_ready (rs := [5]) (by kernel_rfl) (by simp) ?_
                          refine stepGo 37 #[Ev za, .agg (a8 (ew x1))] (some 66) rfl rfl (by kernel_rfl) (by kernel_rfl) (e37 (a := za) (b := x1)) ?_ ?_
                          · rintro e v3 ⟨zb, hzb, rfl, hj⟩
                            have hn := hn.non hj
                            have hk := hn
                            replace hB := hB.kp hj fun _ _ h => h
                            refine ⟨Ev zb, rfl, hk, ?_⟩
                            refine wpAnyH_ready (rs := [8]) (by kernel_rfl) (by simp) ?_
                            refine stepGo 37 #[Ev zb, .agg (a8 (ew x1))] (some 69) rfl rfl (by kernel_rfl) (by kernel_rfl) (e37 (a := zb) (b := x1)) ?_ ?_
                            · rintro e v4 ⟨z, hz, rfl, hj⟩
                              have hn := hn.non hj
                              have hk := hn
                              replace hB := hB.kp hj fun _ _ h => h
                              refine ⟨Ev z, rfl, hk, ?_⟩
                              refine wpAnyH_ready (rs := [10]) (by kernel_rfl) (by simp) ?_
                              refine stepS25 (.tmp 6) (.tmp 69) B (ew z) rfl rfl (by kernel_rfl) rfl (by kernel_rfl) (by kernel_rfl) hB ?_ ?_
                              · intro v5 hj hB
                                have hn := kp_in hn hj lB
                                have hk := hn
                                refine ⟨hk, ?_⟩
                                refine wpAnyH_done (by kernel_rfl) ?_ _
                                refine NoPanic.normal ?_
                                simp only [Act.put, List.setIfInBounds_toArray, List.set_cons_zero, List.set_cons_succ]
                                go_wp2_with fail
                                go_meet
                                case rel => exact ⟨_, z, rfl, Lib.hid ⟨by rw [hz.out, hzb.out, hza.out], hn, lB, (hB 0 (by omega)).lt, hB⟩⟩
                              exact AllReadyH.nil
                            exact AllReadyH.nil
                          exact AllReadyH.nil
                        exact AllReadyH.nil
                      refine stepA25 (some 6) rfl rfl (by kernel_rfl) (by kernel_rfl) ?_ ?_
                      · intro B v1 lB mB hj hB
                        have hks := hn.size
                        have hn := hn.non hj
                        have hk := hn
                        replace lB := Nat.le_trans hks lB
                        refine ⟨hk, ?_⟩
                        refine wpAnyH_ready (rs := [2]) (by kernel_rfl) (by simp) ?_
                        refine stepGo 48 #[.agg (a8 (ew s)), .agg (a8 (ew s))] (some 63) rfl rfl (by kernel_rfl) (by kernel_rfl) (e48 (a := s) (b := s)) ?_ ?_
                        · rintro e v2 ⟨za, hza, rfl, hj⟩
                          have hn := hn.non hj
                          have hk := hn
                          replace hB := hB.kp hj fun _ _ h => h
                          refine ⟨Ev za, rfl, hk, ?_⟩
                          refine wpAnyH_ready (rs := [5]) (by kernel_rfl) (by simp) ?_
                          refine stepGo 37 #[Ev za, .agg (a8 (ew x1))] (some 66) rfl rfl (by kernel_rfl) (by kernel_rfl) (e37 (a := za) (b := x1)) ?_ ?_
                          · rintro e v3 ⟨zb, hzb, rfl, hj⟩
                            have hn := hn.non hj
                            have hk := hn
                            replace hB := hB.kp hj fun _ _ h => h
                            refine ⟨Ev zb, rfl, hk, ?_⟩
                            refine wpAnyH_ready (rs := [8]) (by kernel_rfl) (by simp) ?_
                            refine stepGo 37 #[Ev zb, .agg (a8 (ew x1))] (some 69) rfl rfl (by kernel_rfl) (by kernel_rfl) (e37 (a := zb) (b := x1)) ?_ ?_
                            · rintro e v4 ⟨z, hz, rfl, hj⟩
                              have hn := hn.non hj
                              have hk := hn
                              replace hB := hB.kp hj fun _ _ h => h
                              refine ⟨Ev z, rfl, hk, ?_⟩
                              refine wpAnyH_ready (rs := [10]) (by kernel_rfl) (by simp) ?_
                              refine stepS25 (.tmp 6) (.tmp 69) B (ew z) rfl rfl (by kernel_rfl) rfl (by kernel_rfl) (by kernel_rfl) hB ?_ ?_
                              · intro v5 hj hB
                                have hn := kp_in hn hj lB
                                have hk := hn
                                refine ⟨hk, ?_⟩
                                refine wpAnyH_done (by kernel_rfl) ?_ _
                                refine NoPanic.normal ?_
                                simp only [Act.put, List.setIfInBounds_toArray, List.set_cons_zero, List.set_cons_succ]
                                go_wp2_with fail
                                go_meet
                                case rel => exact ⟨_, z, rfl, Lib.hid ⟨by rw [hz.out, hzb.out, hza.out], hn, lB, (hB 0 (by omega)).lt, hB⟩⟩
                              exact AllReadyH.nil
                            exact AllReadyH.nil
                          exact AllReadyH.nil
                        exact AllReadyH.nil
                      exact AllReadyH.nil
                    case rest =>
                      obtain ⟨B, z, rfl, hh⟩ := hcut
                      obtain ⟨hz, hkc, lB, mB, hB0⟩ := hh.out
                      replace kv := kv.non hkc
                      replace vP := vP.kp hkc fun _ h => h
                      replace vQ := vQ.kp hkc fun _ h => h
                      replace vR := vR.kp hkc fun _ h => h
                      replace vE := vE.kp hkc fun _ _ h => h
                      have hBne : B ≠ H + 2 := by omega
                      clear hh hkc lB mB
                      go_wp2_with fail
                      have hn : Kp non wc wc.drew := (Kp.refl _ _).drew
                      have hk : Kp (at_ (H + 2) 0 17) wc wc.drew := kpW hn
                      have hP : ∀ W, Kp (at_ (H + 2) 0 17) wc W → Pl W H false (ew x1) (ew y1) := fun W hk => vP.kp hk fun _ h => by have := h.1; omega
                      have hE : ∀ W, Kp (at_ (H + 2) 0 17) wc W → Ws W (H + 3) 8 (ew s) := fun W hk => vE.kp hk fun _ _ h => by have := h.1; omega
                      have hB : ∀ W, Kp (at_ (H + 2) 0 17) wc W → Ws W B 8 (ew z) := fun W hk => hB0.kp hk fun _ _ h => hBne h.1
                      refine wp_region_noPanic ?_
                      refine wp_region_held_drew (S := (fun w' => Kp (at_ (H + 2) 0 17) wc w')) (by kernel_rfl) hk (fun hHeld => ?_)
                      refine takeD 0 (some 70) (.agg (a8 (ew z))) rfl rfl (by kernel_rfl) (by kernel_rfl) (by kernel_rfl) (yl25 (.tmp 6) B 0 (ew z) (by kernel_rfl) rfl (by kernel_rfl) fun w h => (hB w h).r) hk ?_
                      refine takeD 1 (some 71) (.agg (a8 (ew s))) rfl rfl (by kernel_rfl) (by kernel_rfl) (by kernel_rfl) (yl25 (.tmp 5) (H + 3) 0 (ew s) (by kernel_rfl) rfl (by kernel_rfl) fun w h => (hE w h).r) hk ?_
                      refine takeD 2 (some 72) (.pointer (some ⟨H, 1, none⟩)) rfl rfl (by kernel_rfl) (by kernel_rfl) (by kernel_rfl) (Or.inl ⟨by kernel_rfl, fun w hw => by kernel_rfl⟩) hk ?_
                      refine takeD 3 (some 73) (.agg (a8 (ew x1))) rfl rfl (by kernel_rfl) (by kernel_rfl) (by kernel_rfl) (yl25 (.tmp 72) H 1 (ew x1) (by kernel_rfl) rfl (by kernel_rfl) fun w h => (hP w h).x8) hk ?_
                      refine takeD 4 (some 74) (.agg (a8 (ew z))) rfl rfl (by kernel_rfl) (by kernel_rfl) (by kernel_rfl) (yl25 (.tmp 6) B 0 (ew z) (by kernel_rfl) rfl (by kernel_rfl) fun w h => (hB w h).r) hk ?_
                      refine takeD 7 (some 77) (.pointer (some ⟨H, 9, none⟩)) rfl rfl (by kernel_rfl) (by kernel_rfl) (by kernel_rfl) (Or.inl ⟨by kernel_rfl, fun w hw => by kernel_rfl⟩) hk ?_
                      refine takeD 8 (some 78) (.agg (a8 (ew y1))) rfl rfl (by kernel_rfl) (by kernel_rfl) (by kernel_rfl) (yl25 (.tmp 77) H 9 (ew y1) (by kernel_rfl) rfl (by kernel_rfl) fun w h => (hP w h).y8) hk ?_
                      refine wpAnyH_ready (rs := [5]) (by kernel_rfl) (by simp) ?_
                      refine stepGo 37 #[.agg (a8 (ew x1)), .agg (a8 (ew z))] (some 75) rfl rfl (by kernel_rfl) (by kernel_rfl) (e37 (a := x1) (b := z)) ?_ ?_
                      · rintro e v1 ⟨za, hza, rfl, hj⟩
                        have hn := hn.non hj
                        have hk : Kp (at_ (H + 2) 0 17) wc v1 := kpW hn
                        refine ⟨Ev za, rfl, hk, ?_⟩
                        refine wpAnyH_ready (rs := [6]) (by kernel_rfl) (by simp) ?_
                        refine stepGo 48 #[.agg (a8 (ew s)), Ev za] (some 76) rfl rfl (by kernel_rfl) (by kernel_rfl) (e48 (a := s) (b := za)) ?_ ?_
                        · rintro e v2 ⟨zb, hzb, rfl, hj⟩
                          have hn := hn.non hj
                          have hk : Kp (at_ (H + 2) 0 17) wc v2 := kpW hn
                          refine ⟨Ev zb, rfl, hk, ?_⟩
                          refine wpAnyH_ready (rs := [9]) (by kernel_rfl) (by simp) ?_
                          refine stepGo 37 #[Ev zb, .agg (a8 (ew y1))] (some 79) rfl rfl (by kernel_rfl) (by kernel_rfl) (e37 (a := zb) (b := y1)) ?_ ?_
                          · rintro e v3 ⟨yy, hyy, rfl, hj⟩
                            have hn := hn.non hj
                            have hk : Kp (at_ (H + 2) 0 17) wc v3 := kpW hn
                            refine ⟨Ev yy, rfl, hk, ?_⟩
                            refine takeD 10 (some 80) (.agg (pl false (ew z) (ew yy)).toArray) rfl rfl (by kernel_rfl) (by kernel_rfl) (by kernel_rfl) (Or.inl ⟨by kernel_rfl, fun w hw => by kernel_rfl⟩) hk ?_
                            refine wpAnyH_ready (rs := [11]) (by kernel_rfl) (by simp) ?_
                            refine stepS27 (.tmp 4) (.tmp 80) (H + 2) false (ew z) (ew yy) rfl rfl (by kernel_rfl) rfl (by kernel_rfl) (by kernel_rfl) (vR.kp hn fun _ h => h) ?_ ?_
                            · intro v4 hj hr
                              have hk : Kp (at_ (H + 2) 0 17) wc v4 := (kpW hn).trans hj (fun _ _ _ h => h) (fun _ _ _ h => h)
                              have kk := kp_in (kv.non hn) hj (by omega)
                              refine ⟨hk, ?_⟩
                              refine wpAnyH_done (by kernel_rfl) ?_ _
                              refine NoPanic.normal ?_
                              simp only [Act.put, List.setIfInBounds_toArray, List.set_cons_zero, List.set_cons_succ]
                              go_wp2_with fail
                              refine bodyPost_ret (results27 rfl rfl hr) rfl ?_
                              have hy : yy = s * (x1 - z) - y1 := by rw [hyy.out, hzb.out, hza.out]
                              have e : (EC.Pt.aff x1 y1).sum (.aff x1 y1) = .aff z yy := by rw [EC.Pt.sum_tangent hne, hy, hz, hs.out]
                              rw [e]
                              exact ⟨rfl, kk⟩
                            exact AllReadyH.nil
                          exact AllReadyH.nil
                        exact AllReadyH.nil
                      exact AllReadyH.nil
                  exact AllReadyH.nil
                exact AllReadyH.nil
              exact AllReadyH.nil
            exact AllReadyH.nil
          exact AllReadyH.nil
        exact AllReadyH.nil
      exact AllReadyH.nil
    exact AllReadyH.nil
  exact AllReadyH.nil
/-- Nothing is in the middle: the points lie on one vertical line. -/
theorem c43_opp {w : World} {x1 y1 y2 : EC.F} (hne : y1 ≠ y2) : Calls Try.prog 43 #[.agg (pl false (ew x1) (ew y1)).toArray, .agg (pl false (ew x1) (ew y2)).toArray] w (Pv01 .far w) := by
  have hd := decide_eq_false hne
  have hz := z27
  have k0 : Kp non w ((((w.alloc (.cells (pl false (ew x1) (ew y1)).toArray 27)).alloc (.cells (pl false (ew x1) (ew y2)).toArray 27)).alloc (.cells (pl false (fun _ => 0) fun _ => 0).toArray 27)).alloc (.cells (a8 fun _ => 0) 25)) := ((((Kp.refl _ w).alloc _).alloc _).alloc _).alloc _
  have h0 := (((Pl.new w 27 false (ew x1) (ew y1)).kp ((Kp.refl non _).alloc (.cells (pl false (ew x1) (ew y2)).toArray 27)) fun _ h => h).kp ((Kp.refl non _).alloc (.cells (pl false (fun _ => 0) fun _ => 0).toArray 27)) fun _ h => h).kp ((Kp.refl non _).alloc (.cells (a8 fun _ => 0) 25)) fun _ h => h
  have h1 := ((Pl.new (w.alloc (.cells (pl false (ew x1) (ew y1)).toArray 27)) 27 false (ew x1) (ew y2)).kp ((Kp.refl non _).alloc (.cells (pl false (fun _ => 0) fun _ => 0).toArray 27)) fun _ h => h).kp ((Kp.refl non _).alloc (.cells (a8 fun _ => 0) 25)) fun _ h => h
  have hR := (Pl.new ((w.alloc (.cells (pl false (ew x1) (ew y1)).toArray 27)).alloc (.cells (pl false (ew x1) (ew y2)).toArray 27)) 27 false (fun _ => 0) (fun _ => 0)).kp ((Kp.refl non _).alloc (.cells (a8 fun _ => 0) 25)) fun _ h => h
  have hE := Ws.new8 (((w.alloc (.cells (pl false (ew x1) (ew y1)).toArray 27)).alloc (.cells (pl false (ew x1) (ew y2)).toArray 27)).alloc (.cells (pl false (fun _ => 0) fun _ => 0).toArray 27)) 25 (fun _ => 0)
  simp only [size1] at h1 hR hE
  have c0 := ((Pl.new w 27 false (ew x1) (ew y1)).kp ((Kp.refl non _).alloc (.cells (pl false (ew x1) (ew y2)).toArray 27)) fun _ h => h).kp ((Kp.refl non _).alloc (.cells (pl false (fun _ => 0) fun _ => 0).toArray 27)) fun _ h => h
  have c1 := (Pl.new (w.alloc (.cells (pl false (ew x1) (ew y1)).toArray 27)) 27 false (ew x1) (ew y2)).kp ((Kp.refl non _).alloc (.cells (pl false (fun _ => 0) fun _ => 0).toArray 27)) fun _ h => h
  rw [size1] at c1
  replace c0 := c0.r 0 (.bool false) rfl
  replace c1 := c1.r 0 (.bool false) rfl
  rw [Nat.zero_add] at c0 c1
  have hpl : ¬ (pl false (fun _ => 0) fun _ => 0) = [] := by simp [pl]
  have hq := eq8
  have hq0 := eq80
  go_enter Try.func43, Try.ntmps43
  go_wp2_with (first | (refine wpList_load25 rfl _ rfl w.heap.size 1 rfl (ew x1) h0.x8 ?_) | (refine wpList_load25 rfl _ rfl (w.heap.size + 1) 1 rfl (ew x1) h1.x8 ?_) | (refine wpList_load25 rfl _ rfl w.heap.size 9 rfl (ew y1) h0.y8 ?_) | (refine wpList_load25 rfl _ rfl (w.heap.size + 1) 9 rfl (ew y2) h1.y8 ?_) | (refine wpList_storeP rfl _ _ rfl (w.heap.size + 1 + 1) true (fun _ => 0) (fun _ => 0) rfl rfl hR ?_; intro W kW hW))
  refine bodyPost_ret (results27 rfl rfl hW) rfl ?_
  exact ⟨rfl, kp_in k0 kW (by omega)⟩
theorem c43_zero {w : World} {x1 y1 : EC.F} (hy : y1 = 0) : Calls Try.prog 43 #[.agg (pl false (ew x1) (ew y1)).toArray, .agg (pl false (ew x1) (ew y1)).toArray] w (Pv01 .far w) := by
  have hd := decide_eq_true hy
  clear hy
  have hz := z27
  have k0 : Kp non w ((((w.alloc (.cells (pl false (ew x1) (ew y1)).toArray 27)).alloc (.cells (pl false (ew x1) (ew y1)).toArray 27)).alloc (.cells (pl false (fun _ => 0) fun _ => 0).toArray 27)).alloc (.cells (a8 fun _ => 0) 25)) := ((((Kp.refl _ w).alloc _).alloc _).alloc _).alloc _
  have h0 := (((Pl.new w 27 false (ew x1) (ew y1)).kp ((Kp.refl non _).alloc (.cells (pl false (ew x1) (ew y1)).toArray 27)) fun _ h => h).kp ((Kp.refl non _).alloc (.cells (pl false (fun _ => 0) fun _ => 0).toArray 27)) fun _ h => h).kp ((Kp.refl non _).alloc (.cells (a8 fun _ => 0) 25)) fun _ h => h
  have h1 := ((Pl.new (w.alloc (.cells (pl false (ew x1) (ew y1)).toArray 27)) 27 false (ew x1) (ew y1)).kp ((Kp.refl non _).alloc (.cells (pl false (fun _ => 0) fun _ => 0).toArray 27)) fun _ h => h).kp ((Kp.refl non _).alloc (.cells (a8 fun _ => 0) 25)) fun _ h => h
  have hR := (Pl.new ((w.alloc (.cells (pl false (ew x1) (ew y1)).toArray 27)).alloc (.cells (pl false (ew x1) (ew y1)).toArray 27)) 27 false (fun _ => 0) (fun _ => 0)).kp ((Kp.refl non _).alloc (.cells (a8 fun _ => 0) 25)) fun _ h => h
  have hE := Ws.new8 (((w.alloc (.cells (pl false (ew x1) (ew y1)).toArray 27)).alloc (.cells (pl false (ew x1) (ew y1)).toArray 27)).alloc (.cells (pl false (fun _ => 0) fun _ => 0).toArray 27)) 25 (fun _ => 0)
  simp only [size1] at h1 hR hE
  have c0 := ((Pl.new w 27 false (ew x1) (ew y1)).kp ((Kp.refl non _).alloc (.cells (pl false (ew x1) (ew y1)).toArray 27)) fun _ h => h).kp ((Kp.refl non _).alloc (.cells (pl false (fun _ => 0) fun _ => 0).toArray 27)) fun _ h => h
  have c1 := (Pl.new (w.alloc (.cells (pl false (ew x1) (ew y1)).toArray 27)) 27 false (ew x1) (ew y1)).kp ((Kp.refl non _).alloc (.cells (pl false (fun _ => 0) fun _ => 0).toArray 27)) fun _ h => h
  rw [size1] at c1
  replace c0 := c0.r 0 (.bool false) rfl
  replace c1 := c1.r 0 (.bool false) rfl
  rw [Nat.zero_add] at c0 c1
  have hpl : ¬ (pl false (fun _ => 0) fun _ => 0) = [] := by simp [pl]
  have d0 := h0.r 9 (.int .i64 (ew y1 0)) rfl
  have d1 := h0.r 10 (.int .i64 (ew y1 1)) rfl
  have d2 := h0.r 11 (.int .i64 (ew y1 2)) rfl
  have d3 := h0.r 12 (.int .i64 (ew y1 3)) rfl
  have d4 := h0.r 13 (.int .i64 (ew y1 4)) rfl
  have d5 := h0.r 14 (.int .i64 (ew y1 5)) rfl
  have d6 := h0.r 15 (.int .i64 (ew y1 6)) rfl
  have d7 := h0.r 16 (.int .i64 (ew y1 7)) rfl
  simp only [Nat.zero_add] at d0 d1 d2 d3 d4 d5 d6 d7
  have hq := eq8
  have hq0 := eq80
  go_enter Try.func43, Try.ntmps43
  go_wp2_with (first | (refine wpList_load25 rfl _ rfl w.heap.size 1 rfl (ew x1) h0.x8 ?_) | (refine wpList_load25 rfl _ rfl (w.heap.size + 1) 1 rfl (ew x1) h1.x8 ?_) | (refine wpList_load25 rfl _ rfl w.heap.size 9 rfl (ew y1) h0.y8 ?_) | (refine wpList_load25 rfl _ rfl (w.heap.size + 1) 9 rfl (ew y1) h1.y8 ?_) | (refine wpList_storeP rfl _ _ rfl (w.heap.size + 1 + 1) true (fun _ => 0) (fun _ => 0) rfl rfl hR ?_; intro W kW hW))
  refine bodyPost_ret (results27 rfl rfl hW) rfl ?_
  exact ⟨rfl, kp_in k0 kW (by omega)⟩
theorem c43_fl {w : World} {fr : Bool} {x y x1 y1 : Nat → Int} : Calls Try.prog 43 #[.agg (pl true x1 y1).toArray, .agg (pl fr x y).toArray] w fun e w' => e = .returned (.agg (pl fr x y).toArray) ∧ Kp non w w' := by
  have hz := z27
  have k0 : Kp non w (((w.alloc (.cells (pl true x1 y1).toArray 27)).alloc (.cells (pl fr x y).toArray 27)).alloc (.cells (pl false (fun _ => 0) fun _ => 0).toArray 27)) := (((Kp.refl _ w).alloc _).alloc _).alloc _
  have h0 := ((Pl.new w 27 true x1 y1).kp ((Kp.refl non _).alloc (.cells (pl fr x y).toArray 27)) fun _ h => h).kp ((Kp.refl non _).alloc (.cells (pl false (fun _ => 0) fun _ => 0).toArray 27)) fun _ h => h
  have h1 := (Pl.new (w.alloc (.cells (pl true x1 y1).toArray 27)) 27 fr x y).kp ((Kp.refl non _).alloc (.cells (pl false (fun _ => 0) fun _ => 0).toArray 27)) fun _ h => h
  have hR := Pl.new ((w.alloc (.cells (pl true x1 y1).toArray 27)).alloc (.cells (pl fr x y).toArray 27)) 27 false (fun _ => 0) (fun _ => 0)
  simp only [size1] at h1 hR
  have c0 := h0.r 0 (.bool true) rfl
  rw [Nat.zero_add] at c0
  go_enter Try.func43, Try.ntmps43
  go_wp2_with (first | (refine wpList_load27 rfl _ rfl (w.heap.size + 1) rfl _ _ _ h1 ?_) | (refine wpList_storeP rfl _ _ rfl (w.heap.size + 1 + 1) fr x y rfl rfl hR ?_; intro W kW hW))
  refine bodyPost_ret (results27 rfl rfl hW) rfl ?_
  exact ⟨rfl, kp_in k0 kW (by omega)⟩
theorem c43_lf {w : World} {x y x1 y1 : Nat → Int} : Calls Try.prog 43 #[.agg (pl false x y).toArray, .agg (pl true x1 y1).toArray] w fun e w' => e = .returned (.agg (pl false x y).toArray) ∧ Kp non w w' := by
  have hz := z27
  have k0 : Kp non w (((w.alloc (.cells (pl false x y).toArray 27)).alloc (.cells (pl true x1 y1).toArray 27)).alloc (.cells (pl false (fun _ => 0) fun _ => 0).toArray 27)) := (((Kp.refl _ w).alloc _).alloc _).alloc _
  have h0 := ((Pl.new w 27 false x y).kp ((Kp.refl non _).alloc (.cells (pl true x1 y1).toArray 27)) fun _ h => h).kp ((Kp.refl non _).alloc (.cells (pl false (fun _ => 0) fun _ => 0).toArray 27)) fun _ h => h
  have h1 := (Pl.new (w.alloc (.cells (pl false x y).toArray 27)) 27 true x1 y1).kp ((Kp.refl non _).alloc (.cells (pl false (fun _ => 0) fun _ => 0).toArray 27)) fun _ h => h
  have hR := Pl.new ((w.alloc (.cells (pl false x y).toArray 27)).alloc (.cells (pl true x1 y1).toArray 27)) 27 false (fun _ => 0) (fun _ => 0)
  simp only [size1] at h1 hR
  have c0 := h0.r 0 (.bool false) rfl
  have c1 := h1.r 0 (.bool true) rfl
  rw [Nat.zero_add] at c0 c1
  go_enter Try.func43, Try.ntmps43
  go_wp2_with (first | (refine wpList_load27 rfl _ rfl w.heap.size rfl _ _ _ h0 ?_) | (refine wpList_storeP rfl _ _ rfl (w.heap.size + 1 + 1) false x y rfl rfl hR ?_; intro W kW hW))
  refine bodyPost_ret (results27 rfl rfl hW) rfl ?_
  exact ⟨rfl, kp_in k0 kW (by omega)⟩
/-- spec.Sum. -/
theorem c43 {w : World} {P Q : EC.Pt} : Calls Try.prog 43 #[.agg (pvL P).toArray, .agg (pvL Q).toArray] w (Pv01 (P.sum Q) w) := by
  cases P with
  | far =>
    obtain ⟨fr, x, y, e⟩ : ∃ fr x y, pvL Q = pl fr x y := by
      cases Q with
      | far => exact ⟨true, fun _ => 0, fun _ => 0, rfl⟩
      | aff x y => exact ⟨false, ew x, ew y, rfl⟩
    rw [EC.Pt.far_sum]
    show Calls Try.prog 43 #[.agg (pl true (fun _ => 0) fun _ => 0).toArray, .agg (pvL Q).toArray] w _
    rw [e]
    exact (c43_fl (w := w) (fr := fr) (x := x) (y := y) (x1 := fun _ => 0) (y1 := fun _ => 0)).mono fun _ _ h => ⟨by rw [h.1, e], h.2⟩
  | aff x1 y1 =>
    cases Q with
    | far =>
      show Calls Try.prog 43 #[.agg (pl false (ew x1) (ew y1)).toArray, .agg (pl true (fun _ => 0) fun _ => 0).toArray] w _
      exact (c43_lf (w := w) (x := ew x1) (y := ew y1) (x1 := fun _ => 0) (y1 := fun _ => 0)).mono fun _ _ h => ⟨h.1, h.2⟩
    | aff x2 y2 =>
      by_cases hx : x1 = x2
      · subst hx
        by_cases hy : y1 = y2
        · subst hy
          by_cases h0 : y1 = 0
          · have e : (EC.Pt.aff x1 y1).sum (.aff x1 y1) = .far := by
              simp only [EC.Pt.sum]; rw [if_neg (fun h => h rfl), if_pos (.inr h0)]
            rw [e]
            exact c43_zero h0
          · show Calls Try.prog 43 #[.agg (pl false (ew x1) (ew y1)).toArray, .agg (pl false (ew x1) (ew y1)).toArray] w _
            exact c43_tangent h0
        · rw [EC.Pt.sum_opp hy]
          exact c43_opp hy
      · exact c43_chord hx
end Go.Proofs.Ytjdjhccefnffmaa
