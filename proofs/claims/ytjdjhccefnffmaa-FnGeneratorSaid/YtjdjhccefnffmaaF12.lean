import Derived.Test.YtjdjhccefnffmaaFC
set_option linter.unusedVariables false
set_option linter.unusedSimpArgs false
set_option maxRecDepth 100000
set_option maxHeartbeats 4000000
namespace Go.Proofs.Ytjdjhccefnffmaa
open Go LX Go.RowKit
theorem f12 {w : World} {k : Nat} (hk8 : k < 256) : Calls Try.prog 12 #[.int .u8 (k : Int)] w (Tru w) := by
  have hz := z27
  have hzv := z23
  have k0 : Kp non w w := Kp.refl _ _
  obtain ⟨fr, x, y, e⟩ := pvL_pl EC.Pt.G
  replace e := Lib.hid e
  obtain ⟨r, hr⟩ : ∃ r, r = k % 4 := ⟨_, rfl⟩
  have r4 : r < 4 := by omega
  have hrem : (k : Int).tmod 4 = (r : Int) := by rw [Int.tmod_eq_emod_of_nonneg (by omega)]; omega
  have hw8 : IntKind.u8.wrap (81 + (r : Int)) = 81 + (r : Int) := by rw [IntKind.wrap_u8]; omega
  have hw9 : IntKind.u8.wrap (r : Int) = (r : Int) := by rw [IntKind.wrap_u8]; omega
  obtain ⟨hN1, hN31, hNlt⟩ := beNr r r4
  replace hN1 := Lib.hid hN1
  replace hN31 := Lib.hid hN31
  replace hNlt := Lib.hid hNlt
  clear hr
  go_enter Try.func12, Try.ntmps12
  go_wp2_with fail
  refine (c28v e.out).mono ?_
  rintro e' w1 ⟨rfl, hk⟩
  replace k0 := k0.non hk
  have k1 := k0.alloc (.cells (pl false (fun _ => 0) fun _ => 0).toArray 27)
  have h1 := Pl.new w1 27 false (fun _ => 0) fun _ => 0
  have l1 := k0.size
  clear hk
  go_wp2_with (refine wpList_storeP rfl _ _ rfl w1.heap.size fr x y rfl rfl h1 ?_; intro W kW hW)
  have kk : Kp non w1 W := kp_in ((Kp.refl non w1).alloc _) kW (Nat.le_refl _)
  replace k0 := k0.non kk
  clear kk kW h1 k1 l1
  generalize hE : w1.heap.size = E at *
  refine c18.mono ?_
  rintro e w2 ⟨rfl, hk⟩
  replace hW := hW.kp hk fun _ h => h
  replace k0 := k0.non hk
  clear hk
  go_wp2_with fail
  refine (c17 (n := EC.N)).mono ?_
  rintro e w3 ⟨rfl, hk⟩
  replace hW := hW.kp hk fun _ h => h
  replace k0 := k0.non hk
  clear hk
  have h5 := By.new w3 23 (fun _ => 0) 32 fun _ _ => by omega
  have k3 := k0.alloc (.cells (bys (fun _ => 0) 32) 23)
  have l3 := k0.size
  go_wp2_with (refine wpList_store32n rfl _ _ rfl w3.heap.size (be EC.N) rfl rfl h5 (fun _ _ => be_lt _ _) ?_; (intro W4 k4 hN; have k34 : Kp non w3 W4 := kp_in ((Kp.refl non w3).alloc _) k4 (Nat.le_refl _); have c31 := (hN 31 (by omega)).1.1; have f31 := (hN 31 (by omega)).1.2; rw [Nat.zero_add] at c31 f31; rw [beN31] at c31))
  have hM' := by_last hN hN1.out hN31.out (by omega)
  rw [show ((81 + r : Nat) : Int) = 81 + (r : Int) from by omega] at hM'
  have k56 := kp_last W4 w3.heap.size (.int .u8 (81 + (r : Int)))
  have hk : Kp non w3 (W4.setCell ⟨w3.heap.size, 31, none⟩ (.int .u8 (81 + (r : Int)))) := kp_in k34 k56 (by omega)
  replace hW := hW.kp hk fun _ h => h
  replace k0 := k0.non hk
  clear hk hN k34 k56 k4 h5 k3 c31 f31 hw8
  generalize hB5 : w3.heap.size = B5 at *
  generalize (W4.setCell ⟨B5, 31, none⟩ (.int .u8 (81 + (r : Int)))) = W0 at *
  have hT' : ∀ W, Kp non W0 W → Pl W E fr x y := fun W hk => hW.kp hk fun _ h => h
  have hN5 : ∀ W, Kp non W0 W → By W B5 0 32 (be (EC.N + r)) := fun W hk => hM'.kp hk fun _ _ h => h
  have hk : Kp non W0 W0.drew := (Kp.refl _ _).drew
  refine wp_region_noPanic ?_
  refine wp_region_held_drew (S := (fun w' => Kp non W0 w')) (by kernel_rfl) hk (fun hHeld => ?_)
  refine takeD 1 (some 19) (.slice (some ⟨B5, 0, none⟩) 32 32) rfl rfl (by kernel_rfl) (by kernel_rfl) (by kernel_rfl) (Or.inl ⟨by kernel_rfl, fun w hw => by kernel_rfl⟩) hk ?_
  refine wpAnyH_ready (rs := [0]) (by kernel_rfl) (by simp) ?_
  refine stepGo 29 #[] (some 18) rfl rfl (by kernel_rfl) (by kernel_rfl) c29 ?_ ?_
  · rintro e v1 ⟨u1, rfl, h1, hj⟩
    replace hk := hk.non hj
    refine ⟨u1, rfl, hk, ?_⟩
    refine wpAnyH_ready (rs := [2]) (by kernel_rfl) (by simp) ?_
    refine stepGo 22 #[u1, .slice (some ⟨B5, 0, none⟩) 32 32] (some 20) rfl rfl (by kernel_rfl) (by kernel_rfl) (c22 h1.inn (in_arr (hN5 _ hk)) (rd_pt EC.Pt.G_ok)) ?_ ?_
    · rintro e v2 ⟨u, rfl, hu, hj⟩
      replace hk := hk.non hj
      replace h1 := h1.kp hj
      rw [hi8_be hNlt.out, mul_Nr] at hu
      refine ⟨.tuple #[u, .bool true, .bool true], rfl, hk, ?_⟩
      refine takeD 3 (some 17) (.tuple #[u, .bool true, .bool true]) rfl rfl (by kernel_rfl) (by kernel_rfl) (by kernel_rfl) (Or.inl ⟨by kernel_rfl, fun w hw => by kernel_rfl⟩) hk ?_
      refine takeD 4 (some 21) (u) rfl rfl (by kernel_rfl) (by kernel_rfl) (by kernel_rfl) (Or.inl ⟨by kernel_rfl, fun w hw => by kernel_rfl⟩) hk ?_
      refine takeD 5 (some 22) (.bool true) rfl rfl (by kernel_rfl) (by kernel_rfl) (by kernel_rfl) (Or.inl ⟨by kernel_rfl, fun w hw => by kernel_rfl⟩) hk ?_
      refine takeD 6 (some 23) (.bool true) rfl rfl (by kernel_rfl) (by kernel_rfl) (by kernel_rfl) (Or.inl ⟨by kernel_rfl, fun w hw => by kernel_rfl⟩) hk ?_
      refine takeD 7 (some 5) (u) rfl rfl (by kernel_rfl) (by kernel_rfl) (by kernel_rfl) (Or.inl ⟨by kernel_rfl, fun w hw => by kernel_rfl⟩) hk ?_
      refine takeD 8 (some 6) (.bool true) rfl rfl (by kernel_rfl) (by kernel_rfl) (by kernel_rfl) (Or.inl ⟨by kernel_rfl, fun w hw => by kernel_rfl⟩) hk ?_
      refine takeD 9 (some 7) (.bool true) rfl rfl (by kernel_rfl) (by kernel_rfl) (by kernel_rfl) (Or.inl ⟨by kernel_rfl, fun w hw => by kernel_rfl⟩) hk ?_
      refine wpAnyH_done (by kernel_rfl) ?_ _
      refine NoPanic.normal ?_
      simp only [Act.put, List.setIfInBounds_toArray, List.set_cons_zero, List.set_cons_succ]
      go_wp2_with fail
      replace k0 := k0.non hk
      replace hW := hW.kp hk fun _ h => h
      clear hT' hN5 hM'
      generalize v2 = V at *
      clear hk hHeld
      have hT' : ∀ W, Kp non V W → Pl W E fr x y := fun W hk => hW.kp hk fun _ h => h
      have hu' : ∀ W, Kp non V W → PtS W u (EC.Pt.mul r EC.Pt.G) := fun W hk => hu.kp hk
      clear hW hu h1
      have hk : Kp non V V.drew := (Kp.refl _ _).drew
      refine wp_region_noPanic ?_
      refine wp_region_held_drew (S := (fun w' => Kp non V w')) (by kernel_rfl) hk (fun hHeld => ?_)
      refine takeD 1 (some 25) (.agg (pl fr x y).toArray) rfl rfl (by kernel_rfl) (by kernel_rfl) (by kernel_rfl) (yl27 (.tmp 3) E fr x y (by kernel_rfl) rfl (by kernel_rfl) hT') hk ?_
      refine wpAnyH_ready (rs := [0]) (by kernel_rfl) (by simp) ?_
      refine stepGo 29 #[] (some 24) rfl rfl (by kernel_rfl) (by kernel_rfl) c29 ?_ ?_
      · rintro e v1 ⟨u2, rfl, h2, hj⟩
        replace hk := hk.non hj
        refine ⟨u2, rfl, hk, ?_⟩
        refine wpAnyH_ready (rs := [2]) (by kernel_rfl) (by simp) ?_
        refine stepGo 15 #[u2, .agg (pl fr x y).toArray] (some 26) rfl rfl (by kernel_rfl) (by kernel_rfl) (c15w h2 e.out.symm) ?_ ?_
        · rintro e v2 ⟨rfl, hj⟩
          replace hk := hk.non hj
          replace h2 := h2.kp hj
          refine ⟨.bool true, rfl, hk, ?_⟩
          refine takeD 3 (some 27) (.bool true) rfl rfl (by kernel_rfl) (by kernel_rfl) (by kernel_rfl) (Or.inl ⟨by kernel_rfl, fun w hw => by kernel_rfl⟩) hk ?_
          refine takeD 5 (some 29) (.agg (pl true (fun _ => 0) fun _ => 0).toArray) rfl rfl (by kernel_rfl) (by kernel_rfl) (by kernel_rfl) (Or.inl ⟨by kernel_rfl, fun w hw => by kernel_rfl⟩) hk ?_
          refine wpAnyH_ready (rs := [4]) (by kernel_rfl) (by simp) ?_
          refine stepGo 30 #[] (some 28) rfl rfl (by kernel_rfl) (by kernel_rfl) c30 ?_ ?_
          · rintro e v3 ⟨u3, rfl, h3, hj⟩
            replace hk := hk.non hj
            replace h2 := h2.kp hj
            refine ⟨u3, rfl, hk, ?_⟩
            refine wpAnyH_ready (rs := [6]) (by kernel_rfl) (by simp) ?_
            refine stepGo 15 #[u3, .agg (pl true (fun _ => 0) fun _ => 0).toArray] (some 30) rfl rfl (by kernel_rfl) (by kernel_rfl) (c15far h3) ?_ ?_
            · rintro e v4 ⟨rfl, hj⟩
              replace hk := hk.non hj
              replace h2 := h2.kp hj
              replace h3 := h3.kp hj
              refine ⟨.bool true, rfl, hk, ?_⟩
              refine takeD 7 (some 31) (.bool true) rfl rfl (by kernel_rfl) (by kernel_rfl) (by kernel_rfl) (Or.inl ⟨by kernel_rfl, fun w hw => by kernel_rfl⟩) hk ?_
              refine takeD 8 (some 32) (.bool true) rfl rfl (by kernel_rfl) (by kernel_rfl) (by kernel_rfl) (Or.inl ⟨by kernel_rfl, fun w hw => by kernel_rfl⟩) hk ?_
              refine takeD 9 (some 33) (.bool true) rfl rfl (by kernel_rfl) (by kernel_rfl) (by kernel_rfl) (Or.inl ⟨by kernel_rfl, fun w hw => by kernel_rfl⟩) hk ?_
              refine takeD 10 (some 34) (.bool true) rfl rfl (by kernel_rfl) (by kernel_rfl) (by kernel_rfl) (Or.inl ⟨by kernel_rfl, fun w hw => by kernel_rfl⟩) hk ?_
              refine takeD 11 (some 35) (.bool true) rfl rfl (by kernel_rfl) (by kernel_rfl) (by kernel_rfl) (Or.inl ⟨by kernel_rfl, fun w hw => by kernel_rfl⟩) hk ?_
              refine takeD 12 (some 36) (.bool true) rfl rfl (by kernel_rfl) (by kernel_rfl) (by kernel_rfl) (Or.inl ⟨by kernel_rfl, fun w hw => by kernel_rfl⟩) hk ?_
              refine takeD 13 (some 37) (.bool true) rfl rfl (by kernel_rfl) (by kernel_rfl) (by kernel_rfl) (Or.inl ⟨by kernel_rfl, fun w hw => by kernel_rfl⟩) hk ?_
              refine takeD 14 (some 38) (.bool true) rfl rfl (by kernel_rfl) (by kernel_rfl) (by kernel_rfl) (Or.inl ⟨by kernel_rfl, fun w hw => by kernel_rfl⟩) hk ?_
              refine takeD 15 (some 39) (u) rfl rfl (by kernel_rfl) (by kernel_rfl) (by kernel_rfl) (Or.inl ⟨by kernel_rfl, fun w hw => by kernel_rfl⟩) hk ?_
              refine takeD 16 (some 40) (.int .u8 (k : Int)) rfl rfl (by kernel_rfl) (by kernel_rfl) (by kernel_rfl) (Or.inl ⟨by kernel_rfl, fun w hw => by kernel_rfl⟩) hk ?_
              refine takeD 17 (some 41) (.int .u8 (r : Int)) rfl rfl (by kernel_rfl) (by kernel_rfl) (by kernel_rfl) (Or.inl ⟨by kernel_rfl, fun w hw => by go_simp⟩) hk ?_
              refine takeD 18 (some 42) (.agg (bys (lst r) 32)) rfl rfl (by kernel_rfl) (by kernel_rfl) (by kernel_rfl) (Or.inl ⟨by kernel_rfl, fun w hw => by kernel_rfl⟩) hk ?_
              refine takeD 19 (some 43) (.agg (pl fr x y).toArray) rfl rfl (by kernel_rfl) (by kernel_rfl) (by kernel_rfl) (yl27 (.tmp 3) E fr x y (by kernel_rfl) rfl (by kernel_rfl) hT') hk ?_
              refine wpAnyH_ready (rs := [20]) (by kernel_rfl) (by simp) ?_
              refine stepGo 16 #[.agg (bys (lst r) 32), .agg (pl fr x y).toArray] (some 44) rfl rfl (by kernel_rfl) (by kernel_rfl) (c16v (lst_lt (by omega)) EC.Pt.G_ok e.out.symm) ?_ ?_
              · rintro e v5 ⟨he4, hj⟩
                replace hk := hk.non hj
                replace h2 := h2.kp hj
                replace h3 := h3.kp hj
                rw [lst_num] at he4
                subst he4
                refine ⟨.agg (pvL (EC.Pt.mul r EC.Pt.G)).toArray, rfl, hk, ?_⟩
                refine wpAnyH_ready (rs := [21]) (by kernel_rfl) (by simp) ?_
                refine stepGo 15 #[u, .agg (pvL (EC.Pt.mul r EC.Pt.G)).toArray] (some 45) rfl rfl (by kernel_rfl) (by kernel_rfl) (c15t (hu' _ hk)) ?_ ?_
                · rintro e v6 ⟨rfl, hj⟩
                  replace hk := hk.non hj
                  replace h2 := h2.kp hj
                  replace h3 := h3.kp hj
                  refine ⟨.bool true, rfl, hk, ?_⟩
                  refine takeD 22 (some 46) (.bool true) rfl rfl (by kernel_rfl) (by kernel_rfl) (by kernel_rfl) (Or.inl ⟨by kernel_rfl, fun w hw => by kernel_rfl⟩) hk ?_
                  refine takeD 23 (some 2) (.bool true) rfl rfl (by kernel_rfl) (by kernel_rfl) (by kernel_rfl) (Or.inl ⟨by kernel_rfl, fun w hw => by kernel_rfl⟩) hk ?_
                  refine wpAnyH_done (by kernel_rfl) ?_ _
                  refine NoPanic.normal ?_
                  simp only [Act.put, List.setIfInBounds_toArray, List.set_cons_zero, List.set_cons_succ]
                  go_wp2_with fail
                  go_ret
                  exact ⟨rfl, k0.non hk⟩
                exact AllReadyH.nil
              exact AllReadyH.nil
            exact AllReadyH.nil
          exact AllReadyH.nil
        exact AllReadyH.nil
      exact AllReadyH.nil
    exact AllReadyH.nil
  exact AllReadyH.nil
end Go.Proofs.Ytjdjhccefnffmaa
