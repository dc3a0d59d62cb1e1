import Derived.Test.YtjdjhccefnffmaaB23
set_option linter.unusedVariables false
set_option linter.unusedSimpArgs false
set_option maxRecDepth 100000
set_option maxHeartbeats 1000000
namespace Go.Proofs.Ytjdjhccefnffmaa
open Go LX Go.RowKit
/-- append where there is no room. -/
theorem append_grow {w : World} {b o n cap b2 o2 m c ty : Nat} {f g : Nat → Nat} (hb : By w b o n f) (hg : By w b2 o2 m g) (hgr : cap < n + m) (hl : n + m ≤ 1000) :
    ∃ C w', (Builtin.append_ #[22, 22] ty #[.slice (some ⟨b, o, none⟩) n cap, .slice (some ⟨b2, o2, none⟩) m c]).run Try.prog w = .ok (.slice (some ⟨w.heap.size, 0, none⟩) (n + m) C) w' ∧ n + m ≤ C ∧ Kp non w w' ∧ By w' w.heap.size 0 (n + m) (fun i => if i < n then f i else g (i - n)) ∧ ∀ j, j < C → ∃ v, Cel w' w.heap.size j v := by
  have h5 : (Try.prog.info? 5).map (fun i => (i.size, i.bytes, i.zero)) = some (1, 1, some (.int .u8 0)) := by kernel_rfl
  obtain ⟨i, hi, h1⟩ := Option.map_eq_some_iff.1 h5
  simp only [Prod.mk.injEq] at h1
  obtain ⟨h1, h2, h3⟩ := h1
  have hfit : Builtin.nextslicecap (n + m) cap * i.bytes ≤ 281474976710656 := growslice_fits hgr (by rw [h2]; omega)
  have hr := run_append_grow (P := Try.prog) w 22 ty 5 i (.int .u8 0) (by kernel_rfl) hi h3 ⟨b, o, none⟩ n cap (byl f n) (by rw [byl_len, h1, Nat.mul_one]) hb.src ⟨b2, o2, none⟩ m c (byl g m) (by rw [byl_len, h1, Nat.mul_one]) hg.src hgr (by omega) hfit
  have hge := grownCap_ge w (n + m) cap 5
  refine ⟨_, _, hr, hge, (Kp.refl _ _).drew.alloc _, fun j hj => ?_, fun j hj => ?_⟩
  · have hlt : (if j < n then f j else g (j - n)) < 256 := by
      split
      · next h => exact (hb j h).2
      · exact (hg (j - n) (by omega)).2
    refine ⟨Cel.new w.drew _ 5 (0 + j) _ ?_, hlt⟩
    rw [Nat.zero_add]
    show _ = some (Value.int .u8 ((if j < n then f j else g (j - n) : Nat) : Int))
    by_cases h : j < n
    · rw [if_pos h, Array.getElem?_append_left (by simp [byl_len]; omega), Array.getElem?_append_left (by simpa [byl_len] using h)]
      simpa using byl_get f n j h
    · rw [if_neg h, Array.getElem?_append_left (by simp [byl_len]; omega), Array.getElem?_append_right (by simp [byl_len]; omega)]
      simpa [byl_len] using byl_get g m (j - n) (by omega)
  · have hsz : (((byl f n).toArray ++ (byl g m).toArray ++ Builtin.zeroCells (Value.int .u8 0).cells (grownCap w (n + m) cap 5 - (n + m)))).size = grownCap w (n + m) cap 5 := by
      simp only [Array.size_append, List.size_toArray, size_zeroCells, byl_len]
      show n + m + (grownCap w (n + m) cap 5 - (n + m)) * 1 = _
      omega
    exact ⟨_, Cel.new w.drew _ 5 j _ (Array.getElem?_eq_getElem (by rw [hsz]; exact hj))⟩
/-- Two appends to a slice of one byte. -/
theorem append_two {w : World} {a b3 b4 c3 c4 ty : Nat} {f g : Nat → Nat} (ha : By w a 0 1 fun _ => 4) (h3 : By w b3 0 32 f) (h4 : By w b4 0 32 g) :
    ∃ v1 w1 v2 w2, (Builtin.append_ #[22, 22] ty #[.slice (some ⟨a, 0, none⟩) 1 1, .slice (some ⟨b3, 0, none⟩) 32 c3]).run Try.prog w = .ok v1 w1 ∧ Kp non w w1 ∧
      (Builtin.append_ #[22, 22] ty #[v1, .slice (some ⟨b4, 0, none⟩) 32 c4]).run Try.prog w1 = .ok v2 w2 ∧ Kp non w w2 ∧
      ∃ B C, v2 = .slice (some ⟨B, 0, none⟩) 65 C ∧ 65 ≤ C ∧ By w2 B 0 65 (fun i => if i < 33 then (if i < 1 then 4 else f (i - 1)) else g (i - 33)) := by
  obtain ⟨C1, w1, hr1, hC1, hk1, hA1, hcel⟩ := append_grow (ty := ty) (c := c3) (cap := 1) ha h3 (by omega) (by omega)
  have h4' := h4.kp hk1 fun _ _ h => h
  have hne : b4 ≠ w.heap.size := Nat.ne_of_lt (h4 0 (by omega)).1.lt
  by_cases hroom : 33 + 32 ≤ C1
  · have h5 : (Try.prog.info? 5).map (·.size) = some 1 := by kernel_rfl
    obtain ⟨i, hi, h1⟩ := Option.map_eq_some_iff.1 h5
    have hr2 := run_append_room_cells (P := Try.prog) w1 22 ty 5 i (by kernel_rfl) hi w.heap.size 0 33 C1 ⟨b4, 0, none⟩ 32 c4 (byl g 32) (by rw [byl_len, h1]) h4'.src (fun u hu => byl_mem hu) hroom
      (fun j hj => by rw [byl_len] at hj; obtain ⟨v, h⟩ := hcel (33 + j) (by omega); rw [h1, Nat.mul_one, Nat.zero_add, h.1]; rfl)
      (fun j hj => by rw [byl_len] at hj; obtain ⟨v, h⟩ := hcel (33 + j) (by omega); rw [h1, Nat.mul_one, Nat.zero_add]; exact h.2)
    rw [h1, Nat.mul_one, Nat.zero_add] at hr2
    refine ⟨_, _, _, _, hr1, hk1, hr2, kp_freshL hk1 (Nat.le_refl _) 33 _, _, _, rfl, hroom, fun j hj => ?_⟩
    show Cel _ _ _ (.int .u8 ((if j < 33 then (if j < 1 then 4 else f (j - 1)) else g (j - 33) : Nat) : Int)) ∧ (if j < 33 then (if j < 1 then 4 else f (j - 1)) else g (j - 33)) < 256
    by_cases h : j < 33
    · rw [if_pos h]
      have hk := Kp.byl w1 w.heap.size 33 32 g
      exact (hA1.kp hk (fun i hi h => by have := h.2.1; omega)) j h
    · rw [if_neg h]
      have := By.set (w := w1) (b := w.heap.size) (o := 33) (n := 32) (f := g) (fun j hj => hcel (33 + j) (by omega)) (fun j hj => (h4 j hj).2) (j - 33) (by omega)
      rwa [show 33 + (j - 33) = 0 + j by omega] at this
  · obtain ⟨C2, w2, hr2, hC2, hk2, hA2, -⟩ := append_grow (ty := ty) (c := c4) (cap := C1) hA1 h4' (by omega) (by omega)
    exact ⟨_, _, _, _, hr1, hk1, hr2, hk1.non hk2, _, _, rfl, hC2, hA2⟩
theorem exec_append {P : Program} {oi : Oper} {a : Act} {w w' : World} {s x : Operand} {v1 v2 v : Value} (hop : oi.op = Op.call { callee := Callee.builtin Builtin.append, args := #[s, x], argTypes := #[22, 22] }) (hs : a.eval s = v1) (hx : a.eval x = v2)
    (hrun : (Builtin.append_ #[22, 22] oi.type #[v1, v2]).run P w = .ok v w') : (execOp a.eval oi).run P w = .ok (.value v) w' := by
  simp [execOp, hop, resolve, invoke, builtin, hs, hx, hrun, Result.andThen]
theorem c17e {w : World} {x : EC.F} : Calls Try.prog 17 #[.agg (a8 (ew x))] w (Nb01 x.val w) := by
  rw [← nw_ew]
  exact c17
theorem encA_if (x y : EC.F) (i : Nat) : (if i < 33 then (if i < 1 then 4 else be x.val (i - 1)) else be y.val (i - 33)) = encA x y i := by
  unfold encA
  by_cases h : i = 0
  · subst h; rfl
  · rw [if_neg h]
    by_cases h2 : i < 33
    · rw [if_pos h2, if_pos h2, if_neg (by omega)]
    · rw [if_neg h2, if_neg h2]
theorem c42_far {w : World} : Calls Try.prog 42 #[.agg (pvL .far).toArray] w (Bs01 .far w) := by
  have k0 : Kp non w (w.alloc (.cells (pl true (fun _ => 0) fun _ => 0).toArray 27)) := (Kp.refl _ w).alloc _
  have c0 := (Pl.new w 27 true (fun _ => 0) fun _ => 0).r 0 (.bool true) rfl
  show Calls Try.prog 42 #[.agg (pl true (fun _ => 0) fun _ => 0).toArray] w _
  go_enter Try.func42, Try.ntmps42
  go_wp2_with fail
  go_ret
  have hA := By.one (w.alloc (.cells (pl true (fun _ => 0) fun _ => 0).toArray 27)) 0 0 rfl (by omega) 5
  rw [size1] at hA
  exact ⟨_, rfl, ⟨_, _, rfl, Nat.le_refl _, hA.congr fun i _ => rfl⟩, k0.alloc _⟩
set_option maxHeartbeats 4000000 in
theorem c42_aff {w : World} {x y : EC.F} : Calls Try.prog 42 #[.agg (pvL (.aff x y)).toArray] w (Bs01 (.aff x y) w) := by
  have k0 : Kp non w (w.alloc (.cells (pl false (ew x) (ew y)).toArray 27)) := (Kp.refl _ w).alloc _
  have h0 := Pl.new w 27 false (ew x) (ew y)
  have c0 := h0.r 0 (.bool false) rfl
  show Calls Try.prog 42 #[.agg (pl false (ew x) (ew y)).toArray] w _
  go_enter Try.func42, Try.ntmps42
  go_wp2_with fail
  generalize hHH : w.heap.size = H at *
  generalize (w.alloc (.cells (pl false (ew x) (ew y)).toArray 27)) = W0 at *
  have hP : ∀ W, Kp non W0 W → Pl W H false (ew x) (ew y) := fun W hk => h0.kp hk fun _ h => h
  go_cut [3, 4] from 8 to 13 (fun t3 t4 wx => ∃ B3 B4, t3 = pt B3 0 ∧ t4 = pt B4 0 ∧ Hid (Kp non W0 wx ∧ By wx B3 0 32 (be x.val) ∧ By wx B4 0 32 (be y.val)))
  case first =>
    have hs : Kp non W0 W0.drew := (Kp.refl _ _).drew
    have hk := hs
    refine wp_region_noPanic ?_
    refine wp_region_held_drew (S := (fun w' => Kp non W0 w')) (by kernel_rfl) hs (fun hHeld => ?_)
    refine takeD 0 (some 8) (.pointer (some ⟨H, 1, none⟩)) rfl rfl (by kernel_rfl) (by kernel_rfl) (by kernel_rfl) (Or.inl ⟨by kernel_rfl, fun w hw => by kernel_rfl⟩) hk ?_
    refine takeD 1 (some 9) (.agg (a8 (ew x))) rfl rfl (by kernel_rfl) (by kernel_rfl) (by kernel_rfl) (yl25 (.tmp 8) H 1 (ew x) (by kernel_rfl) rfl (by kernel_rfl) fun w h => (hP w h).x8) hk ?_
    refine takeD 3 (some 11) (.pointer (some ⟨H, 9, none⟩)) rfl rfl (by kernel_rfl) (by kernel_rfl) (by kernel_rfl) (Or.inl ⟨by kernel_rfl, fun w hw => by kernel_rfl⟩) hk ?_
    refine takeD 4 (some 12) (.agg (a8 (ew y))) rfl rfl (by kernel_rfl) (by kernel_rfl) (by kernel_rfl) (yl25 (.tmp 11) H 9 (ew y) (by kernel_rfl) rfl (by kernel_rfl) fun w h => (hP w h).y8) hk ?_
    refine wpAnyH_ready (rs := [2, 6, 7]) (by kernel_rfl) (by simp) ?_
    refine stepGo 17 #[.agg (a8 (ew x))] (some 10) rfl rfl (by kernel_rfl) (by kernel_rfl) c17e ?_ ?_
    · rintro e y1 ⟨rfl, hj⟩
      have hk := hk.non hj
      refine ⟨.agg (bys (be x.val) 32), rfl, hk, ?_⟩
      refine wpAnyH_ready (rs := [5, 6, 7]) (by kernel_rfl) (by simp) ?_
      refine stepGo 17 #[.agg (a8 (ew y))] (some 13) rfl rfl (by kernel_rfl) (by kernel_rfl) c17e ?_ ?_
      · rintro e y2 ⟨rfl, hj⟩
        have hk := hk.non hj
        refine ⟨.agg (bys (be y.val) 32), rfl, hk, ?_⟩
        refine wpAnyH_ready (rs := [6, 7]) (by kernel_rfl) (by simp) ?_
        refine stepA23 (some 3) rfl rfl (by kernel_rfl) (by kernel_rfl) ?_ ?_
        · intro B3 y3 l3 m3 hj h3
          have hks := hk.size
          have hk := hk.non hj
          replace l3 := Nat.le_trans hks l3
          refine ⟨hk, ?_⟩
          refine wpAnyH_ready (rs := [7]) (by kernel_rfl) (by simp) ?_
          refine stepA23 (some 4) rfl rfl (by kernel_rfl) (by kernel_rfl) ?_ ?_
          · intro B4 y4 l4 m4 hj h4
            have hks := hk.size
            have hne : B3 ≠ B4 := by have := (h3 0 (by omega)).1.lt; omega
            replace h3 := h3.kp hj fun _ _ h => h
            have hk := hk.non hj
            replace l4 := Nat.le_trans hks l4
            refine ⟨hk, ?_⟩
            refine wpAnyH_ready (rs := [8]) (by kernel_rfl) (by simp) ?_
            refine stepS23 (.tmp 3) (.tmp 10) B3 (be x.val) rfl rfl (by kernel_rfl) rfl (by kernel_rfl) (by kernel_rfl) h3 (fun _ _ => by unfold be; omega) ?_ ?_
            · intro y5 hj h3
              have hk := kp_in hk hj l3
              replace h4 := h4.kp hj fun i _ h => hne.symm h.1
              refine ⟨hk, ?_⟩
              refine wpAnyH_ready (rs := [9]) (by kernel_rfl) (by simp) ?_
              refine stepS23 (.tmp 4) (.tmp 13) B4 (be y.val) rfl rfl (by kernel_rfl) rfl (by kernel_rfl) (by kernel_rfl) h4 (fun _ _ => by unfold be; omega) ?_ ?_
              · intro y6 hj h4
                have hk := kp_in hk hj l4
                replace h3 := h3.kp hj fun i _ h => hne h.1
                refine ⟨hk, ?_⟩
                refine wpAnyH_done (by kernel_rfl) ?_ _
                refine NoPanic.normal ?_
                simp only [Act.put, List.setIfInBounds_toArray, List.set_cons_zero, List.set_cons_succ]
                go_wp2_with fail
                go_meet
                case rel => exact ⟨_, _, rfl, rfl, Lib.hid ⟨hk, h3, h4⟩⟩
              exact AllReadyH.nil
            exact AllReadyH.nil
          exact AllReadyH.nil
        refine stepA23 (some 4) rfl rfl (by kernel_rfl) (by kernel_rfl) ?_ ?_
        · intro B4 y3 l4 m4 hj h4
          have hks := hk.size
          have hk := hk.non hj
          replace l4 := Nat.le_trans hks l4
          refine ⟨hk, ?_⟩
          refine wpAnyH_ready (rs := [6]) (by kernel_rfl) (by simp) ?_
          refine stepA23 (some 3) rfl rfl (by kernel_rfl) (by kernel_rfl) ?_ ?_
          · intro B3 y4 l3 m3 hj h3
            have hks := hk.size
            have hne : B3 ≠ B4 := by have := (h4 0 (by omega)).1.lt; omega
            replace h4 := h4.kp hj fun _ _ h => h
            have hk := hk.non hj
            replace l3 := Nat.le_trans hks l3
            refine ⟨hk, ?_⟩
            refine wpAnyH_ready (rs := [8]) (by kernel_rfl) (by simp) ?_
            refine stepS23 (.tmp 3) (.tmp 10) B3 (be x.val) rfl rfl (by kernel_rfl) rfl (by kernel_rfl) (by kernel_rfl) h3 (fun _ _ => by unfold be; omega) ?_ ?_
            · intro y5 hj h3
              have hk := kp_in hk hj l3
              replace h4 := h4.kp hj fun i _ h => hne.symm h.1
              refine ⟨hk, ?_⟩
              refine wpAnyH_ready (rs := [9]) (by kernel_rfl) (by simp) ?_
              refine stepS23 (.tmp 4) (.tmp 13) B4 (be y.val) rfl rfl (by kernel_rfl) rfl (by kernel_rfl) (by kernel_rfl) h4 (fun _ _ => by unfold be; omega) ?_ ?_
              · intro y6 hj h4
                have hk := kp_in hk hj l4
                replace h3 := h3.kp hj fun i _ h => hne h.1
                refine ⟨hk, ?_⟩
                refine wpAnyH_done (by kernel_rfl) ?_ _
                refine NoPanic.normal ?_
                simp only [Act.put, List.setIfInBounds_toArray, List.set_cons_zero, List.set_cons_succ]
                go_wp2_with fail
                go_meet
                case rel => exact ⟨_, _, rfl, rfl, Lib.hid ⟨hk, h3, h4⟩⟩
              exact AllReadyH.nil
            exact AllReadyH.nil
          exact AllReadyH.nil
        exact AllReadyH.nil
      refine stepA23 (some 3) rfl rfl (by kernel_rfl) (by kernel_rfl) ?_ ?_
      · intro B3 y2 l3 m3 hj h3
        have hks := hk.size
        have hk := hk.non hj
        replace l3 := Nat.le_trans hks l3
        refine ⟨hk, ?_⟩
        refine wpAnyH_ready (rs := [5, 7]) (by kernel_rfl) (by simp) ?_
        refine stepGo 17 #[.agg (a8 (ew y))] (some 13) rfl rfl (by kernel_rfl) (by kernel_rfl) c17e ?_ ?_
        · rintro e y3 ⟨rfl, hj⟩
          have hk := hk.non hj
          have h3 := h3.kp hj fun _ _ h => h
          refine ⟨.agg (bys (be y.val) 32), rfl, hk, ?_⟩
          refine wpAnyH_ready (rs := [7]) (by kernel_rfl) (by simp) ?_
          refine stepA23 (some 4) rfl rfl (by kernel_rfl) (by kernel_rfl) ?_ ?_
          · intro B4 y4 l4 m4 hj h4
            have hks := hk.size
            have hne : B3 ≠ B4 := by have := (h3 0 (by omega)).1.lt; omega
            replace h3 := h3.kp hj fun _ _ h => h
            have hk := hk.non hj
            replace l4 := Nat.le_trans hks l4
            refine ⟨hk, ?_⟩
            refine wpAnyH_ready (rs := [8]) (by kernel_rfl) (by simp) ?_
            refine stepS23 (.tmp 3) (.tmp 10) B3 (be x.val) rfl rfl (by kernel_rfl) rfl (by kernel_rfl) (by kernel_rfl) h3 (fun _ _ => by unfold be; omega) ?_ ?_
            · intro y5 hj h3
              have hk := kp_in hk hj l3
              replace h4 := h4.kp hj fun i _ h => hne.symm h.1
              refine ⟨hk, ?_⟩
              refine wpAnyH_ready (rs := [9]) (by kernel_rfl) (by simp) ?_
              refine stepS23 (.tmp 4) (.tmp 13) B4 (be y.val) rfl rfl (by kernel_rfl) rfl (by kernel_rfl) (by kernel_rfl) h4 (fun _ _ => by unfold be; omega) ?_ ?_
              · intro y6 hj h4
                have hk := kp_in hk hj l4
                replace h3 := h3.kp hj fun i _ h => hne h.1
                refine ⟨hk, ?_⟩
                refine wpAnyH_done (by kernel_rfl) ?_ _
                refine NoPanic.normal ?_
                simp only [Act.put, List.setIfInBounds_toArray, List.set_cons_zero, List.set_cons_succ]
                go_wp2_with fail
                go_meet
                case rel => exact ⟨_, _, rfl, rfl, Lib.hid ⟨hk, h3, h4⟩⟩
              exact AllReadyH.nil
            exact AllReadyH.nil
          exact AllReadyH.nil
        refine stepA23 (some 4) rfl rfl (by kernel_rfl) (by kernel_rfl) ?_ ?_
        · intro B4 y3 l4 m4 hj h4
          have hks := hk.size
          have hne : B3 ≠ B4 := by have := (h3 0 (by omega)).1.lt; omega
          replace h3 := h3.kp hj fun _ _ h => h
          have hk := hk.non hj
          replace l4 := Nat.le_trans hks l4
          refine ⟨hk, ?_⟩
          refine wpAnyH_ready (rs := [5]) (by kernel_rfl) (by simp) ?_
          refine stepGo 17 #[.agg (a8 (ew y))] (some 13) rfl rfl (by kernel_rfl) (by kernel_rfl) c17e ?_ ?_
          · rintro e y4 ⟨rfl, hj⟩
            have hk := hk.non hj
            have h3 := h3.kp hj fun _ _ h => h
            have h4 := h4.kp hj fun _ _ h => h
            refine ⟨.agg (bys (be y.val) 32), rfl, hk, ?_⟩
            refine wpAnyH_ready (rs := [8]) (by kernel_rfl) (by simp) ?_
            refine stepS23 (.tmp 3) (.tmp 10) B3 (be x.val) rfl rfl (by kernel_rfl) rfl (by kernel_rfl) (by kernel_rfl) h3 (fun _ _ => by unfold be; omega) ?_ ?_
            · intro y5 hj h3
              have hk := kp_in hk hj l3
              replace h4 := h4.kp hj fun i _ h => hne.symm h.1
              refine ⟨hk, ?_⟩
              refine wpAnyH_ready (rs := [9]) (by kernel_rfl) (by simp) ?_
              refine stepS23 (.tmp 4) (.tmp 13) B4 (be y.val) rfl rfl (by kernel_rfl) rfl (by kernel_rfl) (by kernel_rfl) h4 (fun _ _ => by unfold be; omega) ?_ ?_
              · intro y6 hj h4
                have hk := kp_in hk hj l4
                replace h3 := h3.kp hj fun i _ h => hne h.1
                refine ⟨hk, ?_⟩
                refine wpAnyH_done (by kernel_rfl) ?_ _
                refine NoPanic.normal ?_
                simp only [Act.put, List.setIfInBounds_toArray, List.set_cons_zero, List.set_cons_succ]
                go_wp2_with fail
                go_meet
                case rel => exact ⟨_, _, rfl, rfl, Lib.hid ⟨hk, h3, h4⟩⟩
              exact AllReadyH.nil
            exact AllReadyH.nil
          exact AllReadyH.nil
        exact AllReadyH.nil
      refine stepA23 (some 4) rfl rfl (by kernel_rfl) (by kernel_rfl) ?_ ?_
      · intro B4 y2 l4 m4 hj h4
        have hks := hk.size
        have hk := hk.non hj
        replace l4 := Nat.le_trans hks l4
        refine ⟨hk, ?_⟩
        refine wpAnyH_ready (rs := [5, 6]) (by kernel_rfl) (by simp) ?_
        refine stepGo 17 #[.agg (a8 (ew y))] (some 13) rfl rfl (by kernel_rfl) (by kernel_rfl) c17e ?_ ?_
        · rintro e y3 ⟨rfl, hj⟩
          have hk := hk.non hj
          have h4 := h4.kp hj fun _ _ h => h
          refine ⟨.agg (bys (be y.val) 32), rfl, hk, ?_⟩
          refine wpAnyH_ready (rs := [6]) (by kernel_rfl) (by simp) ?_
          refine stepA23 (some 3) rfl rfl (by kernel_rfl) (by kernel_rfl) ?_ ?_
          · intro B3 y4 l3 m3 hj h3
            have hks := hk.size
            have hne : B3 ≠ B4 := by have := (h4 0 (by omega)).1.lt; omega
            replace h4 := h4.kp hj fun _ _ h => h
            have hk := hk.non hj
            replace l3 := Nat.le_trans hks l3
            refine ⟨hk, ?_⟩
            refine wpAnyH_ready (rs := [8]) (by kernel_rfl) (by simp) ?_
            refine stepS23 (.tmp 3) (.tmp 10) B3 (be x.val) rfl rfl (by kernel_rfl) rfl (by kernel_rfl) (by kernel_rfl) h3 (fun _ _ => by unfold be; omega) ?_ ?_
            · intro y5 hj h3
              have hk := kp_in hk hj l3
              replace h4 := h4.kp hj fun i _ h => hne.symm h.1
              refine ⟨hk, ?_⟩
              refine wpAnyH_ready (rs := [9]) (by kernel_rfl) (by simp) ?_
              refine stepS23 (.tmp 4) (.tmp 13) B4 (be y.val) rfl rfl (by kernel_rfl) rfl (by kernel_rfl) (by kernel_rfl) h4 (fun _ _ => by unfold be; omega) ?_ ?_
              · intro y6 hj h4
                have hk := kp_in hk hj l4
                replace h3 := h3.kp hj fun i _ h => hne h.1
                refine ⟨hk, ?_⟩
                refine wpAnyH_done (by kernel_rfl) ?_ _
                refine NoPanic.normal ?_
                simp only [Act.put, List.setIfInBounds_toArray, List.set_cons_zero, List.set_cons_succ]
                go_wp2_with fail
                go_meet
                case rel => exact ⟨_, _, rfl, rfl, Lib.hid ⟨hk, h3, h4⟩⟩
              exact AllReadyH.nil
            exact AllReadyH.nil
          exact AllReadyH.nil
        refine stepA23 (some 3) rfl rfl (by kernel_rfl) (by kernel_rfl) ?_ ?_
        · intro B3 y3 l3 m3 hj h3
          have hks := hk.size
          have hne : B3 ≠ B4 := by have := (h4 0 (by omega)).1.lt; omega
          replace h4 := h4.kp hj fun _ _ h => h
          have hk := hk.non hj
          replace l3 := Nat.le_trans hks l3
          refine ⟨hk, ?_⟩
          refine wpAnyH_ready (rs := [5]) (by kernel_rfl) (by simp) ?_
          refine stepGo 17 #[.agg (a8 (ew y))] (some 13) rfl rfl (by kernel_rfl) (by kernel_rfl) c17e ?_ ?_
          · rintro e y4 ⟨rfl, hj⟩
            have hk := hk.non hj
            have h3 := h3.kp hj fun _ _ h => h
            have h4 := h4.kp hj fun _ _ h => h
            refine ⟨.agg (bys (be y.val) 32), rfl, hk, ?_⟩
            refine wpAnyH_ready (rs := [8]) (by kernel_rfl) (by simp) ?_
            refine stepS23 (.tmp 3) (.tmp 10) B3 (be x.val) rfl rfl (by kernel_rfl) rfl (by kernel_rfl) (by kernel_rfl) h3 (fun _ _ => by unfold be; omega) ?_ ?_
            · intro y5 hj h3
              have hk := kp_in hk hj l3
              replace h4 := h4.kp hj fun i _ h => hne.symm h.1
              refine ⟨hk, ?_⟩
              refine wpAnyH_ready (rs := [9]) (by kernel_rfl) (by simp) ?_
              refine stepS23 (.tmp 4) (.tmp 13) B4 (be y.val) rfl rfl (by kernel_rfl) rfl (by kernel_rfl) (by kernel_rfl) h4 (fun _ _ => by unfold be; omega) ?_ ?_
              · intro y6 hj h4
                have hk := kp_in hk hj l4
                replace h3 := h3.kp hj fun i _ h => hne h.1
                refine ⟨hk, ?_⟩
                refine wpAnyH_done (by kernel_rfl) ?_ _
                refine NoPanic.normal ?_
                simp only [Act.put, List.setIfInBounds_toArray, List.set_cons_zero, List.set_cons_succ]
                go_wp2_with fail
                go_meet
                case rel => exact ⟨_, _, rfl, rfl, Lib.hid ⟨hk, h3, h4⟩⟩
              exact AllReadyH.nil
            exact AllReadyH.nil
          exact AllReadyH.nil
        exact AllReadyH.nil
      exact AllReadyH.nil
    refine stepA23 (some 3) rfl rfl (by kernel_rfl) (by kernel_rfl) ?_ ?_
    · intro B3 y1 l3 m3 hj h3
      have hks := hk.size
      have hk := hk.non hj
      replace l3 := Nat.le_trans hks l3
      refine ⟨hk, ?_⟩
      refine wpAnyH_ready (rs := [2, 7]) (by kernel_rfl) (by simp) ?_
      refine stepGo 17 #[.agg (a8 (ew x))] (some 10) rfl rfl (by kernel_rfl) (by kernel_rfl) c17e ?_ ?_
      · rintro e y2 ⟨rfl, hj⟩
        have hk := hk.non hj
        have h3 := h3.kp hj fun _ _ h => h
        refine ⟨.agg (bys (be x.val) 32), rfl, hk, ?_⟩
        refine wpAnyH_ready (rs := [5, 7]) (by kernel_rfl) (by simp) ?_
        refine stepGo 17 #[.agg (a8 (ew y))] (some 13) rfl rfl (by kernel_rfl) (by kernel_rfl) c17e ?_ ?_
        · rintro e y3 ⟨rfl, hj⟩
          have hk := hk.non hj
          have h3 := h3.kp hj fun _ _ h => h
          refine ⟨.agg (bys (be y.val) 32), rfl, hk, ?_⟩
          refine wpAnyH_ready (rs := [7]) (by kernel_rfl) (by simp) ?_
          refine stepA23 (some 4) rfl rfl (by kernel_rfl) (by kernel_rfl) ?_ ?_
          · intro B4 y4 l4 m4 hj h4
            have hks := hk.size
            have hne : B3 ≠ B4 := by have := (h3 0 (by omega)).1.lt; omega
            replace h3 := h3.kp hj fun _ _ h => h
            have hk := hk.non hj
            replace l4 := Nat.le_trans hks l4
            refine ⟨hk, ?_⟩
            refine wpAnyH_ready (rs := [8]) (by kernel_rfl) (by simp) ?_
            refine stepS23 (.tmp 3) (.tmp 10) B3 (be x.val) rfl rfl (by kernel_rfl) rfl (by kernel_rfl) (by kernel_rfl) h3 (fun _ _ => by unfold be; omega) ?_ ?_
            · intro y5 hj h3
              have hk := kp_in hk hj l3
              replace h4 := h4.kp hj fun i _ h => hne.symm h.1
              refine ⟨hk, ?_⟩
              refine wpAnyH_ready (rs := [9]) (by kernel_rfl) (by simp) ?_
              refine stepS23 (.tmp 4) (.tmp 13) B4 (be y.val) rfl rfl (by kernel_rfl) rfl (by kernel_rfl) (by kernel_rfl) h4 (fun _ _ => by unfold be; omega) ?_ ?_
              · intro y6 hj h4
                have hk := kp_in hk hj l4
                replace h3 := h3.kp hj fun i _ h => hne h.1
                refine ⟨hk, ?_⟩
                refine wpAnyH_done (by kernel_rfl) ?_ _
                refine NoPanic.normal ?_
                simp only [Act.put, List.setIfInBounds_toArray, List.set_cons_zero, List.set_cons_succ]
                go_wp2_with fail
                go_meet
                case rel => exact ⟨_, _, rfl, rfl, Lib.hid ⟨hk, h3, h4⟩⟩
              exact AllReadyH.nil
            exact AllReadyH.nil
          exact AllReadyH.nil
        refine stepA23 (some 4) rfl rfl (by kernel_rfl) (by kernel_rfl) ?_ ?_
        · intro B4 y3 l4 m4 hj h4
          have hks := hk.size
          have hne : B3 ≠ B4 := by have := (h3 0 (by omega)).1.lt; omega
          replace h3 := h3.kp hj fun _ _ h => h
          have hk := hk.non hj
          replace l4 := Nat.le_trans hks l4
          refine ⟨hk, ?_⟩
          refine wpAnyH_ready (rs := [5]) (by kernel_rfl) (by simp) ?_
          refine stepGo 17 #[.agg (a8 (ew y))] (some 13) rfl rfl (by kernel_rfl) (by kernel_rfl) c17e ?_ ?_
          · rintro e y4 ⟨rfl, hj⟩
            have hk := hk.non hj
            have h3 := h3.kp hj fun _ _ h => h
            have h4 := h4.kp hj fun _ _ h => h
            refine ⟨.agg (bys (be y.val) 32), rfl, hk, ?_⟩
            refine wpAnyH_ready (rs := [8]) (by kernel_rfl) (by simp) ?_
            refine stepS23 (.tmp 3) (.tmp 10) B3 (be x.val) rfl rfl (by kernel_rfl) rfl (by kernel_rfl) (by kernel_rfl) h3 (fun _ _ => by unfold be; omega) ?_ ?_
            · intro y5 hj h3
              have hk := kp_in hk hj l3
              replace h4 := h4.kp hj fun i _ h => hne.symm h.1
              refine ⟨hk, ?_⟩
              refine wpAnyH_ready (rs := [9]) (by kernel_rfl) (by simp) ?_
              refine stepS23 (.tmp 4) (.tmp 13) B4 (be y.val) rfl rfl (by kernel_rfl) rfl (by kernel_rfl) (by kernel_rfl) h4 (fun _ _ => by unfold be; omega) ?_ ?_
              · intro y6 hj h4
                have hk := kp_in hk hj l4
                replace h3 := h3.kp hj fun i _ h => hne h.1
                refine ⟨hk, ?_⟩
                refine wpAnyH_done (by kernel_rfl) ?_ _
                refine NoPanic.normal ?_
                simp only [Act.put, List.setIfInBounds_toArray, List.set_cons_zero, List.set_cons_succ]
                go_wp2_with fail
                go_meet
                case rel => exact ⟨_, _, rfl, rfl, Lib.hid ⟨hk, h3, h4⟩⟩
              exact AllReadyH.nil
            exact AllReadyH.nil
          exact AllReadyH.nil
        exact AllReadyH.nil
      refine stepA23 (some 4) rfl rfl (by kernel_rfl) (by kernel_rfl) ?_ ?_
      · intro B4 y2 l4 m4 hj h4
        have hks := hk.size
        have hne : B3 ≠ B4 := by have := (h3 0 (by omega)).1.lt; omega
        replace h3 := h3.kp hj fun _ _ h => h
        have hk := hk.non hj
        replace l4 := Nat.le_trans hks l4
        refine ⟨hk, ?_⟩
        refine wpAnyH_ready (rs := [2]) (by kernel_rfl) (by simp) ?_
        refine stepGo 17 #[.agg (a8 (ew x))] (some 10) rfl rfl (by kernel_rfl) (by kernel_rfl) c17e ?_ ?_
        · rintro e y3 ⟨rfl, hj⟩
          have hk := hk.non hj
          have h3 := h3.kp hj fun _ _ h => h
          have h4 := h4.kp hj fun _ _ h => h
          refine ⟨.agg (bys (be x.val) 32), rfl, hk, ?_⟩
          refine wpAnyH_ready (rs := [5]) (by kernel_rfl) (by simp) ?_
          refine stepGo 17 #[.agg (a8 (ew y))] (some 13) rfl rfl (by kernel_rfl) (by kernel_rfl) c17e ?_ ?_
          · rintro e y4 ⟨rfl, hj⟩
            have hk := hk.non hj
            have h3 := h3.kp hj fun _ _ h => h
            have h4 := h4.kp hj fun _ _ h => h
            refine ⟨.agg (bys (be y.val) 32), rfl, hk, ?_⟩
            refine wpAnyH_ready (rs := [8]) (by kernel_rfl) (by simp) ?_
            refine stepS23 (.tmp 3) (.tmp 10) B3 (be x.val) rfl rfl (by kernel_rfl) rfl (by kernel_rfl) (by kernel_rfl) h3 (fun _ _ => by unfold be; omega) ?_ ?_
            · intro y5 hj h3
              have hk := kp_in hk hj l3
              replace h4 := h4.kp hj fun i _ h => hne.symm h.1
              refine ⟨hk, ?_⟩
              refine wpAnyH_ready (rs := [9]) (by kernel_rfl) (by simp) ?_
              refine stepS23 (.tmp 4) (.tmp 13) B4 (be y.val) rfl rfl (by kernel_rfl) rfl (by kernel_rfl) (by kernel_rfl) h4 (fun _ _ => by unfold be; omega) ?_ ?_
              · intro y6 hj h4
                have hk := kp_in hk hj l4
                replace h3 := h3.kp hj fun i _ h => hne h.1
                refine ⟨hk, ?_⟩
                refine wpAnyH_done (by kernel_rfl) ?_ _
                refine NoPanic.normal ?_
                simp only [Act.put, List.setIfInBounds_toArray, List.set_cons_zero, List.set_cons_succ]
                go_wp2_with fail
                go_meet
                case rel => exact ⟨_, _, rfl, rfl, Lib.hid ⟨hk, h3, h4⟩⟩
              exact AllReadyH.nil
            exact AllReadyH.nil
          exact AllReadyH.nil
        exact AllReadyH.nil
      exact AllReadyH.nil
    refine stepA23 (some 4) rfl rfl (by kernel_rfl) (by kernel_rfl) ?_ ?_
    · intro B4 y1 l4 m4 hj h4
      have hks := hk.size
      have hk := hk.non hj
      replace l4 := Nat.le_trans hks l4
      refine ⟨hk, ?_⟩
      refine wpAnyH_ready (rs := [2, 6]) (by kernel_rfl) (by simp) ?_
      refine stepGo 17 #[.agg (a8 (ew x))] (some 10) rfl rfl (by kernel_rfl) (by kernel_rfl) c17e ?_ ?_
      · rintro e y2 ⟨rfl, hj⟩
        have hk := hk.non hj
        have h4 := h4.kp hj fun _ _ h => h
        refine ⟨.agg (bys (be x.val) 32), rfl, hk, ?_⟩
        refine wpAnyH_ready (rs := [5, 6]) (by kernel_rfl) (by simp) ?_
        refine stepGo 17 #[.agg (a8 (ew y))] (some 13) rfl rfl (by kernel_rfl) (by kernel_rfl) c17e ?_ ?_
        · rintro e y3 ⟨rfl, hj⟩
          have hk := hk.non hj
          have h4 := h4.kp hj fun _ _ h => h
          refine ⟨.agg (bys (be y.val) 32), rfl, hk, ?_⟩
          refine wpAnyH_ready (rs := [6]) (by kernel_rfl) (by simp) ?_
          refine stepA23 (some 3) rfl rfl (by kernel_rfl) (by kernel_rfl) ?_ ?_
          · intro B3 y4 l3 m3 hj h3
            have hks := hk.size
            have hne : B3 ≠ B4 := by have := (h4 0 (by omega)).1.lt; omega
            replace h4 := h4.kp hj fun _ _ h => h
            have hk := hk.non hj
            replace l3 := Nat.le_trans hks l3
            refine ⟨hk, ?_⟩
            refine wpAnyH_ready (rs := [8]) (by kernel_rfl) (by simp) ?_
            refine stepS23 (.tmp 3) (.tmp 10) B3 (be x.val) rfl rfl (by kernel_rfl) rfl (by kernel_rfl) (by kernel_rfl) h3 (fun _ _ => by unfold be; omega) ?_ ?_
            · intro y5 hj h3
              have hk := kp_in hk hj l3
              replace h4 := h4.kp hj fun i _ h => hne.symm h.1
              refine ⟨hk, ?_⟩
              refine wpAnyH_ready (rs := [9]) (by kernel_rfl) (by simp) ?_
              refine stepS23 (.tmp 4) (.tmp 13) B4 (be y.val) rfl rfl (by kernel_rfl) rfl (by kernel_rfl) (by kernel_rfl) h4 (fun _ _ => by unfold be; omega) ?_ ?_
              · intro y6 hj h4
                have hk := kp_in hk hj l4
                replace h3 := h3.kp hj fun i _ h => hne h.1
                refine ⟨hk, ?_⟩
                refine wpAnyH_done (by kernel_rfl) ?_ _
                refine NoPanic.normal ?_
                simp only [Act.put, List.setIfInBounds_toArray, List.set_cons_zero, List.set_cons_succ]
                go_wp2_with fail
                go_meet
                case rel => exact ⟨_, _, rfl, rfl, Lib.hid ⟨hk, h3, h4⟩⟩
              exact AllReadyH.nil
            exact AllReadyH.nil
          exact AllReadyH.nil
        refine stepA23 (some 3) rfl rfl (by kernel_rfl) (by kernel_rfl) ?_ ?_
        · intro B3 y3 l3 m3 hj h3
          have hks := hk.size
          have hne : B3 ≠ B4 := by have := (h4 0 (by omega)).1.lt; omega
          replace h4 := h4.kp hj fun _ _ h => h
          have hk := hk.non hj
          replace l3 := Nat.le_trans hks l3
          refine ⟨hk, ?_⟩
          refine wpAnyH_ready (rs := [5]) (by kernel_rfl) (by simp) ?_
          refine stepGo 17 #[.agg (a8 (ew y))] (some 13) rfl rfl (by kernel_rfl) (by kernel_rfl) c17e ?_ ?_
          · rintro e y4 ⟨rfl, hj⟩
            have hk := hk.non hj
            have h3 := h3.kp hj fun _ _ h => h
            have h4 := h4.kp hj fun _ _ h => h
            refine ⟨.agg (bys (be y.val) 32), rfl, hk, ?_⟩
            refine wpAnyH_ready (rs := [8]) (by kernel_rfl) (by simp) ?_
            refine stepS23 (.tmp 3) (.tmp 10) B3 (be x.val) rfl rfl (by kernel_rfl) rfl (by kernel_rfl) (by kernel_rfl) h3 (fun _ _ => by unfold be; omega) ?_ ?_
            · intro y5 hj h3
              have hk := kp_in hk hj l3
              replace h4 := h4.kp hj fun i _ h => hne.symm h.1
              refine ⟨hk, ?_⟩
              refine wpAnyH_ready (rs := [9]) (by kernel_rfl) (by simp) ?_
              refine stepS23 (.tmp 4) (.tmp 13) B4 (be y.val) rfl rfl (by kernel_rfl) rfl (by kernel_rfl) (by kernel_rfl) h4 (fun _ _ => by unfold be; omega) ?_ ?_
              · intro y6 hj h4
                have hk := kp_in hk hj l4
                replace h3 := h3.kp hj fun i _ h => hne h.1
                refine ⟨hk, ?_⟩
                refine wpAnyH_done (by kernel_rfl) ?_ _
                refine NoPanic.normal ?_
                simp only [Act.put, List.setIfInBounds_toArray, List.set_cons_zero, List.set_cons_succ]
                go_wp2_with fail
                go_meet
                case rel => exact ⟨_, _, rfl, rfl, Lib.hid ⟨hk, h3, h4⟩⟩
              exact AllReadyH.nil
            exact AllReadyH.nil
          exact AllReadyH.nil
        exact AllReadyH.nil
      refine stepA23 (some 3) rfl rfl (by kernel_rfl) (by kernel_rfl) ?_ ?_
      · intro B3 y2 l3 m3 hj h3
        have hks := hk.size
        have hne : B3 ≠ B4 := by have := (h4 0 (by omega)).1.lt; omega
        replace h4 := h4.kp hj fun _ _ h => h
        have hk := hk.non hj
        replace l3 := Nat.le_trans hks l3
        refine ⟨hk, ?_⟩
        refine wpAnyH_ready (rs := [2]) (by kernel_rfl) (by simp) ?_
        refine stepGo 17 #[.agg (a8 (ew x))] (some 10) rfl rfl (by kernel_rfl) (by kernel_rfl) c17e ?_ ?_
        · rintro e y3 ⟨rfl, hj⟩
          have hk := hk.non hj
          have h3 := h3.kp hj fun _ _ h => h
          have h4 := h4.kp hj fun _ _ h => h
          refine ⟨.agg (bys (be x.val) 32), rfl, hk, ?_⟩
          refine wpAnyH_ready (rs := [5]) (by kernel_rfl) (by simp) ?_
          refine stepGo 17 #[.agg (a8 (ew y))] (some 13) rfl rfl (by kernel_rfl) (by kernel_rfl) c17e ?_ ?_
          · rintro e y4 ⟨rfl, hj⟩
            have hk := hk.non hj
            have h3 := h3.kp hj fun _ _ h => h
            have h4 := h4.kp hj fun _ _ h => h
            refine ⟨.agg (bys (be y.val) 32), rfl, hk, ?_⟩
            refine wpAnyH_ready (rs := [8]) (by kernel_rfl) (by simp) ?_
            refine stepS23 (.tmp 3) (.tmp 10) B3 (be x.val) rfl rfl (by kernel_rfl) rfl (by kernel_rfl) (by kernel_rfl) h3 (fun _ _ => by unfold be; omega) ?_ ?_
            · intro y5 hj h3
              have hk := kp_in hk hj l3
              replace h4 := h4.kp hj fun i _ h => hne.symm h.1
              refine ⟨hk, ?_⟩
              refine wpAnyH_ready (rs := [9]) (by kernel_rfl) (by simp) ?_
              refine stepS23 (.tmp 4) (.tmp 13) B4 (be y.val) rfl rfl (by kernel_rfl) rfl (by kernel_rfl) (by kernel_rfl) h4 (fun _ _ => by unfold be; omega) ?_ ?_
              · intro y6 hj h4
                have hk := kp_in hk hj l4
                replace h3 := h3.kp hj fun i _ h => hne h.1
                refine ⟨hk, ?_⟩
                refine wpAnyH_done (by kernel_rfl) ?_ _
                refine NoPanic.normal ?_
                simp only [Act.put, List.setIfInBounds_toArray, List.set_cons_zero, List.set_cons_succ]
                go_wp2_with fail
                go_meet
                case rel => exact ⟨_, _, rfl, rfl, Lib.hid ⟨hk, h3, h4⟩⟩
              exact AllReadyH.nil
            exact AllReadyH.nil
          exact AllReadyH.nil
        exact AllReadyH.nil
      exact AllReadyH.nil
    exact AllReadyH.nil
  case rest =>
    obtain ⟨B3, B4, rfl, rfl, hh⟩ := hcut
    obtain ⟨hkc, h3, h4⟩ := hh.out
    clear hP h0 c0
    go_wp2_with fail
    have hkd : Kp non w wc := k0.non hkc
    have hk : Kp non w wc.drew := hkd.drew
    replace h3 := h3.drew
    replace h4 := h4.drew
    refine wp_region_noPanic ?_
    refine wp_region_held_drew (S := (fun w' => Kp non w w')) (by kernel_rfl) hk (fun hHeld => ?_)
    refine takeD 1 (some 15) (.slice (some ⟨B3, 0, none⟩) 32 32) rfl rfl (by kernel_rfl) (by kernel_rfl) (by kernel_rfl) (Or.inl ⟨by kernel_rfl, fun w hw => by kernel_rfl⟩) hk ?_
    refine takeD 3 (some 17) (.slice (some ⟨B4, 0, none⟩) 32 32) rfl rfl (by kernel_rfl) (by kernel_rfl) (by kernel_rfl) (Or.inl ⟨by kernel_rfl, fun w hw => by kernel_rfl⟩) hk ?_
    refine wpAnyH_ready (rs := [0]) (by kernel_rfl) (by simp) ?_
    refine stepVal (.slice (some ⟨(wc.drew).heap.size, 0, none⟩) 1 1) ((wc.drew).alloc (.cells #[.int .u8 4] 5)) (some 14) rfl rfl (by kernel_rfl) (by kernel_rfl) ?_ ?_
    · have ka : Kp non wc.drew (wc.drew.alloc (.cells #[.int .u8 4] 5)) := (Kp.refl _ _).alloc _
      obtain ⟨v1, w1, v2, w2, r1, k1, r2, k2, B, C, rfl, hC, hB⟩ := append_two (ty := 22) (c3 := 32) (c4 := 32) (By.one wc.drew 4 4 rfl (by omega) 5) (h3.kp ka fun _ _ h => h) (h4.kp ka fun _ _ h => h)
      have hk := hk.non ka
      have hk1 := hk.non k1
      have hk2 := hk.non k2
      refine ⟨hk, ?_⟩
      refine wpAnyH_ready (rs := [2]) (by kernel_rfl) (by simp) ?_
      refine stepVal (v1) (w1) (some 16) rfl rfl (by kernel_rfl) (exec_append rfl (by kernel_rfl) (by kernel_rfl) r1) ?_ ?_
      · have hk := hk1
        refine ⟨hk, ?_⟩
        refine wpAnyH_ready (rs := [4]) (by kernel_rfl) (by simp) ?_
        refine stepVal (.slice (some ⟨B, 0, none⟩) 65 C) (w2) (some 18) rfl rfl (by kernel_rfl) (exec_append rfl (by kernel_rfl) (by kernel_rfl) r2) ?_ ?_
        · have hk := hk2
          refine ⟨hk, ?_⟩
          refine takeD 5 (some 2) (.slice (some ⟨B, 0, none⟩) 65 C) rfl rfl (by kernel_rfl) (by kernel_rfl) (by kernel_rfl) (Or.inl ⟨by kernel_rfl, fun w hw => by kernel_rfl⟩) hk ?_
          refine wpAnyH_done (by kernel_rfl) ?_ _
          refine NoPanic.normal ?_
          simp only [Act.put, List.setIfInBounds_toArray, List.set_cons_zero, List.set_cons_succ]
          go_wp2_with fail
          go_ret
          exact ⟨_, rfl, ⟨B, C, rfl, hC, hB.congr fun i hi => encA_if _ _ i⟩, hk⟩
        exact AllReadyH.nil
      exact AllReadyH.nil
    exact AllReadyH.nil
end Go.Proofs.Ytjdjhccefnffmaa
