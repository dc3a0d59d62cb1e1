import Derived.Test.YtjdjhccefnffmaaB22
set_option linter.unusedVariables false
set_option linter.unusedSimpArgs false
set_option maxRecDepth 100000
set_option maxHeartbeats 1000000
namespace Go.Proofs.Ytjdjhccefnffmaa
open Go LX Go.RowKit
/-- The number of 32 bytes. -/
def N32 (f : Nat → Nat) (n : Nat) (w : World) (e : Ending) (w' : World) : Prop := e = .returned (.agg (a8 (nw n))) ∧ Kp non w w'
theorem By.rangeo {w : World} {b o n : Nat} {f : Nat → Nat} (h : By w b o n f) : w.rangeAt b o (byl f n) := fun j v hv => by
  have hj : j < n := by
    have := (List.getElem?_eq_some_iff.1 hv).1
    rwa [byl_len] at this
  rw [byl_get f n j hj] at hv
  rw [← Option.some.inj hv]
  exact (h j hj).1.1
theorem e31 {w : World} {f : Nat → Nat} (hf : ∀ i, i < 32 → f i < 256) : Calls Try.prog 31 #[.agg (byl f 32).toArray] w fun e w' => ∃ n, Hid (n = hi8 f 32) ∧ e = .returned (.agg (a8 (nw n))) ∧ Kp non w w' :=
  (c31 hf).mono fun _ _ h => ⟨_, Lib.hid rfl, h.1, h.2⟩
theorem h256 {f : Nat → Nat} (hf : ∀ i, i < 32 → f i < 256) : hi8 f 32 < 115792089237316195423570985008687907853269984665640564039457584007913129639936 := by
  have e := ch_val f
  have h := (val8_range (ch_W32 hf)).2
  omega
theorem nw_W32 (n : Nat) : W32 (nw n) := fun i _ => by unfold nw; omega
theorem val8_nw {n : Nat} (h : n < 115792089237316195423570985008687907853269984665640564039457584007913129639936) : val8 (nw n) = n := by
  simp only [val8, nw, Nat.reducePow]
  omega
theorem nw_ew (x : EC.F) : nw x.val = ew x := funext fun i => by rw [nw_wdI]; rfl
theorem ofPN {n : Nat} (h : n < PN) : ∃ x : EC.F, n = x.val := ⟨nF n, by rw [nF_val, Nat.mod_eq_of_lt h]⟩
theorem m32e {w : World} {x : EC.F} : Calls Try.prog 32 #[.agg (a8 (ew x)), .agg (a8 pW)] w fun e w' => e = .returned (.bool true) ∧ Kp non w w' := by
  refine (c32 (ew_W32 x) pW_W32).mono ?_
  rintro e w' ⟨b, rfl, h, hk⟩
  rw [ew_val, pW_val, pI_eq] at h
  rw [h.2 (by have := Nat.lt_of_lt_of_eq x.isLt PN_eq; omega)]
  exact ⟨rfl, hk⟩
theorem m32f {w : World} {n : Nat} (h : ¬ n < PN) (h2 : n < 115792089237316195423570985008687907853269984665640564039457584007913129639936) : Calls Try.prog 32 #[.agg (a8 (nw n)), .agg (a8 pW)] w fun e w' => e = .returned (.bool false) ∧ Kp non w w' := by
  refine (c32 (nw_W32 n) pW_W32).mono ?_
  rintro e w' ⟨b, rfl, h3, hk⟩
  rw [val8_nw h2, pW_val, pI_eq] at h3
  cases b with
  | false => exact ⟨rfl, hk⟩
  | true => have := h3.1 rfl; omega
theorem kpT17 {W0 W : World} {b : Nat} (h : Kp (at_ b 0 17) W0 W) (fr : Bool) (x y : Nat → Int) : Kp (at_ b 0 17) W0 (W.setCells b 0 (pl fr x y)) :=
  Kp.setCells b _ 0 W h fun j hj _ => ⟨rfl, by omega, by rw [pl_len] at hj; omega⟩
theorem rd13_on {w W : World} {x y : EC.F} {b : Bool} (hb : b = true ↔ y * y = poly x) (kk : Kp non w W) : Rd13 ((rdL x.val y.val).map fun t => .aff t.1 t.2.1) w (.returned (.tuple #[.agg (pl false (ew x) (ew y)).toArray, .bool b])) W := by
  have hx : x.val < PN := Nat.lt_of_lt_of_eq x.isLt PN_eq
  have hy : y.val < PN := Nat.lt_of_lt_of_eq y.isLt PN_eq
  by_cases h : y * y = poly x
  · rw [rdL_some hx hy (by rw [nF_of, nF_of]; exact h), hb.2 h, nF_of, nF_of]
    exact ⟨_, _, _, rfl, fun _ h => Option.some.inj h ▸ rfl, kk⟩
  · rw [rdL_none (fun hh => h (by have := hh.2.2; rwa [nF_of, nF_of] at this))]
    have : b = false := by cases b with | false => rfl | true => exact absurd (hb.1 rfl) h
    rw [this]
    exact ⟨_, _, _, rfl, (fun _ h => nomatch h), kk⟩
theorem c13_long {w : World} {b o c : Nat} {f : Nat → Nat} (hb : By w b o 65 f) (hf : f 0 = 4) (hc : 65 ≤ c) :
    Calls Try.prog 13 #[.slice (some ⟨b, o, none⟩) 65 c] w (Rd13 ((rdL (hi8 (fun i => f (1 + i)) 32) (hi8 (fun i => f (33 + i)) 32)).map fun t => .aff t.1 t.2.1) w) := by
  have hz := z27
  have hbl := (hb 0 (by omega)).1.lt
  have k0 : Kp non w (w.alloc (.cells (pl false (fun _ => 0) fun _ => 0).toArray 27)) := ((Kp.refl _ w).alloc _)
  have h0 := (Pl.new w 27 false (fun _ => 0) fun _ => 0)
  replace hb := hb.kp k0 fun _ _ h => h
  have g0 : (w.alloc (.cells (pl false (fun _ => 0) fun _ => 0).toArray 27)).cell? ⟨b, o, none⟩ = some (.int .u8 4) := by have := (hb 0 (by omega)).1.1; rw [hf] at this; exact this
  have hx := hb.sub 1 32 (by omega)
  have hy := hb.sub 33 32 (by omega)
  have hfx : ∀ i, i < 32 → (fun i => f (1 + i)) i < 256 := fun i hi => (hb (1 + i) (by omega)).2
  have hfy : ∀ i, i < 32 → (fun i => f (33 + i)) i < 256 := fun i hi => (hb (33 + i) (by omega)).2
  have hci : (33 : Int) ≤ (c : Int) := by omega
  have hci2 : (65 : Int) ≤ (c : Int) := by omega
  clear hb
  generalize (fun i => f (1 + i)) = fx at *
  generalize (fun i => f (33 + i)) = fy at *
  obtain ⟨X0, hX0⟩ : ∃ X, X = hi8 fx 32 := ⟨_, rfl⟩
  obtain ⟨Y0, hY0⟩ : ∃ X, X = hi8 fy 32 := ⟨_, rfl⟩
  rw [← hX0, ← hY0]
  replace hX0 := Lib.hid hX0
  replace hY0 := Lib.hid hY0
  go_enter Try.func13, Try.ntmps13
  go_wp2_with fail
  generalize hHH : w.heap.size = H at *
  generalize hWW : (w.alloc (.cells (pl false (fun _ => 0) fun _ => 0).toArray 27)) = W0 at *
  have hrx : ∀ W, Kp non W0 W → W.rangeAt b (o + 1) (byl fx 32) := fun W hk => (hx.kp hk fun _ _ h => h).rangeo
  have hry : ∀ W, Kp non W0 W → W.rangeAt b (o + 33) (byl fy 32) := fun W hk => (hy.kp hk fun _ _ h => h).rangeo
  have hS : ∀ W, Kp non W0 W → (Kp non W0 W ∧ W.rangeAt b (o + 1) (byl fx 32) ∧ W.rangeAt b (o + 33) (byl fy 32)) := fun W hk => ⟨hk, hrx W hk, hry W hk⟩
  have hs : Kp non W0 W0.drew := (Kp.refl _ _).drew
  have hu : Try.prog.underlying 23 = some (.array 32 5) := by kernel_rfl
  have hi : (Try.prog.info? 23).map (·.size) = some (byl fx 32).length := by rw [byl_len]; kernel_rfl
  have hi2 : (Try.prog.info? 23).map (·.size) = some (byl fy 32).length := by rw [byl_len]; kernel_rfl
  have hn27 : (Try.prog.info? 27).map (·.size) = some 17 := by kernel_rfl
  have ha : ∀ (ad : Addr) (c : Nat) (W : World), (Instr.arrayAt 23 (.slice (some ad) 32 c)).run Try.prog W = .ok (.pointer (some ad)) W := fun ad c W => by kernel_rfl
  go_cut [4] from 29 to 39 (fun t4 wx => ∃ B X Y, t4 = pt B 0 ∧ Hid (X = hi8 fx 32 ∧ Y = hi8 fy 32 ∧ Kp non W0 wx ∧ W0.heap.size ≤ B ∧ Pl wx B false (nw X) (nw Y)))
  case first =>
    have hk := hs
    refine wp_region_noPanic ?_
    refine wp_region_held_drew (S := (fun w' => Kp non W0 w')) (by kernel_rfl) hs (fun hHeld => ?_)
    refine takeD 0 (some 29) (.slice (some ⟨b, o, none⟩) 65 c) rfl rfl (by kernel_rfl) (by kernel_rfl) (by kernel_rfl) (Or.inl ⟨by kernel_rfl, fun w hw => by kernel_rfl⟩) hk ?_
    refine takeD 1 (some 30) (.slice (some ⟨b, o + 1, none⟩) 32 (c - 1)) rfl rfl (by kernel_rfl) (by kernel_rfl) (by kernel_rfl) (Or.inl ⟨by kernel_rfl, fun w hw => by go_simp; omega⟩) hk ?_
    refine takeD 2 (some 31) (.pointer (some ⟨b, o + 1, none⟩)) rfl rfl (by kernel_rfl) (by kernel_rfl) (by kernel_rfl) (Or.inl ⟨by kernel_rfl, fun w hw => by kernel_rfl⟩) hk ?_
    refine takeD 3 (some 32) (.agg (byl fx 32).toArray) rfl rfl (by kernel_rfl) (by kernel_rfl) (by kernel_rfl) (yieldsIf_load_mid (by kernel_rfl) 23 _ rfl b (o + 1) (by kernel_rfl) (byl fx 32) (.array 32 5) hrx hu rfl hi) hk ?_
    refine takeD 5 (some 34) (.slice (some ⟨b, o, none⟩) 65 c) rfl rfl (by kernel_rfl) (by kernel_rfl) (by kernel_rfl) (Or.inl ⟨by kernel_rfl, fun w hw => by kernel_rfl⟩) hk ?_
    refine takeD 6 (some 35) (.slice (some ⟨b, o + 33, none⟩) 32 (c - 33)) rfl rfl (by kernel_rfl) (by kernel_rfl) (by kernel_rfl) (Or.inl ⟨by kernel_rfl, fun w hw => by go_simp; omega⟩) hk ?_
    refine takeD 7 (some 36) (.pointer (some ⟨b, o + 33, none⟩)) rfl rfl (by kernel_rfl) (by kernel_rfl) (by kernel_rfl) (Or.inl ⟨by kernel_rfl, fun w hw => by kernel_rfl⟩) hk ?_
    refine takeD 8 (some 37) (.agg (byl fy 32).toArray) rfl rfl (by kernel_rfl) (by kernel_rfl) (by kernel_rfl) (yieldsIf_load_mid (by kernel_rfl) 23 _ rfl b (o + 33) (by kernel_rfl) (byl fy 32) (.array 32 5) hry hu rfl hi2) hk ?_
    refine wpAnyH_ready (rs := [4, 11]) (by kernel_rfl) (by simp) ?_
    refine stepGo 31 #[.agg (byl fx 32).toArray] (some 33) rfl rfl (by kernel_rfl) (by kernel_rfl) (e31 hfx) ?_ ?_
    · rintro e y1 ⟨X, hX, rfl, hj⟩
      have hk := hk.non hj
      refine ⟨.agg (a8 (nw X)), rfl, hk, ?_⟩
      refine wpAnyH_ready (rs := [9, 11]) (by kernel_rfl) (by simp) ?_
      refine stepGo 31 #[.agg (byl fy 32).toArray] (some 38) rfl rfl (by kernel_rfl) (by kernel_rfl) (e31 hfy) ?_ ?_
      · rintro e y2 ⟨Y, hY, rfl, hj⟩
        have hk := hk.non hj
        refine ⟨.agg (a8 (nw Y)), rfl, hk, ?_⟩
        refine takeD 10 (some 39) (.agg (pl false (nw X) (nw Y)).toArray) rfl rfl (by kernel_rfl) (by kernel_rfl) (by kernel_rfl) (Or.inl ⟨by kernel_rfl, fun w hw => by kernel_rfl⟩) hk ?_
        refine wpAnyH_ready (rs := [11]) (by kernel_rfl) (by simp) ?_
        refine stepVal (pt (y2).heap.size 0) ((y2).alloc (.cells (pl false (fun _ => 0) fun _ => 0).toArray 27)) (some 4) rfl rfl (by kernel_rfl) (by kernel_rfl) ?_ ?_
        · have hBl := hk.size
          have hB := Pl.new (y2) 27 false (fun _ => 0) fun _ => 0
          have hk := hk.alloc (.cells (pl false (fun _ => 0) fun _ => 0).toArray 27)
          refine ⟨hk, ?_⟩
          refine wpAnyH_ready (rs := [12]) (by kernel_rfl) (by simp) ?_
          refine stepStore 27 (.tmp 4) (.tmp 39) y2.heap.size 0 (pl false (nw X) (nw Y)) rfl rfl (by kernel_rfl) rfl (by kernel_rfl) (by kernel_rfl) hB.t hn27 (pl_one _ _ _) ?_ ?_
          · have hk := kp_freshL hk hBl 0 (pl false (nw X) (nw Y))
            have hB := hB.set (fr' := false) (x' := nw X) (y' := nw Y)
            refine ⟨hk, ?_⟩
            refine wpAnyH_done (by kernel_rfl) ?_ _
            refine NoPanic.normal ?_
            simp only [Act.put, List.setIfInBounds_toArray, List.set_cons_zero, List.set_cons_succ]
            go_wp2_with fail
            go_meet
            case rel => exact ⟨_, _, _, rfl, Lib.hid ⟨hX.out, hY.out, hk, hBl, hB⟩⟩
          exact AllReadyH.nil
        exact AllReadyH.nil
      refine stepVal (pt (y1).heap.size 0) ((y1).alloc (.cells (pl false (fun _ => 0) fun _ => 0).toArray 27)) (some 4) rfl rfl (by kernel_rfl) (by kernel_rfl) ?_ ?_
      · have hBl := hk.size
        have hB := Pl.new (y1) 27 false (fun _ => 0) fun _ => 0
        have hk := hk.alloc (.cells (pl false (fun _ => 0) fun _ => 0).toArray 27)
        refine ⟨hk, ?_⟩
        refine wpAnyH_ready (rs := [9]) (by kernel_rfl) (by simp) ?_
        refine stepGo 31 #[.agg (byl fy 32).toArray] (some 38) rfl rfl (by kernel_rfl) (by kernel_rfl) (e31 hfy) ?_ ?_
        · rintro e y3 ⟨Y, hY, rfl, hj⟩
          have hk := hk.non hj
          have hB := hB.kp hj fun _ h => h
          refine ⟨.agg (a8 (nw Y)), rfl, hk, ?_⟩
          refine takeD 10 (some 39) (.agg (pl false (nw X) (nw Y)).toArray) rfl rfl (by kernel_rfl) (by kernel_rfl) (by kernel_rfl) (Or.inl ⟨by kernel_rfl, fun w hw => by kernel_rfl⟩) hk ?_
          refine wpAnyH_ready (rs := [12]) (by kernel_rfl) (by simp) ?_
          refine stepStore 27 (.tmp 4) (.tmp 39) y1.heap.size 0 (pl false (nw X) (nw Y)) rfl rfl (by kernel_rfl) rfl (by kernel_rfl) (by kernel_rfl) hB.t hn27 (pl_one _ _ _) ?_ ?_
          · have hk := kp_freshL hk hBl 0 (pl false (nw X) (nw Y))
            have hB := hB.set (fr' := false) (x' := nw X) (y' := nw Y)
            refine ⟨hk, ?_⟩
            refine wpAnyH_done (by kernel_rfl) ?_ _
            refine NoPanic.normal ?_
            simp only [Act.put, List.setIfInBounds_toArray, List.set_cons_zero, List.set_cons_succ]
            go_wp2_with fail
            go_meet
            case rel => exact ⟨_, _, _, rfl, Lib.hid ⟨hX.out, hY.out, hk, hBl, hB⟩⟩
          exact AllReadyH.nil
        exact AllReadyH.nil
      exact AllReadyH.nil
    refine stepVal (pt (W0.drew).heap.size 0) ((W0.drew).alloc (.cells (pl false (fun _ => 0) fun _ => 0).toArray 27)) (some 4) rfl rfl (by kernel_rfl) (by kernel_rfl) ?_ ?_
    · have hBl := hk.size
      have hB := Pl.new (W0.drew) 27 false (fun _ => 0) fun _ => 0
      have hk := hk.alloc (.cells (pl false (fun _ => 0) fun _ => 0).toArray 27)
      refine ⟨hk, ?_⟩
      refine wpAnyH_ready (rs := [4]) (by kernel_rfl) (by simp) ?_
      refine stepGo 31 #[.agg (byl fx 32).toArray] (some 33) rfl rfl (by kernel_rfl) (by kernel_rfl) (e31 hfx) ?_ ?_
      · rintro e y2 ⟨X, hX, rfl, hj⟩
        have hk := hk.non hj
        have hB := hB.kp hj fun _ h => h
        refine ⟨.agg (a8 (nw X)), rfl, hk, ?_⟩
        refine wpAnyH_ready (rs := [9]) (by kernel_rfl) (by simp) ?_
        refine stepGo 31 #[.agg (byl fy 32).toArray] (some 38) rfl rfl (by kernel_rfl) (by kernel_rfl) (e31 hfy) ?_ ?_
        · rintro e y3 ⟨Y, hY, rfl, hj⟩
          have hk := hk.non hj
          have hB := hB.kp hj fun _ h => h
          refine ⟨.agg (a8 (nw Y)), rfl, hk, ?_⟩
          refine takeD 10 (some 39) (.agg (pl false (nw X) (nw Y)).toArray) rfl rfl (by kernel_rfl) (by kernel_rfl) (by kernel_rfl) (Or.inl ⟨by kernel_rfl, fun w hw => by kernel_rfl⟩) hk ?_
          refine wpAnyH_ready (rs := [12]) (by kernel_rfl) (by simp) ?_
          refine stepStore 27 (.tmp 4) (.tmp 39) W0.drew.heap.size 0 (pl false (nw X) (nw Y)) rfl rfl (by kernel_rfl) rfl (by kernel_rfl) (by kernel_rfl) hB.t hn27 (pl_one _ _ _) ?_ ?_
          · have hk := kp_freshL hk hBl 0 (pl false (nw X) (nw Y))
            have hB := hB.set (fr' := false) (x' := nw X) (y' := nw Y)
            refine ⟨hk, ?_⟩
            refine wpAnyH_done (by kernel_rfl) ?_ _
            refine NoPanic.normal ?_
            simp only [Act.put, List.setIfInBounds_toArray, List.set_cons_zero, List.set_cons_succ]
            go_wp2_with fail
            go_meet
            case rel => exact ⟨_, _, _, rfl, Lib.hid ⟨hX.out, hY.out, hk, hBl, hB⟩⟩
          exact AllReadyH.nil
        exact AllReadyH.nil
      exact AllReadyH.nil
    exact AllReadyH.nil

  case rest =>
    clear hS hs hrx hry hx hy hi hi2 ha hu
    obtain ⟨B, X, Y, rfl, hh⟩ := hcut
    obtain ⟨hX1, hY1, hkc, hB, hP0⟩ := hh.out
    rw [← hX0.out] at hX1
    rw [← hY0.out] at hY1
    subst X
    subst Y
    have hx := h256 hfx
    have hy := h256 hfy
    rw [← hX0.out] at hx
    rw [← hY0.out] at hy
    rw [← hWW] at hkc hB h0 k0
    have hHle : w.heap.size ≤ H := by omega
    have hBH : B ≠ H := by simp only [size1] at hB; omega
    replace h0 := Lib.hid (h0.kp hkc fun _ h => h)
    replace k0 := k0.non hkc
    clear hh hX0 hY0 hkc hB hWW hHH hfx hfy hf hc hci hci2 hn27
    go_wp2_with fail
    have hn : Kp non wc wc.drew := (Kp.refl _ _).drew
    have hk : Kp (at_ H 0 17) wc wc.drew := kpW hn
    by_cases hX : X0 < PN
    · obtain ⟨x, rfl⟩ := ofPN hX
      rw [nw_ew] at hP0
      by_cases hY : Y0 < PN
      · obtain ⟨y, rfl⟩ := ofPN hY
        rw [nw_ew] at hP0
        clear hx hy hX hY
        have hP : ∀ W, Kp (at_ H 0 17) wc W → Pl W B false (ew x) (ew y) := fun W hk => hP0.kp hk fun o h => hBH h.1
        refine wp_region_noPanic ?_
        refine wp_region_held_drew (S := (fun w' => Kp (at_ H 0 17) wc w')) (by kernel_rfl) hk (fun hHeld => ?_)
        refine takeD 0 (some 40) (.agg (pl false (ew x) (ew y)).toArray) rfl rfl (by kernel_rfl) (by kernel_rfl) (by kernel_rfl) (yl27 (.tmp 4) B false (ew x) (ew y) (by kernel_rfl) rfl (by kernel_rfl) hP) hk ?_
        refine takeD 1 (some 41) (.pointer (some ⟨B, 1, none⟩)) rfl rfl (by kernel_rfl) (by kernel_rfl) (by kernel_rfl) (Or.inl ⟨by kernel_rfl, fun w hw => by kernel_rfl⟩) hk ?_
        refine takeD 2 (some 42) (.agg (a8 (ew x))) rfl rfl (by kernel_rfl) (by kernel_rfl) (by kernel_rfl) (yl25 (.tmp 41) B 1 (ew x) (by kernel_rfl) rfl (by kernel_rfl) fun w h => (hP w h).x8) hk ?_
        refine wpAnyH_ready (rs := [3]) (by kernel_rfl) (by simp) ?_
        refine stepGo 33 #[] (some 43) rfl rfl (by kernel_rfl) (by kernel_rfl) c33 ?_ ?_
        · rintro e y1 ⟨rfl, hj⟩
          have hn := hn.non hj
          have hk : Kp (at_ H 0 17) wc y1 := kpW hn
          refine ⟨.agg (a8 pW), rfl, hk, ?_⟩
          refine wpAnyH_ready (rs := [4]) (by kernel_rfl) (by simp) ?_
          refine stepGo 32 #[.agg (a8 (ew x)), .agg (a8 pW)] (some 44) rfl rfl (by kernel_rfl) (by kernel_rfl) m32e ?_ ?_
          · rintro e y2 ⟨rfl, hj⟩
            have hn := hn.non hj
            have hk : Kp (at_ H 0 17) wc y2 := kpW hn
            refine ⟨.bool true, rfl, hk, ?_⟩
            refine takeD 5 (some 45) (.bool true) rfl rfl (by kernel_rfl) (by kernel_rfl) (by kernel_rfl) (Or.inl ⟨by kernel_rfl, fun w hw => by kernel_rfl⟩) hk ?_
            refine takeD 6 (some 46) (.pointer (some ⟨B, 9, none⟩)) rfl rfl (by kernel_rfl) (by kernel_rfl) (by kernel_rfl) (Or.inl ⟨by kernel_rfl, fun w hw => by kernel_rfl⟩) hk ?_
            refine takeD 7 (some 47) (.agg (a8 (ew y))) rfl rfl (by kernel_rfl) (by kernel_rfl) (by kernel_rfl) (yl25 (.tmp 46) B 9 (ew y) (by kernel_rfl) rfl (by kernel_rfl) fun w h => (hP w h).y8) hk ?_
            refine wpAnyH_ready (rs := [8]) (by kernel_rfl) (by simp) ?_
            refine stepGo 33 #[] (some 48) rfl rfl (by kernel_rfl) (by kernel_rfl) c33 ?_ ?_
            · rintro e y3 ⟨rfl, hj⟩
              have hn := hn.non hj
              have hk : Kp (at_ H 0 17) wc y3 := kpW hn
              refine ⟨.agg (a8 pW), rfl, hk, ?_⟩
              refine wpAnyH_ready (rs := [9]) (by kernel_rfl) (by simp) ?_
              refine stepGo 32 #[.agg (a8 (ew y)), .agg (a8 pW)] (some 49) rfl rfl (by kernel_rfl) (by kernel_rfl) m32e ?_ ?_
              · rintro e y4 ⟨rfl, hj⟩
                have hn := hn.non hj
                have hk : Kp (at_ H 0 17) wc y4 := kpW hn
                refine ⟨.bool true, rfl, hk, ?_⟩
                refine takeD 10 (some 50) (.bool true) rfl rfl (by kernel_rfl) (by kernel_rfl) (by kernel_rfl) (Or.inl ⟨by kernel_rfl, fun w hw => by kernel_rfl⟩) hk ?_
                refine takeD 11 (some 51) (.bool true) rfl rfl (by kernel_rfl) (by kernel_rfl) (by kernel_rfl) (Or.inl ⟨by kernel_rfl, fun w hw => by kernel_rfl⟩) hk ?_
                refine takeD 12 (some 52) (.pointer (some ⟨B, 1, none⟩)) rfl rfl (by kernel_rfl) (by kernel_rfl) (by kernel_rfl) (Or.inl ⟨by kernel_rfl, fun w hw => by kernel_rfl⟩) hk ?_
                refine takeD 13 (some 53) (.agg (a8 (ew x))) rfl rfl (by kernel_rfl) (by kernel_rfl) (by kernel_rfl) (yl25 (.tmp 52) B 1 (ew x) (by kernel_rfl) rfl (by kernel_rfl) fun w h => (hP w h).x8) hk ?_
                refine takeD 14 (some 54) (.pointer (some ⟨B, 9, none⟩)) rfl rfl (by kernel_rfl) (by kernel_rfl) (by kernel_rfl) (Or.inl ⟨by kernel_rfl, fun w hw => by kernel_rfl⟩) hk ?_
                refine takeD 15 (some 55) (.agg (a8 (ew y))) rfl rfl (by kernel_rfl) (by kernel_rfl) (by kernel_rfl) (yl25 (.tmp 54) B 9 (ew y) (by kernel_rfl) rfl (by kernel_rfl) fun w h => (hP w h).y8) hk ?_
                refine wpAnyH_ready (rs := [16]) (by kernel_rfl) (by simp) ?_
                refine stepGo 34 #[.agg (a8 (ew x)), .agg (a8 (ew y))] (some 56) rfl rfl (by kernel_rfl) (by kernel_rfl) (c34 (x := x) (y := y)) ?_ ?_
                · rintro e y5 ⟨bb, rfl, hbb, hj⟩
                  have hn := hn.non hj
                  have hk : Kp (at_ H 0 17) wc y5 := kpW hn
                  refine ⟨.bool bb, rfl, hk, ?_⟩
                  refine takeD 17 (some 57) (.bool bb) rfl rfl (by kernel_rfl) (by kernel_rfl) (by kernel_rfl) (Or.inl ⟨by kernel_rfl, fun w hw => by kernel_rfl⟩) hk ?_
                  refine wpAnyH_ready (rs := [18]) (by kernel_rfl) (by simp) ?_
                  refine stepStore 27 (.tmp 2) (.tmp 40) H 0 (pl false (ew x) (ew y)) rfl rfl (by kernel_rfl) rfl (by kernel_rfl) (by kernel_rfl) (h0.out.kp hn fun _ h => h).t n27 (pl_one _ _ _) ?_ ?_
                  · have hr := (h0.out.kp hn fun _ h => h).set (fr' := false) (x' := ew x) (y' := ew y)
                    have kk := kp_freshL (k0.non hn) hHle 0 (pl false (ew x) (ew y))
                    have hk : Kp (at_ H 0 17) wc (y5.setCells H 0 (pl false (ew x) (ew y))) := kpT17 hk _ _ _
                    refine ⟨hk, ?_⟩
                    refine takeD 19 (some 3) (.bool bb) rfl rfl (by kernel_rfl) (by kernel_rfl) (by kernel_rfl) (Or.inl ⟨by kernel_rfl, fun w hw => by kernel_rfl⟩) hk ?_
                    refine wpAnyH_done (by kernel_rfl) ?_ _
                    refine NoPanic.normal ?_
                    simp only [Act.put, List.setIfInBounds_toArray, List.set_cons_zero, List.set_cons_succ]
                    go_wp2_with fail
                    refine bodyPost_ret (resultsN27 rfl rfl rfl hr) rfl ?_
                    exact rd13_on hbb kk
                  exact AllReadyH.nil
                exact AllReadyH.nil
              exact AllReadyH.nil
            exact AllReadyH.nil
          exact AllReadyH.nil
        exact AllReadyH.nil
      · skip
        have hP : ∀ W, Kp (at_ H 0 17) wc W → Pl W B false (ew x) (nw Y0) := fun W hk => hP0.kp hk fun o h => hBH h.1
        refine wp_region_noPanic ?_
        refine wp_region_held_drew (S := (fun w' => Kp (at_ H 0 17) wc w')) (by kernel_rfl) hk (fun hHeld => ?_)
        refine takeD 0 (some 40) (.agg (pl false (ew x) (nw Y0)).toArray) rfl rfl (by kernel_rfl) (by kernel_rfl) (by kernel_rfl) (yl27 (.tmp 4) B false (ew x) (nw Y0) (by kernel_rfl) rfl (by kernel_rfl) hP) hk ?_
        refine takeD 1 (some 41) (.pointer (some ⟨B, 1, none⟩)) rfl rfl (by kernel_rfl) (by kernel_rfl) (by kernel_rfl) (Or.inl ⟨by kernel_rfl, fun w hw => by kernel_rfl⟩) hk ?_
        refine takeD 2 (some 42) (.agg (a8 (ew x))) rfl rfl (by kernel_rfl) (by kernel_rfl) (by kernel_rfl) (yl25 (.tmp 41) B 1 (ew x) (by kernel_rfl) rfl (by kernel_rfl) fun w h => (hP w h).x8) hk ?_
        refine wpAnyH_ready (rs := [3]) (by kernel_rfl) (by simp) ?_
        refine stepGo 33 #[] (some 43) rfl rfl (by kernel_rfl) (by kernel_rfl) c33 ?_ ?_
        · rintro e y1 ⟨rfl, hj⟩
          have hn := hn.non hj
          have hk : Kp (at_ H 0 17) wc y1 := kpW hn
          refine ⟨.agg (a8 pW), rfl, hk, ?_⟩
          refine wpAnyH_ready (rs := [4]) (by kernel_rfl) (by simp) ?_
          refine stepGo 32 #[.agg (a8 (ew x)), .agg (a8 pW)] (some 44) rfl rfl (by kernel_rfl) (by kernel_rfl) m32e ?_ ?_
          · rintro e y2 ⟨rfl, hj⟩
            have hn := hn.non hj
            have hk : Kp (at_ H 0 17) wc y2 := kpW hn
            refine ⟨.bool true, rfl, hk, ?_⟩
            refine takeD 5 (some 45) (.bool true) rfl rfl (by kernel_rfl) (by kernel_rfl) (by kernel_rfl) (Or.inl ⟨by kernel_rfl, fun w hw => by kernel_rfl⟩) hk ?_
            refine takeD 6 (some 46) (.pointer (some ⟨B, 9, none⟩)) rfl rfl (by kernel_rfl) (by kernel_rfl) (by kernel_rfl) (Or.inl ⟨by kernel_rfl, fun w hw => by kernel_rfl⟩) hk ?_
            refine takeD 7 (some 47) (.agg (a8 (nw Y0))) rfl rfl (by kernel_rfl) (by kernel_rfl) (by kernel_rfl) (yl25 (.tmp 46) B 9 (nw Y0) (by kernel_rfl) rfl (by kernel_rfl) fun w h => (hP w h).y8) hk ?_
            refine wpAnyH_ready (rs := [8]) (by kernel_rfl) (by simp) ?_
            refine stepGo 33 #[] (some 48) rfl rfl (by kernel_rfl) (by kernel_rfl) c33 ?_ ?_
            · rintro e y3 ⟨rfl, hj⟩
              have hn := hn.non hj
              have hk : Kp (at_ H 0 17) wc y3 := kpW hn
              refine ⟨.agg (a8 pW), rfl, hk, ?_⟩
              refine wpAnyH_ready (rs := [9]) (by kernel_rfl) (by simp) ?_
              refine stepGo 32 #[.agg (a8 (nw Y0)), .agg (a8 pW)] (some 49) rfl rfl (by kernel_rfl) (by kernel_rfl) (m32f hY hy) ?_ ?_
              · rintro e y4 ⟨rfl, hj⟩
                have hn := hn.non hj
                have hk : Kp (at_ H 0 17) wc y4 := kpW hn
                refine ⟨.bool false, rfl, hk, ?_⟩
                refine takeD 10 (some 50) (.bool false) rfl rfl (by kernel_rfl) (by kernel_rfl) (by kernel_rfl) (Or.inl ⟨by kernel_rfl, fun w hw => by kernel_rfl⟩) hk ?_
                refine takeD 11 (some 51) (.bool false) rfl rfl (by kernel_rfl) (by kernel_rfl) (by kernel_rfl) (Or.inl ⟨by kernel_rfl, fun w hw => by kernel_rfl⟩) hk ?_
                refine takeD 12 (some 52) (undef) rfl rfl (by kernel_rfl) (by kernel_rfl) (by kernel_rfl) (Or.inr ⟨by kernel_rfl, rfl⟩) hk ?_
                refine takeD 13 (some 53) (undef) rfl rfl (by kernel_rfl) (by kernel_rfl) (by kernel_rfl) (Or.inr ⟨by kernel_rfl, rfl⟩) hk ?_
                refine takeD 14 (some 54) (undef) rfl rfl (by kernel_rfl) (by kernel_rfl) (by kernel_rfl) (Or.inr ⟨by kernel_rfl, rfl⟩) hk ?_
                refine takeD 15 (some 55) (undef) rfl rfl (by kernel_rfl) (by kernel_rfl) (by kernel_rfl) (Or.inr ⟨by kernel_rfl, rfl⟩) hk ?_
                refine takeD 16 (some 56) (undef) rfl rfl (by kernel_rfl) (by kernel_rfl) (by kernel_rfl) (Or.inr ⟨by kernel_rfl, rfl⟩) hk ?_
                refine takeD 17 (some 57) (.bool false) rfl rfl (by kernel_rfl) (by kernel_rfl) (by kernel_rfl) (Or.inl ⟨by kernel_rfl, fun w hw => by kernel_rfl⟩) hk ?_
                refine wpAnyH_ready (rs := [18]) (by kernel_rfl) (by simp) ?_
                refine stepStore 27 (.tmp 2) (.tmp 40) H 0 (pl false (ew x) (nw Y0)) rfl rfl (by kernel_rfl) rfl (by kernel_rfl) (by kernel_rfl) (h0.out.kp hn fun _ h => h).t n27 (pl_one _ _ _) ?_ ?_
                · have hr := (h0.out.kp hn fun _ h => h).set (fr' := false) (x' := ew x) (y' := nw Y0)
                  have kk := kp_freshL (k0.non hn) hHle 0 (pl false (ew x) (nw Y0))
                  have hk : Kp (at_ H 0 17) wc (y4.setCells H 0 (pl false (ew x) (nw Y0))) := kpT17 hk _ _ _
                  refine ⟨hk, ?_⟩
                  refine takeD 19 (some 3) (.bool false) rfl rfl (by kernel_rfl) (by kernel_rfl) (by kernel_rfl) (Or.inl ⟨by kernel_rfl, fun w hw => by kernel_rfl⟩) hk ?_
                  refine wpAnyH_done (by kernel_rfl) ?_ _
                  refine NoPanic.normal ?_
                  simp only [Act.put, List.setIfInBounds_toArray, List.set_cons_zero, List.set_cons_succ]
                  go_wp2_with fail
                  refine bodyPost_ret (resultsN27 rfl rfl rfl hr) rfl ?_
                  rw [rdL_none (fun h => hY h.2.1)]
                  exact ⟨_, _, _, rfl, (fun _ h => nomatch h), kk⟩
                exact AllReadyH.nil
              exact AllReadyH.nil
            exact AllReadyH.nil
          exact AllReadyH.nil
        exact AllReadyH.nil
    · skip
      have hP : ∀ W, Kp (at_ H 0 17) wc W → Pl W B false (nw X0) (nw Y0) := fun W hk => hP0.kp hk fun o h => hBH h.1
      refine wp_region_noPanic ?_
      refine wp_region_held_drew (S := (fun w' => Kp (at_ H 0 17) wc w')) (by kernel_rfl) hk (fun hHeld => ?_)
      refine takeD 0 (some 40) (.agg (pl false (nw X0) (nw Y0)).toArray) rfl rfl (by kernel_rfl) (by kernel_rfl) (by kernel_rfl) (yl27 (.tmp 4) B false (nw X0) (nw Y0) (by kernel_rfl) rfl (by kernel_rfl) hP) hk ?_
      refine takeD 1 (some 41) (.pointer (some ⟨B, 1, none⟩)) rfl rfl (by kernel_rfl) (by kernel_rfl) (by kernel_rfl) (Or.inl ⟨by kernel_rfl, fun w hw => by kernel_rfl⟩) hk ?_
      refine takeD 2 (some 42) (.agg (a8 (nw X0))) rfl rfl (by kernel_rfl) (by kernel_rfl) (by kernel_rfl) (yl25 (.tmp 41) B 1 (nw X0) (by kernel_rfl) rfl (by kernel_rfl) fun w h => (hP w h).x8) hk ?_
      refine wpAnyH_ready (rs := [3]) (by kernel_rfl) (by simp) ?_
      refine stepGo 33 #[] (some 43) rfl rfl (by kernel_rfl) (by kernel_rfl) c33 ?_ ?_
      · rintro e y1 ⟨rfl, hj⟩
        have hn := hn.non hj
        have hk : Kp (at_ H 0 17) wc y1 := kpW hn
        refine ⟨.agg (a8 pW), rfl, hk, ?_⟩
        refine wpAnyH_ready (rs := [4]) (by kernel_rfl) (by simp) ?_
        refine stepGo 32 #[.agg (a8 (nw X0)), .agg (a8 pW)] (some 44) rfl rfl (by kernel_rfl) (by kernel_rfl) (m32f hX hx) ?_ ?_
        · rintro e y2 ⟨rfl, hj⟩
          have hn := hn.non hj
          have hk : Kp (at_ H 0 17) wc y2 := kpW hn
          refine ⟨.bool false, rfl, hk, ?_⟩
          refine takeD 5 (some 45) (.bool false) rfl rfl (by kernel_rfl) (by kernel_rfl) (by kernel_rfl) (Or.inl ⟨by kernel_rfl, fun w hw => by kernel_rfl⟩) hk ?_
          refine takeD 6 (some 46) (undef) rfl rfl (by kernel_rfl) (by kernel_rfl) (by kernel_rfl) (Or.inr ⟨by kernel_rfl, rfl⟩) hk ?_
          refine takeD 7 (some 47) (undef) rfl rfl (by kernel_rfl) (by kernel_rfl) (by kernel_rfl) (Or.inr ⟨by kernel_rfl, rfl⟩) hk ?_
          refine takeD 8 (some 48) (undef) rfl rfl (by kernel_rfl) (by kernel_rfl) (by kernel_rfl) (Or.inr ⟨by kernel_rfl, rfl⟩) hk ?_
          refine takeD 9 (some 49) (undef) rfl rfl (by kernel_rfl) (by kernel_rfl) (by kernel_rfl) (Or.inr ⟨by kernel_rfl, rfl⟩) hk ?_
          refine takeD 10 (some 50) (.bool false) rfl rfl (by kernel_rfl) (by kernel_rfl) (by kernel_rfl) (Or.inl ⟨by kernel_rfl, fun w hw => by kernel_rfl⟩) hk ?_
          refine takeD 11 (some 51) (.bool false) rfl rfl (by kernel_rfl) (by kernel_rfl) (by kernel_rfl) (Or.inl ⟨by kernel_rfl, fun w hw => by kernel_rfl⟩) hk ?_
          refine takeD 12 (some 52) (undef) rfl rfl (by kernel_rfl) (by kernel_rfl) (by kernel_rfl) (Or.inr ⟨by kernel_rfl, rfl⟩) hk ?_
          refine takeD 13 (some 53) (undef) rfl rfl (by kernel_rfl) (by kernel_rfl) (by kernel_rfl) (Or.inr ⟨by kernel_rfl, rfl⟩) hk ?_
          refine takeD 14 (some 54) (undef) rfl rfl (by kernel_rfl) (by kernel_rfl) (by kernel_rfl) (Or.inr ⟨by kernel_rfl, rfl⟩) hk ?_
          refine takeD 15 (some 55) (undef) rfl rfl (by kernel_rfl) (by kernel_rfl) (by kernel_rfl) (Or.inr ⟨by kernel_rfl, rfl⟩) hk ?_
          refine takeD 16 (some 56) (undef) rfl rfl (by kernel_rfl) (by kernel_rfl) (by kernel_rfl) (Or.inr ⟨by kernel_rfl, rfl⟩) hk ?_
          refine takeD 17 (some 57) (.bool false) rfl rfl (by kernel_rfl) (by kernel_rfl) (by kernel_rfl) (Or.inl ⟨by kernel_rfl, fun w hw => by kernel_rfl⟩) hk ?_
          refine wpAnyH_ready (rs := [18]) (by kernel_rfl) (by simp) ?_
          refine stepStore 27 (.tmp 2) (.tmp 40) H 0 (pl false (nw X0) (nw Y0)) rfl rfl (by kernel_rfl) rfl (by kernel_rfl) (by kernel_rfl) (h0.out.kp hn fun _ h => h).t n27 (pl_one _ _ _) ?_ ?_
          · have hr := (h0.out.kp hn fun _ h => h).set (fr' := false) (x' := nw X0) (y' := nw Y0)
            have kk := kp_freshL (k0.non hn) hHle 0 (pl false (nw X0) (nw Y0))
            have hk : Kp (at_ H 0 17) wc (y2.setCells H 0 (pl false (nw X0) (nw Y0))) := kpT17 hk _ _ _
            refine ⟨hk, ?_⟩
            refine takeD 19 (some 3) (.bool false) rfl rfl (by kernel_rfl) (by kernel_rfl) (by kernel_rfl) (Or.inl ⟨by kernel_rfl, fun w hw => by kernel_rfl⟩) hk ?_
            refine wpAnyH_done (by kernel_rfl) ?_ _
            refine NoPanic.normal ?_
            simp only [Act.put, List.setIfInBounds_toArray, List.set_cons_zero, List.set_cons_succ]
            go_wp2_with fail
            refine bodyPost_ret (resultsN27 rfl rfl rfl hr) rfl ?_
            rw [rdL_none (fun h => hX h.1)]
            exact ⟨_, _, _, rfl, (fun _ h => nomatch h), kk⟩
          exact AllReadyH.nil
        exact AllReadyH.nil
      exact AllReadyH.nil
end Go.Proofs.Ytjdjhccefnffmaa
set_option maxRecDepth 100000
set_option maxHeartbeats 1000000
namespace Go.Proofs.Ytjdjhccefnffmaa
open Go LX Go.RowKit
theorem ew_0 : Ev 0 = .agg #[.int .i64 0, .int .i64 0, .int .i64 0, .int .i64 0, .int .i64 0, .int .i64 0, .int .i64 0, .int .i64 0] := by kernel_rfl
theorem e37z {w : World} {b : EC.F} : Calls Try.prog 37 #[.agg #[.int .i64 0, .int .i64 0, .int .i64 0, .int .i64 0, .int .i64 0, .int .i64 0, .int .i64 0, .int .i64 0], Ev b] w (Ex01 (0 - b) w) := by
  have := e37 (w := w) (a := 0) (b := b)
  rwa [ew_0] at this
theorem nN_lit : Value.agg (a8 (nw EC.N)) = .agg #[.int .i64 4234356049, .int .i64 4089039554, .int .i64 2803342980, .int .i64 3169254061, .int .i64 4294967295, .int .i64 4294967295, .int .i64 0, .int .i64 4294967295] := by kernel_rfl
theorem c18 {w : World} : Calls Try.prog 18 #[] w (Nw01 EC.N w) := by
  unfold Nw01
  rw [nN_lit]
  go_enter Try.func18, Try.ntmps18
  go_wp2_with fail
  refine bodyPost_ret (v := .agg #[.int .i64 4234356049, .int .i64 4089039554, .int .i64 2803342980, .int .i64 3169254061, .int .i64 4294967295, .int .i64 4294967295, .int .i64 0, .int .i64 4294967295]) (by simp [results, Try.results18, go_sem]) rfl ?_
  exact ⟨rfl, (Kp.refl _ w).alloc _⟩
def gXw (i : Nat) : Int := [3633889942, 4104206661, 770388896, 1996717441, 1671708914, 4173129445, 3777774151, 1796723186].getD i 0
def gYw (i : Nat) : Int := [935285237, 3417718888, 1798397646, 734933847, 2081398294, 2397563722, 4263149467, 1340293858].getD i 0
theorem c28 {w : World} : Calls Try.prog 28 #[] w (Pv01 EC.Pt.G w) := by
  have hz := z27
  have k0 : Kp non w (w.alloc (.cells (pl false (fun _ => 0) fun _ => 0).toArray 27)) := (Kp.refl _ w).alloc _
  have h0 := Pl.new w 27 false (fun _ => 0) fun _ => 0
  go_enter Try.func28, Try.ntmps28
  go_wp2_with (refine wpList_store27 rfl _ _ rfl w.heap.size false gXw gYw rfl rfl _ _ _ h0 ?_)
  refine bodyPost_ret (results27 rfl rfl h0.set) rfl ?_
  exact ⟨congrArg (fun v => Ending.returned (.agg v)) (show (pl false gXw gYw).toArray = (pvL EC.Pt.G).toArray by kernel_rfl), kp_freshL k0 (Nat.le_refl _) 0 _⟩
/-- A load of eight words. -/
theorem wpList_load25 {ops : Array Oper} {rest : List Oper} {op : Oper} {a : Act} {w : World} {Q : Exit → Act → World → Prop} (hgd : op.guard = none) (x : Operand) (ho : op.op = .load 25 x)
    (b o : Nat) (hx : a.eval x = .pointer (some ⟨b, o, none⟩)) (g : Nat → Int) (h : w.rangeAt b o (a8l g))
    (hk : wpList Try.prog ops Q rest (a.put op.dst (.agg (a8 g))) w) : wpList Try.prog ops Q (op :: rest) a w := by
  have h25 : (Try.prog.underlying 25).map TypeDesc.isRow = some true := by kernel_rfl
  obtain ⟨d, hfs, hd⟩ := Option.map_eq_some_iff.1 h25
  exact wpList_load_mid hgd 25 x ho b o hx (a8l g) d h hfs hd (by kernel_rfl) hk
theorem a8l_one (g : Nat → Int) : ∀ v ∈ a8l g, v.oneCell' = true := by
  intro v hv
  simp only [a8l, List.mem_cons, List.not_mem_nil, or_false] at hv
  rcases hv with rfl | rfl | rfl | rfl | rfl | rfl | rfl | rfl <;> rfl
/-- A store of eight words. -/
theorem wpList_store25 {ops : Array Oper} {rest : List Oper} {op : Oper} {a : Act} {w : World} {Q : Exit → Act → World → Prop} (hgd : op.guard = none) (x y : Operand) (ho : op.op = .store 25 x y)
    (b o : Nat) (g : Nat → Int) (hx : a.eval x = .pointer (some ⟨b, o, none⟩)) (hy : a.eval y = .agg (a8 g)) (ht : w.there b o 8)
    (h : wpList Try.prog ops Q rest (a.put op.dst undef) (w.setCells b o (a8l g))) : wpList Try.prog ops Q (op :: rest) a w :=
  wpList_store_mid hgd 25 x y ho b o (a8l g).toArray hx hy (by simpa [a8l] using ht) (by kernel_rfl) (all_oneCell_toArray (a8l_one g)) (by simpa using h)
theorem Pl.tY {w : World} {b : Nat} {fr : Bool} {x y : Nat → Int} (h : Pl w b fr x y) : w.there b 9 8 := fun j hj => by
  have := h.t (9 + j) (by omega)
  rwa [Nat.zero_add] at this
theorem Pl.setY {w : World} {b : Nat} {fr : Bool} {x y g : Nat → Int} (h : Pl w b fr x y) : Pl (w.setCells b 9 (a8l g)) b fr x g := by
  refine ⟨fun j v hv => ?_, World.there_setCells h.t b 9 _⟩
  have hj : j < 17 := by
    have := (List.getElem?_eq_some_iff.1 hv).1
    rwa [pl_len] at this
  by_cases h9 : 9 ≤ j
  · obtain ⟨i, rfl⟩ : ∃ i, j = 9 + i := ⟨j - 9, by omega⟩
    have := World.rangeAt_setCells_same w b 9 (a8l g) h.tY i v (by
      have : i = 0 ∨ i = 1 ∨ i = 2 ∨ i = 3 ∨ i = 4 ∨ i = 5 ∨ i = 6 ∨ i = 7 := by omega
      rcases this with rfl | rfl | rfl | rfl | rfl | rfl | rfl | rfl <;> exact hv)
    rwa [Nat.zero_add]
  · have h1 := h.r j v (by
      have : j = 0 ∨ j = 1 ∨ j = 2 ∨ j = 3 ∨ j = 4 ∨ j = 5 ∨ j = 6 ∨ j = 7 ∨ j = 8 := by omega
      rcases this with rfl | rfl | rfl | rfl | rfl | rfl | rfl | rfl | rfl <;> exact hv)
    have hk := Kp.setCells (S := at_ b 9 8) b (a8l g) 9 w (Kp.refl _ w) fun j hj _ => ⟨rfl, by omega, by simp only [a8l, List.length_cons, List.length_nil] at hj; omega⟩
    exact (hk.cell b (0 + j) (World.block_lt_of_cell? _ ⟨b, 0 + j, none⟩ h1) (by rintro ⟨-, h, -⟩; omega)).trans h1
/-- A store of eight words into a point's second coordinate: the world after it by name. -/
theorem wpList_storeY {ops : Array Oper} {rest : List Oper} {op : Oper} {a : Act} {w : World} {Q : Exit → Act → World → Prop} (hgd : op.guard = none) (x y : Operand) (ho : op.op = .store 25 x y)
    (b : Nat) (g : Nat → Int) (hx : a.eval x = .pointer (some ⟨b, 9, none⟩)) (hy : a.eval y = .agg (a8 g)) {fr : Bool} {X Y : Nat → Int} (hP : Pl w b fr X Y)
    (h : ∀ W, Pl W b fr X g → Kp (at_ b 9 8) w W → wpList Try.prog ops Q rest (a.put op.dst undef) W) : wpList Try.prog ops Q (op :: rest) a w :=
  wpList_store25 hgd x y ho b 9 g hx hy hP.tY (h _ hP.setY (Kp.setCells (S := at_ b 9 8) b (a8l g) 9 w (Kp.refl _ w) fun j hj _ => ⟨rfl, by omega, by simp only [a8l, List.length_cons, List.length_nil] at hj; omega⟩))
theorem Ws.r {w : World} {b : Nat} {g : Nat → Int} (h : Ws w b 8 g) : w.rangeAt b 0 (a8l g) := fun j v hv => by
  have hj : j < 8 := (List.getElem?_eq_some_iff.1 hv).1
  have := (h j hj).1
  rw [Nat.zero_add, this]
  have : j = 0 ∨ j = 1 ∨ j = 2 ∨ j = 3 ∨ j = 4 ∨ j = 5 ∨ j = 6 ∨ j = 7 := by omega
  rcases this with rfl | rfl | rfl | rfl | rfl | rfl | rfl | rfl <;> exact hv
theorem Ws.th {w : World} {b : Nat} {g : Nat → Int} (h : Ws w b 8 g) : w.there b 0 8 := fun j hj => by
  rw [Nat.zero_add]
  exact ⟨by rw [(h j hj).1]; rfl, (h j hj).2⟩
theorem Ws.setA {w : World} {b : Nat} {f g : Nat → Int} (h : Ws w b 8 f) : Ws (w.setCells b 0 (a8l g)) b 8 g := fun i hi => by
  have h1 := World.rangeAt_setCells_same w b 0 (a8l g) h.th i (.int .i64 (g i)) (by
    have : i = 0 ∨ i = 1 ∨ i = 2 ∨ i = 3 ∨ i = 4 ∨ i = 5 ∨ i = 6 ∨ i = 7 := by omega
    rcases this with rfl | rfl | rfl | rfl | rfl | rfl | rfl | rfl <;> rfl)
  have h2 := World.there_setCells h.th b 0 (a8l g) i hi
  rw [Nat.zero_add] at h1 h2
  exact ⟨h1, h2.2⟩
/-- A store of eight words into a block: the world after it by name. -/
theorem wpList_storeW {ops : Array Oper} {rest : List Oper} {op : Oper} {a : Act} {w : World} {Q : Exit → Act → World → Prop} (hgd : op.guard = none) (x y : Operand) (ho : op.op = .store 25 x y)
    (b : Nat) (g : Nat → Int) (hx : a.eval x = .pointer (some ⟨b, 0, none⟩)) (hy : a.eval y = .agg (a8 g)) {f : Nat → Int} (hP : Ws w b 8 f)
    (h : ∀ W, Ws W b 8 g → Kp (at_ b 0 8) w W → wpList Try.prog ops Q rest (a.put op.dst undef) W) : wpList Try.prog ops Q (op :: rest) a w :=
  wpList_store25 hgd x y ho b 0 g hx hy hP.th (h _ hP.setA (Kp.setCells (S := at_ b 0 8) b (a8l g) 0 w (Kp.refl _ w) fun j hj _ => ⟨rfl, by omega, by simp only [a8l, List.length_cons, List.length_nil] at hj; omega⟩))
theorem c21_aff {w : World} {x y : EC.F} : Calls Try.prog 21 #[.agg (pvL (.aff x y)).toArray] w (Pv01 (.aff x (0 - y)) w) := by
  have hz := z27
  have k0 : Kp non w ((w.alloc (.cells (pl false (ew x) (ew y)).toArray 27)).alloc (.cells (pl false (fun _ => 0) fun _ => 0).toArray 27)) := ((Kp.refl _ w).alloc _).alloc _
  have h0 := (Pl.new w 27 false (ew x) (ew y)).kp ((Kp.refl non _).alloc (.cells (pl false (fun _ => 0) fun _ => 0).toArray 27)) fun _ h => h
  have h1 := Pl.new (w.alloc (.cells (pl false (ew x) (ew y)).toArray 27)) 27 false (fun _ => 0) fun _ => 0
  rw [size1] at h1
  have c0 := h0.r 0 (.bool false) rfl
  have hx := Nat.le_refl w.heap.size
  show Calls Try.prog 21 #[.agg (pl false (ew x) (ew y)).toArray] w _
  go_enter Try.func21, Try.ntmps21
  go_wp2_with (refine wpList_load25 rfl _ rfl w.heap.size 9 rfl (ew y) h0.y8 ?_)
  refine (e37z (b := y)).mono ?_
  rintro e w1 ⟨z, hzz, rfl, hk⟩
  replace k0 := k0.non hk
  replace h0 := h0.kp hk fun _ h => h
  replace h1 := h1.kp hk fun _ h => h
  clear hk c0
  go_wp2_with (first | (refine wpList_storeY rfl _ _ rfl w.heap.size (ew z) rfl rfl h0 ?_; intro W1 q0 kq) | (refine wpList_load27 rfl _ rfl w.heap.size rfl _ _ _ q0 ?_; (have q1 := h1.kp kq fun _ h => by have := h.1; omega)) | (refine wpList_store27 rfl _ _ rfl (w.heap.size + 1) _ _ _ rfl rfl _ _ _ q1 ?_))
  have kk : Kp non w W1 := k0.trans kq (fun _ _ _ h => h) (fun _ _ hl h => by have := h.1; omega)
  refine bodyPost_ret (results27 rfl rfl q1.set) rfl ?_
  rw [← hzz.out]
  exact ⟨rfl, kp_freshL kk (by omega) 0 _⟩
end Go.Proofs.Ytjdjhccefnffmaa
set_option maxRecDepth 100000
set_option maxHeartbeats 1000000
namespace Go.Proofs.Ytjdjhccefnffmaa
open Go LX Go.RowKit
section
variable {ops : Array Oper} {Q : Exit → Act → World → Prop} {md : Region.Mode} {S : World → Prop} {fuel : Nat} {listed : Array Bool} {a : Act} {w : World}
/-- An order for 32 bytes that comes up: the world after it by name. -/
theorem stepA23 {i : Nat} {rs : List Nat} {oi : Oper} (d : Option Tmp) (hi : ops[i]? = some oi) (hd : oi.dst = d)
    (hw : Region.wanted oi (yielded ops a.tmps) = true) (he : (execOp a.eval oi).run Try.prog w = .ok (.value (pt w.heap.size 0)) (w.alloc (.cells (bys (fun _ => 0) 32) 23)))
    (hk : ∀ B W, w.heap.size ≤ B → B < W.heap.size → Kp non w W → By W B 0 32 (fun _ => 0) → S W ∧ wpAnyH Try.prog md ops Q S fuel (listed.setIfInBounds i true) (a.put d (pt B 0)) W)
    (more : AllReadyH Try.prog md ops Q S fuel listed a w rs) : AllReadyH Try.prog md ops Q S fuel listed a w (i :: rs) := by
  have hb := By.new w 23 (fun _ => 0) 32 fun _ _ => by omega
  exact stepVal _ _ d hi hd hw he (hk _ _ (Nat.le_refl _) (hb 0 (by omega)).1.lt ((Kp.refl _ _).alloc _) hb) more
/-- An order for eight words. -/
theorem stepA25 {i : Nat} {rs : List Nat} {oi : Oper} (d : Option Tmp) (hi : ops[i]? = some oi) (hd : oi.dst = d)
    (hw : Region.wanted oi (yielded ops a.tmps) = true) (he : (execOp a.eval oi).run Try.prog w = .ok (.value (pt w.heap.size 0)) (w.alloc (.cells (a8 fun _ => 0) 25)))
    (hk : ∀ B W, w.heap.size ≤ B → B < W.heap.size → Kp non w W → Ws W B 8 (fun _ => 0) → S W ∧ wpAnyH Try.prog md ops Q S fuel (listed.setIfInBounds i true) (a.put d (pt B 0)) W)
    (more : AllReadyH Try.prog md ops Q S fuel listed a w rs) : AllReadyH Try.prog md ops Q S fuel listed a w (i :: rs) := by
  have hb := Ws.new8 w 25 (fun _ => 0)
  exact stepVal _ _ d hi hd hw he (hk _ _ (Nat.le_refl _) (hb 0 (by omega)).lt ((Kp.refl _ _).alloc _) hb) more
/-- A store of 32 bytes that comes up. -/
theorem stepS23 {i : Nat} {rs : List Nat} {oi : Oper} (x y : Operand) (b : Nat) (f : Nat → Nat) {g : Nat → Nat} (hi : ops[i]? = some oi) (hd : oi.dst = none)
    (hw : Region.wanted oi (yielded ops a.tmps) = true) (ho : oi.op = .store 23 x y) (hx : a.eval x = .pointer (some ⟨b, 0, none⟩)) (hy : a.eval y = .agg (bys f 32))
    (ht : By w b 0 32 g) (hf : ∀ i, i < 32 → f i < 256)
    (hk : ∀ W, Kp (at_ b 0 32) w W → By W b 0 32 f → S W ∧ wpAnyH Try.prog md ops Q S fuel (listed.setIfInBounds i true) a W)
    (more : AllReadyH Try.prog md ops Q S fuel listed a w rs) : AllReadyH Try.prog md ops Q S fuel listed a w (i :: rs) :=
  stepStore 23 x y b 0 (byl f 32) hi hd hw ho hx hy (by rw [byl_len]; exact ht.there) (by rw [byl_len]; exact n23) (fun _ h => byl_mem h) (hk _ (Kp.byl w b 0 32 f) (By.set ht.room0 hf)) more
/-- A store of eight words that comes up. -/
theorem stepS25 {i : Nat} {rs : List Nat} {oi : Oper} (x y : Operand) (b : Nat) (f : Nat → Int) {g : Nat → Int} (hi : ops[i]? = some oi) (hd : oi.dst = none)
    (hw : Region.wanted oi (yielded ops a.tmps) = true) (ho : oi.op = .store 25 x y) (hx : a.eval x = .pointer (some ⟨b, 0, none⟩)) (hy : a.eval y = .agg (a8 f))
    (ht : Ws w b 8 g)
    (hk : ∀ W, Kp (at_ b 0 8) w W → Ws W b 8 f → S W ∧ wpAnyH Try.prog md ops Q S fuel (listed.setIfInBounds i true) a W)
    (more : AllReadyH Try.prog md ops Q S fuel listed a w rs) : AllReadyH Try.prog md ops Q S fuel listed a w (i :: rs) :=
  stepStore 25 x y b 0 (a8l f) hi hd hw ho hx hy ht.th n25 (a8l_one f) (hk _ (Kp.setCells (S := at_ b 0 8) b (a8l f) 0 w (Kp.refl _ w) fun j hj _ => ⟨rfl, by omega, by simp only [a8l, List.length_cons, List.length_nil] at hj; omega⟩) ht.setA) more
/-- A store of a point that comes up. -/
theorem stepS27 {i : Nat} {rs : List Nat} {oi : Oper} (x y : Operand) (b : Nat) (fr : Bool) (X Y : Nat → Int) {fr' : Bool} {X' Y' : Nat → Int} (hi : ops[i]? = some oi) (hd : oi.dst = none)
    (hw : Region.wanted oi (yielded ops a.tmps) = true) (ho : oi.op = .store 27 x y) (hx : a.eval x = .pointer (some ⟨b, 0, none⟩)) (hy : a.eval y = .agg (pl fr X Y).toArray)
    (ht : Pl w b fr' X' Y')
    (hk : ∀ W, Kp (at_ b 0 17) w W → Pl W b fr X Y → S W ∧ wpAnyH Try.prog md ops Q S fuel (listed.setIfInBounds i true) a W)
    (more : AllReadyH Try.prog md ops Q S fuel listed a w rs) : AllReadyH Try.prog md ops Q S fuel listed a w (i :: rs) :=
  stepStore 27 x y b 0 (pl fr X Y) hi hd hw ho hx hy ht.t n27 (pl_one _ _ _) (hk _ (kpT17 (Kp.refl _ w) fr X Y) ht.set) more
end
/-- What is written in a block made since stays within the frame. -/
theorem kp_in {w V W : World} {b o n : Nat} (h : Kp non w V) (hk : Kp (at_ b o n) V W) (hb : w.heap.size ≤ b) : Kp non w W :=
  h.trans hk (fun _ _ _ h => h) (fun _ _ hl h => by have := h.1; omega)
end Go.Proofs.Ytjdjhccefnffmaa
