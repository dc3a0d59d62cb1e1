import Derived.Test.YtjdjhccefnffmaaB19
import Derived.Deep.RegionWith
import Derived.Deep.RegionHeld3
import Derived.Deep.LoopGhost
set_option linter.unusedVariables false
set_option linter.unusedSimpArgs false
set_option maxRecDepth 100000
set_option maxHeartbeats 1000000
namespace Go.Proofs.Ytjdjhccefnffmaa
open Go LX Go.RowKit
/-- What is bounded so. -/
def Bd (h : Nat → Int) (n : Nat) (B : Int) : Prop := ∀ j, j < n → -B ≤ h j ∧ h j ≤ B
/-- The words above m are nothing; the number is the same modulo the prime. -/
structure Fd (g h : Nat → Int) (m : Nat) : Prop where
  z : ∀ j, m < j → j < 16 → h j = 0
  b : Bd h 16 (17179869184 * 2 ^ (15 - m))
  v : ∃ q, val16 h = val16 g + pI * q
theorem Fd.step {g h : Nat → Int} {m : Nat} (f : Fd g h m) (h1 : 8 ≤ m) (h2 : m ≤ 15) : Fd g (fold (wset h m 0) m (h m)) (m - 1) := by
  refine ⟨fold_zero h1 f.z, fun j hj => ?_, ?_⟩
  · have := fold_bd h1 h2 f.b j hj
    rw [show 15 - (m - 1) = 15 - m + 1 by omega, Int.pow_succ]
    generalize (2 : Int) ^ (15 - m) = e at *
    omega
  · obtain ⟨q, hq⟩ := f.v
    obtain ⟨r, hr⟩ := fold_val h m h1 h2
    exact ⟨q + r, by rw [hr, hq, Int.mul_add, Int.add_assoc]⟩
theorem Fd.bd {g h : Nat → Int} {m : Nat} (f : Fd g h m) (h1 : 7 ≤ m) : Bd h 16 4398046511104 := fun j hj => by
  have := f.b j hj
  have h2 : (2 : Int) ^ (15 - m) ≤ 256 := by
    have : 15 - m ≤ 8 := by omega
    have h3 : 15 - m = 0 ∨ 15 - m = 1 ∨ 15 - m = 2 ∨ 15 - m = 3 ∨ 15 - m = 4 ∨ 15 - m = 5 ∨ 15 - m = 6 ∨ 15 - m = 7 ∨ 15 - m = 8 := by omega
    rcases h3 with h | h | h | h | h | h | h | h | h <;> rw [h] <;> decide
  generalize (2 : Int) ^ (15 - m) = e at *
  omega
/-- How far the folding of the carry is: at most n rounds are to come. -/
structure Ph (V : Int) (a : Nat → Int) (c : Int) (n : Nat) : Prop where
  n2 : n ≤ 2
  w : W32 a
  b : -2147483648 ≤ c ∧ c ≤ 2147483648
  v : ∃ q, val8 a + 115792089237316195423570985008687907853269984665640564039457584007913129639936 * c = V + pI * q
  z : n = 0 → c = 0
  o : n = 1 → 0 ≤ val8 a + c * 26959946660873538059280334323183841250350249843923952699046031785985 ∧ val8 a + c * 26959946660873538059280334323183841250350249843923952699046031785985 < 115792089237316195423570985008687907853269984665640564039457584007913129639936
theorem fold8_val (a : Nat → Int) (c : Int) : val8 (fold (lo8 a) 8 c) = val8 a + c * 26959946660873538059280334323183841250350249843923952699046031785985 := by
  simp [val8, fold, wset, lo8]
  omega
theorem Ph.step {V : Int} {a : Nat → Int} {c : Int} {n : Nat} (h : Ph V a c n) (hc : c ≠ 0) : 0 < n ∧ Ph V (cw (fold (lo8 a) 8 c)) (cc (fold (lo8 a) 8 c) 8) (n - 1) := by
  have hn : n ≠ 0 := fun h0 => hc (h.z h0)
  have e1 := fold8_val a c
  have e2 := val8_cw (fold (lo8 a) 8 c)
  have r1 := val8_range h.w
  have r2 := val8_range (cw_W32 (fold (lo8 a) 8 c))
  have hb := h.b
  have hn2 := h.n2
  generalize hxw : val8 (cw (fold (lo8 a) 8 c)) = x at *
  generalize hcc : cc (fold (lo8 a) 8 c) 8 = c' at *
  rw [e1] at e2
  generalize hx : val8 a = y at *
  obtain ⟨q, hq⟩ := h.v
  have ho := h.o
  rw [hx] at hq ho
  have hc' : -2147483648 ≤ c' ∧ c' ≤ 2147483648 := by omega
  refine ⟨by omega, by omega, cw_W32 _, hc', ⟨q - c, ?_⟩, fun h1 => ?_, fun h1 => ?_⟩
  · rw [hxw]
    simp only [pI] at *
    omega
  · have := ho (by omega)
    omega
  · rw [hxw]
    by_cases h2 : n = 1
    · omega
    · clear ho
      omega
theorem a8_congr {g f : Nat → Int} (h : ∀ i, i < 8 → g i = f i) : a8 g = a8 f := by
  simp only [a8]
  rw [h 0 (by omega), h 1 (by omega), h 2 (by omega), h 3 (by omega), h 4 (by omega), h 5 (by omega), h 6 (by omega), h 7 (by omega)]
theorem rd_fin {b : Nat → Int} {V : Int} (hw : W32 b) (h0 : 0 ≤ val8 b) (h1 : val8 b < pI) (hq : ∃ q, val8 b = V + pI * q) : a8 b = a8 (wdI (V % pI)) := by
  obtain ⟨q, hq⟩ := hq
  have : V % pI = val8 b := by
    have e : V = val8 b + pI * (-q) := by rw [hq, Int.mul_neg]; omega
    rw [e, Int.add_mul_emod_self_left, Int.emod_eq_of_lt h0 h1]
  rw [this]
  exact a8_congr (wdI_val8 hw)
theorem val8_sub (a p : Nat → Int) : val8 (fun j => a j - p j) = val8 a - val8 p := by simp only [val8]; omega
/-- The first k words less the prime's. -/
def mx (a : Nat → Int) (k j : Nat) : Int := if j < k then a j - pW j else a j
theorem Ws.mx {w : World} {A k : Nat} {a : Nat → Int} (h : Ws w A 8 (mx a k)) : Ws (w.setCell ⟨A, k, none⟩ (.int .i64 (a k - pW k))) A 8 (Ytjdjhccefnffmaa.mx a (k + 1)) := by
  refine (h.set (n := k) (a k - pW k)).congr fun i hi => ?_
  unfold wset Ytjdjhccefnffmaa.mx
  by_cases e : i = k
  · subst e; rw [if_pos rfl, if_pos (by omega)]
  · rw [if_neg e]
    by_cases e2 : i < k
    · rw [if_pos e2, if_pos (by omega)]
    · rw [if_neg e2, if_neg (by omega)]
/-- The number below the prime that is left. -/
def Rd01 (V : Int) (w : World) (e : Ending) (w' : World) : Prop := e = .returned (.agg (a8 (wdI (V % pI)))) ∧ Kp non w w'
theorem c54 {w : World} {g : Nat → Int} (hg : Bd g 16 17179869184) : Calls Try.prog 54 #[.agg (a16 g)] w (Rd01 (val16 g) w) := by
  have k0 : Kp non w ((w.alloc (.cells (a16 g) 76)).alloc (.cells (a8 fun _ => 0) 25)) := ((Kp.refl _ w).alloc _).alloc _
  have h0 := (Ws.new16 w 76 g).kp ((Kp.refl non _).alloc (.cells (a8 fun _ => 0) 25)) fun _ _ h => h
  have h1 := Ws.new8 (w.alloc (.cells (a16 g) 76)) 25 fun _ => 0
  rw [size1] at h1
  have hfd : Fd g g 15 := ⟨fun j h1 h2 => by omega, fun j hj => by have := hg j hj; simpa using this, 0, by simp⟩
  go_enter Try.func54, Try.ntmps54
  go_wp2_with fail
  generalize hHH : w.heap.size = H at *
  go_loopw [3] (fun i wr => ∃ (m : Nat) (h : Nat → Int), 7 ≤ m ∧ m ≤ 15 ∧ i = .int .i64 (m : Int) ∧ Hid (Fd g h m) ∧ Kp non w wr ∧ Ws wr H 16 h ∧ Ws wr (H + 1) 8 (fun _ => 0)) (fun i _ => (intOf i).toNat)
  case atStart => exact ⟨15, g, by omega, by omega, rfl, Lib.hid hfd, k0, h0, h1⟩
  case round =>
    clear k0 h0 h1 hfd
    obtain ⟨m, h, hm7, hm15, rfl, hfd, hkp, h0, h1⟩ := hrel
    by_cases hlt : 8 ≤ m
    · have a1 : (8 : Int) ≤ (m : Int) := by omega
      have a2 : (m : Int) < 16 := by omega
      have a3 : m < 16 := by omega
      have c0 := (h0 m (by omega)).1
      have f0 := (h0 m (by omega)).2
      have hb := hfd.out.bd (by omega)
      have hbm := hb m (by omega)
      go_wp2_with fail
      refine (c74 (h0.set (n := m) 0) hlt hm15 (by omega) (fun j hj => ?_)).mono ?_
      · unfold wset
        have := hb j hj
        split <;> omega
      clear c0 f0 hb hbm
      have k1 := kp_fresh hkp (b := H) (by omega) m (.int .i64 0)
      have h2 := h1.other (b' := H) (o' := m) (v := .int .i64 0) (by omega) rfl
      have hs := hkp.size
      rintro e w1 ⟨rfl, hk, hw⟩
      replace k1 := k1.trans hk (fun _ _ _ h => h) (fun _ _ hx h => by have := h.1; omega)
      replace h2 := h2.kp hk fun _ _ h => by have := h.1; omega
      clear hkp h0 h1 hk
      go_wp2_with fail
      go_roundw
      case rel => exact ⟨m - 1, _, by omega, by omega, by go_num, Lib.hid (hfd.out.step hlt hm15), k1, hw, h2⟩
      case measure => simp [intOf]; omega
    · obtain rfl : m = 7 := by omega
      obtain ⟨c0, c1, c2, c3, c4, c5, c6, c7⟩ := ws8 h0 (by omega)
      have har := arrayAt8 ⟨H, 0, none⟩ 16 wr
      have hbd := hfd.out.bd (by omega)
      go_wp2_with fail
      refine (c49 (g := h) (fun i hi => by have := hbd i (by omega); omega)).mono ?_
      rintro e w1 ⟨rfl, hk⟩
      have hph : Ph (val16 g) (cw h) (cc h 8) 2 := by
        have e1 := val8_cw h
        have hz := hfd.out.z
        have hv : val16 h = val8 h := by
          have e2 : val8 (fun i => h (8 + i)) = 0 := by
            simp only [val8]
            rw [hz 8 (by omega) (by omega), hz 9 (by omega) (by omega), hz 10 (by omega) (by omega), hz 11 (by omega) (by omega), hz 12 (by omega) (by omega), hz 13 (by omega) (by omega), hz 14 (by omega) (by omega), hz 15 (by omega) (by omega)]
            rfl
          unfold val16
          rw [e2]; omega
        obtain ⟨q, hq⟩ := hfd.out.v
        have hb := cc_bd (g := h) (fun i hi => by have := hbd i (by omega); omega) 8 (by omega)
        exact ⟨by omega, cw_W32 h, by omega, ⟨q, by rw [e1, ← hv, hq]⟩, by omega, by omega⟩
      generalize cw h = a at *
      generalize cc h 8 = c at *
      replace h1 := h1.kp hk fun _ _ h => h
      replace hkp := hkp.non hk
      have hsz := hk.size
      have hlt1 := (h1 0 (by omega)).lt
      clear c0 c1 c2 c3 c4 c5 c6 c7 har hbd hfd hk h0
      have k2 : Kp non w (w1.alloc (.cells (a8 a) 25)) := hkp.alloc _
      have hA := Ws.new8 w1 25 a
      replace h1 := h1.kp ((Kp.refl non w1).alloc (.cells (a8 a) 25)) fun _ _ h => h
      have hle : H + 1 < w1.heap.size := hlt1
      have hwH : w.heap.size ≤ w1.heap.size := hkp.size
      clear hkp hlt1 hsz
      go_wp2_with fail
      generalize hAA : w1.heap.size = A at *
      go_loopg [6] 2 (fun n c wr => ∃ (a : Nat → Int) (cv : Int), c = .int .i64 cv ∧ Hid (Ph (val16 g) a cv n) ∧ Kp non w wr ∧ Ws wr A 8 a ∧ Ws wr (H + 1) 8 (fun _ => 0))
      case atStart => exact ⟨a, c, rfl, Lib.hid hph, k2, hA, h1⟩
      case round =>
        clear hph k2 hA h1
        obtain ⟨a2, cv, rfl, hph, hkp, hA, h1⟩ := hrel
        have hs := hkp.size
        have lA := (hA 0 (by omega)).lt
        have lH := (h1 0 (by omega)).lt
        by_cases hc : cv = 0
        · subst hc
          have hw32 := hph.out.w
          have hval : ∃ q, val8 a2 = val16 g + pI * q := by
            obtain ⟨q, hq⟩ := hph.out.v
            exact ⟨q, by omega⟩
          clear hph
          obtain ⟨d0, d1, d2, d3, d4, d5, d6, d7⟩ := ws8 hA.drew (by omega)
          go_wp2_with fail
          go_region_held3 (fun w' => w'.cell? ⟨A, 0, none⟩ = some (.int .i64 (a2 0)) ∧ w'.cell? ⟨A, 1, none⟩ = some (.int .i64 (a2 1)) ∧ w'.cell? ⟨A, 2, none⟩ = some (.int .i64 (a2 2)) ∧ w'.cell? ⟨A, 3, none⟩ = some (.int .i64 (a2 3)) ∧ w'.cell? ⟨A, 4, none⟩ = some (.int .i64 (a2 4)) ∧ w'.cell? ⟨A, 5, none⟩ = some (.int .i64 (a2 5)) ∧ w'.cell? ⟨A, 6, none⟩ = some (.int .i64 (a2 6)) ∧ w'.cell? ⟨A, 7, none⟩ = some (.int .i64 (a2 7))) (go_keep)
            (first
              | (go_at_call 33; (refine (c33).mono ?_); rintro e x1 ⟨rfl, hk1⟩; obtain ⟨e0, e1, e2, e3, e4, e5, e6, e7⟩ := ws8 (hA.drew.kp hk1 fun _ _ h => h) (by omega))
              | (go_at_call 32; (refine (c32 hw32 pW_W32).mono ?_); rintro e x2 ⟨bb, rfl, hbb, hk2⟩; obtain ⟨i0, i1, i2, i3, i4, i5, i6, i7⟩ := ws8 ((hA.drew.kp hk1 fun _ _ h => h).kp hk2 fun _ _ h => h) (by omega)))
          have kx : Kp non w x2 := (hkp.drew.non hk1).non hk2
          have hA2 := (hA.drew.kp hk1 fun _ _ h => h).kp hk2 fun _ _ h => h
          have h12 := (h1.drew.kp hk1 fun _ _ h => h).kp hk2 fun _ _ h => h
          have hs2 := kx.size
          have lA2 := (hA2 0 (by omega)).lt
          rw [pW_val] at hbb
          have hr := val8_range hw32
          clear d0 d1 d2 d3 d4 d5 d6 d7 e0 e1 e2 e3 e4 e5 e6 e7 i0 i1 i2 i3 i4 i5 i6 i7 hk1 hk2 hkp hA h1
          cases bb with
          | true =>
            have hfin := Lib.hid (rd_fin hw32 hr.1 (hbb.1 rfl) hval)
            clear hbb hval hw32
            obtain ⟨m0, m1, m2, m3, m4, m5, m6, m7⟩ := ws8 hA2 (by omega)
            obtain ⟨n0, n1, n2, n3, n4, n5, n6, n7⟩ := ws8 h12 (by omega)
            obtain ⟨o0, o1, o2, o3, o4, o5, o6, o7⟩ := wf8 h12 (by omega)
            clear hA2 h12
            go_wp2_with fail
            refine bodyPost_ret (v := .agg (a8 a2)) (by simp [results, Try.results54, go_sem, *]) rfl ?_
            exact ⟨by rw [hfin.out], kp_fresh8 kx (by omega) _ _ _ _ _ _ _ _⟩

          | false =>
            have hge : pI ≤ val8 a2 := by
              by_cases h : val8 a2 < pI
              · have := hbb.2 h; cases this
              · omega
            clear hbb
            have hfin : Hid (a8 (cw fun j => a2 j - pW j) = a8 (wdI (val16 g % pI))) := by
              have e1 := val8_cw fun j => a2 j - pW j
              rw [val8_sub, pW_val] at e1
              have r2 := val8_range (cw_W32 fun j => a2 j - pW j)
              obtain ⟨q, hq⟩ := hval
              generalize cc (fun j => a2 j - pW j) 8 = c9 at *
              refine Lib.hid (rd_fin (cw_W32 _) r2.1 (by simp only [pI] at *; omega) ⟨q - 1, ?_⟩)
              simp only [pI] at *
              omega
            have hdb : ∀ j, j < 8 → -4294967296 ≤ a2 j - pW j ∧ a2 j - pW j ≤ 4294967296 := fun j hj => by
              have := hw32 j hj
              have := pW_W32 j hj
              omega
            clear hval hge hr
            go_wp2_with fail
            refine (c33).mono ?_
            rintro e x3 ⟨rfl, hk3⟩
            replace kx := kx.non hk3
            replace hA2 := hA2.kp hk3 fun _ _ h => h
            replace h12 := h12.kp hk3 fun _ _ h => h
            have hs3 := hk3.size
            clear hk3
            have kC : Kp non w (x3.alloc (.cells (a8 pW) 25)) := kx.alloc _
            have hC := Ws.new8 x3 25 pW
            replace hA2 := hA2.kp ((Kp.refl non x3).alloc (.cells (a8 pW) 25)) fun _ _ h => h
            replace h12 := h12.kp ((Kp.refl non x3).alloc (.cells (a8 pW) 25)) fun _ _ h => h
            have hCA : A < x3.heap.size := by omega
            clear kx
            go_wp2_with fail
            generalize x3.heap.size = C at *
            go_loopw [9] (fun i wr => ∃ k : Nat, k ≤ 8 ∧ i = .int .i64 (k : Int) ∧ Kp non w wr ∧ Ws wr A 8 (mx a2 k) ∧ Ws wr C 8 pW ∧ Ws wr (H + 1) 8 (fun _ => 0)) (fun i _ => 8 - (intOf i).toNat)
            case atStart => exact ⟨0, by omega, rfl, kC, hA2.congr fun i _ => by unfold mx; rw [if_neg (by omega)], hC, h12⟩
            case round =>
              clear kC hA2 hC h12
              obtain ⟨k, hk, rfl, kx, hA2, hC, h12⟩ := hrel
              have hsx := kx.size
              by_cases hlt : k < 8
              · have z1 : (k : Int) < 8 := by omega
                have e1 : mx a2 k k = a2 k := by unfold mx; rw [if_neg (by omega)]
                have y1 : wr.drew.cell? ⟨A, k, none⟩ = some (.int .i64 (a2 k)) := by rw [← e1]; exact (hA2 k hlt).1
                have y2 : wr.drew.frozen? ⟨A, k, none⟩ = false := (hA2 k hlt).2
                have y3 : wr.drew.cell? ⟨C, k, none⟩ = some (.int .i64 (pW k)) := (hC k hlt).1
                have y4 : IntKind.i64.wrap (a2 k - pW k) = a2 k - pW k := by have := hdb k hlt; rw [IntKind.wrap_i64]; omega
                clear e1
                go_wp2_with fail
                go_region
                replace hA2 := hA2.mx.drew
                replace hC := (hC.other (b' := A) (o' := k) (v := .int .i64 (a2 k - pW k)) (by omega) rfl).drew
                replace h12 := (h12.other (b' := A) (o' := k) (v := .int .i64 (a2 k - pW k)) (by omega) rfl).drew
                replace kx := (kp_fresh kx (b := A) (by omega) k (.int .i64 (a2 k - pW k))).drew
                clear y1 y2 y3
                go_wp2_with fail
                go_roundw
                case rel => exact ⟨k + 1, by omega, by go_num, kx, hA2, hC, h12⟩
                case measure => simp [intOf]; omega
              · obtain rfl : k = 8 := by omega
                replace hA2 : Ws wr A 8 fun j => a2 j - pW j := hA2.congr fun i hi => by unfold mx; rw [if_pos hi]
                obtain ⟨m0, m1, m2, m3, m4, m5, m6, m7⟩ := ws8 hA2 (by omega)
                clear hC
                go_wp2_with fail
                refine (c49 (g := fun j => a2 j - pW j) (fun j hj => by have := hdb j hj; omega)).mono ?_
                rintro e x4 ⟨rfl, hk4⟩
                replace kx := kx.non hk4
                replace hA2 := hA2.kp hk4 fun _ _ h => h
                replace h12 := h12.kp hk4 fun _ _ h => h
                clear m0 m1 m2 m3 m4 m5 m6 m7 hk4 hdb hw32
                generalize (cw fun j => a2 j - pW j) = a3 at *
                generalize cc (fun j => a2 j - pW j) 8 = c3 at *
                have kx2 := kp_st8 kx (b := A) (by omega) a3
                have hA3 := hA2.st8 a3
                have h13 := h12.st8o a3 (b := A) (by omega)
                obtain ⟨m0, m1, m2, m3, m4, m5, m6, m7⟩ := ws8 hA2 (by omega)
                obtain ⟨p0, p1, p2, p3, p4, p5, p6, p7⟩ := wf8 hA2 (by omega)
                obtain ⟨n0, n1, n2, n3, n4, n5, n6, n7⟩ := ws8 h12 (by omega)
                obtain ⟨o0, o1, o2, o3, o4, o5, o6, o7⟩ := wf8 h12 (by omega)
                have hAH : ¬ A = H + 1 := by omega
                have hHA : ¬ H + 1 = A := by omega
                clear hA2 h12 kx
                go_wp2_with fail
                refine bodyPost_ret (v := .agg (a8 a3)) (by simp [results, Try.results54, go_sem, *]) rfl ?_
                exact ⟨by rw [hfin.out], kp_fresh8 kx2 (by omega) _ _ _ _ _ _ _ _⟩
        · have q1 : (cv == 0) = false := by simpa using hc
          have q2 : (cv != 0) = true := by simpa using hc
          obtain ⟨hgk, hnext⟩ := hph.out.step hc
          replace hnext := Lib.hid hnext
          have hcb := hph.out.b
          have hw32 := hph.out.w
          have hcp := copy8 (c := 8) hA
          have hB := (Ws.new16 wr 76 (lo8 a2)).drew
          have kB : Kp non wr ((wr.alloc (.cells (a16 (lo8 a2)) 76)).drew) := ((Kp.refl _ wr).alloc _).drew
          go_wp2_with fail
          go_region
          clear hcp
          generalize hX : (wr.alloc (.cells (a16 (lo8 a2)) 76)).drew = X at *
          have hbl : ∀ j, j < 16 → -4294967296 ≤ lo8 a2 j ∧ lo8 a2 j ≤ 4294967296 := fun j hj => by
            unfold lo8
            split
            · have := hw32 j (by omega); omega
            · omega
          go_wp2_with fail
          refine (c74 (i := 8) hB (by omega) (by omega) (by omega) (fun j hj => by have := hbl j hj; omega)).mono ?_
          rintro e w2 ⟨rfl, hk, hw⟩
          have kk : Kp non w w2 := (hkp.non kB).trans hk (fun _ _ _ h => h) (fun _ _ _ h => by have := h.1; omega)
          replace hA := (hA.kp kB fun _ _ h => h).kp hk fun _ _ h => by have := h.1; omega
          replace h1 := (h1.kp kB fun _ _ h => h).kp hk fun _ _ h => by have := h.1; omega
          have hvb : ∀ j, j < 8 → -1152921504606846976 ≤ fold (lo8 a2) 8 cv j ∧ fold (lo8 a2) 8 cv j ≤ 1152921504606846976 := fun j hj => by
            have b0 := hbl 0 (by omega)
            have b3 := hbl 3 (by omega)
            have b6 := hbl 6 (by omega)
            have b7 := hbl 7 (by omega)
            have bj := hbl j (by omega)
            unfold fold wset
            simp only [Nat.reduceSub]
            generalize lo8 a2 0 = x0 at *
            generalize lo8 a2 3 = x3 at *
            generalize lo8 a2 6 = x6 at *
            generalize lo8 a2 7 = x7 at *
            generalize lo8 a2 j = xj at *
            by_cases e0 : j = 0
            · rw [if_pos e0]; omega
            · rw [if_neg e0]
              by_cases e3 : j = 3
              · rw [if_pos e3]; omega
              · rw [if_neg e3]
                by_cases e6 : j = 6
                · rw [if_pos e6]; omega
                · rw [if_neg e6]
                  by_cases e7 : j = 7
                  · rw [if_pos e7]; omega
                  · rw [if_neg e7]; omega
          obtain ⟨d0, d1, d2, d3, d4, d5, d6, d7⟩ := ws8 hw (by omega)
          have har := arrayAt8 ⟨wr.heap.size, 0, none⟩ 16 w2
          clear hB kB hk hkp hw hbl hw32 hcb hX
          go_wp2_with fail
          refine (c49 (g := fold (lo8 a2) 8 cv) hvb).mono ?_
          rintro e w3 ⟨rfl, hk⟩
          replace kk := kk.non hk
          replace hA := hA.kp hk fun _ _ h => h
          replace h1 := h1.kp hk fun _ _ h => h
          clear d0 d1 d2 d3 d4 d5 d6 d7 har hvb hk
          generalize cw (fold (lo8 a2) 8 cv) = a3 at *
          generalize cc (fold (lo8 a2) 8 cv) 8 = c3 at *
          obtain ⟨d0, d1, d2, d3, d4, d5, d6, d7⟩ := ws8 hA (by omega)
          obtain ⟨f0, f1, f2, f3, f4, f5, f6, f7⟩ := wf8 hA (by omega)
          have kk2 := kp_st8 kk (b := A) (by omega) a3
          replace hA := hA.st8 a3
          replace h1 := h1.st8o a3 (b := A) (by omega)
          go_wp2_with fail
          go_roundg (gk - 1)
          case measure => omega
          case rel => exact ⟨a3, c3, rfl, hnext, kk2, hA, h1⟩
end Go.Proofs.Ytjdjhccefnffmaa
set_option maxRecDepth 100000
set_option maxHeartbeats 1000000
namespace Go.Proofs.Ytjdjhccefnffmaa
open Go LX Go.RowKit
theorem ws16 {w : World} {b : Nat} {g : Nat → Int} (h : Ws w b 16 g) : w.cell? ⟨b, 0, none⟩ = some (.int .i64 (g 0)) ∧ w.cell? ⟨b, 1, none⟩ = some (.int .i64 (g 1)) ∧ w.cell? ⟨b, 2, none⟩ = some (.int .i64 (g 2)) ∧ w.cell? ⟨b, 3, none⟩ = some (.int .i64 (g 3)) ∧ w.cell? ⟨b, 4, none⟩ = some (.int .i64 (g 4)) ∧ w.cell? ⟨b, 5, none⟩ = some (.int .i64 (g 5)) ∧ w.cell? ⟨b, 6, none⟩ = some (.int .i64 (g 6)) ∧ w.cell? ⟨b, 7, none⟩ = some (.int .i64 (g 7)) ∧ w.cell? ⟨b, 8, none⟩ = some (.int .i64 (g 8)) ∧ w.cell? ⟨b, 9, none⟩ = some (.int .i64 (g 9)) ∧ w.cell? ⟨b, 10, none⟩ = some (.int .i64 (g 10)) ∧ w.cell? ⟨b, 11, none⟩ = some (.int .i64 (g 11)) ∧ w.cell? ⟨b, 12, none⟩ = some (.int .i64 (g 12)) ∧ w.cell? ⟨b, 13, none⟩ = some (.int .i64 (g 13)) ∧ w.cell? ⟨b, 14, none⟩ = some (.int .i64 (g 14)) ∧ w.cell? ⟨b, 15, none⟩ = some (.int .i64 (g 15)) :=
  ⟨(h 0 (by omega)).1, (h 1 (by omega)).1, (h 2 (by omega)).1, (h 3 (by omega)).1, (h 4 (by omega)).1, (h 5 (by omega)).1, (h 6 (by omega)).1, (h 7 (by omega)).1, (h 8 (by omega)).1, (h 9 (by omega)).1, (h 10 (by omega)).1, (h 11 (by omega)).1, (h 12 (by omega)).1, (h 13 (by omega)).1, (h 14 (by omega)).1, (h 15 (by omega)).1⟩
/-- The words of a residue. -/
def ew (x : EC.F) (i : Nat) : Int := wdI (x.val : Int) i
abbrev Ev (x : EC.F) : Value := .agg (a8 (ew x))
theorem ew_W32 (x : EC.F) : W32 (ew x) := fun i _ => by unfold ew wdI; omega
theorem ew_val (x : EC.F) : val8 (ew x) = (x.val : Int) := by
  have h := Nat.lt_of_lt_of_eq x.isLt PN_eq
  simp only [PN] at h
  simp only [val8, ew, wdI]
  generalize x.val = n at *
  omega
theorem pI_eq : pI = (PN : Int) := by decide
theorem ew_of {V : Int} {x : EC.F} (h : V % pI = (x.val : Int)) : a8 (wdI (V % pI)) = a8 (ew x) := by rw [h]; rfl
theorem val_add (a b : EC.F) : ((a.val : Int) + (b.val : Int)) % pI = ((a + b : EC.F).val : Int) := by
  rw [Fin.val_add, pI_eq, ← PN_eq, Int.natCast_emod, Int.natCast_add]
theorem val_sub (a b : EC.F) : ((a.val : Int) - (b.val : Int)) % pI = ((a - b : EC.F).val : Int) := by
  have hb := b.isLt
  rw [Fin.val_sub, pI_eq, ← PN_eq, Int.natCast_emod]
  have e : ((EC.P - b.val + a.val : Nat) : Int) = (a.val : Int) - (b.val : Int) + (EC.P : Int) * 1 := by omega
  rw [e, Int.add_mul_emod_self_left]
theorem val_mul (a b : EC.F) : ((a.val : Int) * (b.val : Int)) % pI = ((a * b : EC.F).val : Int) := by
  rw [Fin.val_mul, pI_eq, ← PN_eq, Int.natCast_emod, Int.natCast_mul]
/-- A residue comes back. -/
def Ev01 (x : EC.F) (w : World) (e : Ending) (w' : World) : Prop := e = .returned (Ev x) ∧ Kp non w w'
theorem val16_up (f : Nat → Int) : val16 (upto f 8) = val8 f := by
  simp [val16, val8, upto]
theorem val8_oadd (a b : Nat → Int) : val8 (fun j => a j + b j) = val8 a + val8 b := by simp only [val8]; omega
theorem c51 {w : World} {a b : EC.F} : Calls Try.prog 51 #[Ev a, Ev b] w (Ev01 (a + b) w) := by
  have ha := ew_W32 a
  have hb := ew_W32 b
  have va := ew_val a
  have vb := ew_val b
  have hV : Hid (a8 (wdI (val16 (upto (fun j => ew a j + ew b j) 8) % pI)) = a8 (ew (a + b))) := Lib.hid (ew_of (by rw [val16_up, val8_oadd, va, vb]; exact val_add a b))
  have k0 : Kp non w ((((w.alloc (.cells (a8 (ew a)) 25)).alloc (.cells (a8 (ew b)) 25)).alloc (.cells (a8 fun _ => 0) 25)).alloc (.cells (a16 fun _ => 0) 76)) := ((((Kp.refl _ w).alloc _).alloc _).alloc _).alloc _
  have h0 := (((Ws.new8 w 25 (ew a)).kp ((Kp.refl non _).alloc (.cells (a8 (ew b)) 25)) fun _ _ h => h).kp ((Kp.refl non _).alloc (.cells (a8 fun _ => 0) 25)) fun _ _ h => h).kp ((Kp.refl non _).alloc (.cells (a16 fun _ => 0) 76)) fun _ _ h => h
  have h1 := ((Ws.new8 (w.alloc (.cells (a8 (ew a)) 25)) 25 (ew b)).kp ((Kp.refl non _).alloc (.cells (a8 fun _ => 0) 25)) fun _ _ h => h).kp ((Kp.refl non _).alloc (.cells (a16 fun _ => 0) 76)) fun _ _ h => h
  have h2 := (Ws.new8 ((w.alloc (.cells (a8 (ew a)) 25)).alloc (.cells (a8 (ew b)) 25)) 25 fun _ => 0).kp ((Kp.refl non _).alloc (.cells (a16 fun _ => 0) 76)) fun _ _ h => h
  have h3 := Ws.new16 (((w.alloc (.cells (a8 (ew a)) 25)).alloc (.cells (a8 (ew b)) 25)).alloc (.cells (a8 fun _ => 0) 25)) 76 fun _ => 0
  simp only [size1] at h1 h2 h3
  show Calls Try.prog 51 #[.agg (a8 (ew a)), .agg (a8 (ew b))] w _
  generalize ew a = x at *
  generalize ew b = y at *
  clear va vb
  go_enter Try.func51, Try.ntmps51
  go_wp2_with fail
  generalize hHH : w.heap.size = H at *
  go_loopw [6] (fun i wr => ∃ k : Nat, k ≤ 8 ∧ i = .int .i64 (k : Int) ∧ Kp non w wr ∧ Ws wr H 8 x ∧ Ws wr (H + 1) 8 y ∧ Ws wr (H + 1 + 1) 8 (fun _ => 0) ∧ Ws wr (H + 1 + 1 + 1) 16 (upto (fun j => x j + y j) k)) (fun i _ => 8 - (intOf i).toNat)
  case atStart => exact ⟨0, by omega, rfl, k0, h0, h1, h2, h3.upto0⟩
  case round =>
    clear k0 h0 h1 h2 h3
    obtain ⟨k, hk, rfl, hkp, h0, h1, h2, h3⟩ := hrel
    by_cases hlt : k < 8
    · have a1 : (k : Int) < 8 := by omega
      have a2 : (k : Int) < 16 := by omega
      have c0 := (h0.drew k (by omega)).1
      have c1 := (h1.drew k (by omega)).1
      have c3 := (h3.drew k (by omega)).1
      have f3 := (h3.drew k (by omega)).2
      have y4 : IntKind.i64.wrap (x k + y k) = x k + y k := by have := ha k hlt; have := hb k hlt; rw [IntKind.wrap_i64]; omega
      go_wp2_with fail
      go_region
      replace h3 := (h3.step rfl).drew
      replace h0 := (h0.other (b' := H + 1 + 1 + 1) (o' := k) (v := .int .i64 (x k + y k)) (by omega) rfl).drew
      replace h1 := (h1.other (b' := H + 1 + 1 + 1) (o' := k) (v := .int .i64 (x k + y k)) (by omega) rfl).drew
      replace h2 := (h2.other (b' := H + 1 + 1 + 1) (o' := k) (v := .int .i64 (x k + y k)) (by omega) rfl).drew
      replace hkp := (kp_fresh hkp (b := H + 1 + 1 + 1) (by omega) k (.int .i64 (x k + y k))).drew
      clear c0 c1 c3 f3
      go_wp2_with fail
      go_roundw
      case rel => exact ⟨k + 1, by omega, by go_num, hkp, h0, h1, h2, h3⟩
      case measure => simp [intOf]; omega
    · obtain rfl : k = 8 := by omega
      obtain ⟨d0, d1, d2, d3, d4, d5, d6, d7, d8, d9, d10, d11, d12, d13, d14, d15⟩ := ws16 h3
      have hbd : Bd (upto (fun j => x j + y j) 8) 16 17179869184 := fun j hj => by
        unfold upto
        split
        · dsimp only
          have := ha j (by omega)
          have := hb j (by omega)
          omega
        · omega
      clear h0 h1 h3
      go_wp2_with fail
      refine (c54 hbd).mono ?_
      rintro e w1 ⟨rfl, hk1⟩
      replace hkp := hkp.non hk1
      replace h2 := h2.kp hk1 fun _ _ h => h
      rw [hV.out]
      clear d0 d1 d2 d3 d4 d5 d6 d7 d8 d9 d10 d11 d12 d13 d14 d15 hbd hk1
      generalize hz : ew (a + b) = z at *
      obtain ⟨n0, n1, n2, n3, n4, n5, n6, n7⟩ := ws8 h2 (by omega)
      obtain ⟨o0, o1, o2, o3, o4, o5, o6, o7⟩ := wf8 h2 (by omega)
      clear h2
      go_wp2_with fail
      refine bodyPost_ret (v := .agg (a8 z)) (by simp [results, Try.results51, go_sem, *]) rfl ?_
      exact ⟨by rw [← hz], kp_fresh8 hkp (by omega) _ _ _ _ _ _ _ _⟩
theorem val8_osub (a b : Nat → Int) : val8 (fun j => a j - b j) = val8 a - val8 b := by simp only [val8]; omega
theorem c37 {w : World} {a b : EC.F} : Calls Try.prog 37 #[Ev a, Ev b] w (Ev01 (a - b) w) := by
  have ha := ew_W32 a
  have hb := ew_W32 b
  have va := ew_val a
  have vb := ew_val b
  have hV : Hid (a8 (wdI (val16 (upto (fun j => ew a j - ew b j) 8) % pI)) = a8 (ew (a - b))) := Lib.hid (ew_of (by rw [val16_up, val8_osub, va, vb]; exact val_sub a b))
  have k0 : Kp non w ((((w.alloc (.cells (a8 (ew a)) 25)).alloc (.cells (a8 (ew b)) 25)).alloc (.cells (a8 fun _ => 0) 25)).alloc (.cells (a16 fun _ => 0) 76)) := ((((Kp.refl _ w).alloc _).alloc _).alloc _).alloc _
  have h0 := (((Ws.new8 w 25 (ew a)).kp ((Kp.refl non _).alloc (.cells (a8 (ew b)) 25)) fun _ _ h => h).kp ((Kp.refl non _).alloc (.cells (a8 fun _ => 0) 25)) fun _ _ h => h).kp ((Kp.refl non _).alloc (.cells (a16 fun _ => 0) 76)) fun _ _ h => h
  have h1 := ((Ws.new8 (w.alloc (.cells (a8 (ew a)) 25)) 25 (ew b)).kp ((Kp.refl non _).alloc (.cells (a8 fun _ => 0) 25)) fun _ _ h => h).kp ((Kp.refl non _).alloc (.cells (a16 fun _ => 0) 76)) fun _ _ h => h
  have h2 := (Ws.new8 ((w.alloc (.cells (a8 (ew a)) 25)).alloc (.cells (a8 (ew b)) 25)) 25 fun _ => 0).kp ((Kp.refl non _).alloc (.cells (a16 fun _ => 0) 76)) fun _ _ h => h
  have h3 := Ws.new16 (((w.alloc (.cells (a8 (ew a)) 25)).alloc (.cells (a8 (ew b)) 25)).alloc (.cells (a8 fun _ => 0) 25)) 76 fun _ => 0
  simp only [size1] at h1 h2 h3
  show Calls Try.prog 37 #[.agg (a8 (ew a)), .agg (a8 (ew b))] w _
  generalize ew a = x at *
  generalize ew b = y at *
  clear va vb
  go_enter Try.func37, Try.ntmps37
  go_wp2_with fail
  generalize hHH : w.heap.size = H at *
  go_loopw [6] (fun i wr => ∃ k : Nat, k ≤ 8 ∧ i = .int .i64 (k : Int) ∧ Kp non w wr ∧ Ws wr H 8 x ∧ Ws wr (H + 1) 8 y ∧ Ws wr (H + 1 + 1) 8 (fun _ => 0) ∧ Ws wr (H + 1 + 1 + 1) 16 (upto (fun j => x j - y j) k)) (fun i _ => 8 - (intOf i).toNat)
  case atStart => exact ⟨0, by omega, rfl, k0, h0, h1, h2, h3.upto0⟩
  case round =>
    clear k0 h0 h1 h2 h3
    obtain ⟨k, hk, rfl, hkp, h0, h1, h2, h3⟩ := hrel
    by_cases hlt : k < 8
    · have a1 : (k : Int) < 8 := by omega
      have a2 : (k : Int) < 16 := by omega
      have c0 := (h0.drew k (by omega)).1
      have c1 := (h1.drew k (by omega)).1
      have c3 := (h3.drew k (by omega)).1
      have f3 := (h3.drew k (by omega)).2
      have y4 : IntKind.i64.wrap (x k - y k) = x k - y k := by have := ha k hlt; have := hb k hlt; rw [IntKind.wrap_i64]; omega
      go_wp2_with fail
      go_region
      replace h3 := (h3.step rfl).drew
      replace h0 := (h0.other (b' := H + 1 + 1 + 1) (o' := k) (v := .int .i64 (x k - y k)) (by omega) rfl).drew
      replace h1 := (h1.other (b' := H + 1 + 1 + 1) (o' := k) (v := .int .i64 (x k - y k)) (by omega) rfl).drew
      replace h2 := (h2.other (b' := H + 1 + 1 + 1) (o' := k) (v := .int .i64 (x k - y k)) (by omega) rfl).drew
      replace hkp := (kp_fresh hkp (b := H + 1 + 1 + 1) (by omega) k (.int .i64 (x k - y k))).drew
      clear c0 c1 c3 f3
      go_wp2_with fail
      go_roundw
      case rel => exact ⟨k + 1, by omega, by go_num, hkp, h0, h1, h2, h3⟩
      case measure => simp [intOf]; omega
    · obtain rfl : k = 8 := by omega
      obtain ⟨d0, d1, d2, d3, d4, d5, d6, d7, d8, d9, d10, d11, d12, d13, d14, d15⟩ := ws16 h3
      have hbd : Bd (upto (fun j => x j - y j) 8) 16 17179869184 := fun j hj => by
        unfold upto
        split
        · dsimp only
          have := ha j (by omega)
          have := hb j (by omega)
          omega
        · omega
      clear h0 h1 h3
      go_wp2_with fail
      refine (c54 hbd).mono ?_
      rintro e w1 ⟨rfl, hk1⟩
      replace hkp := hkp.non hk1
      replace h2 := h2.kp hk1 fun _ _ h => h
      rw [hV.out]
      clear d0 d1 d2 d3 d4 d5 d6 d7 d8 d9 d10 d11 d12 d13 d14 d15 hbd hk1
      generalize hz : ew (a - b) = z at *
      obtain ⟨n0, n1, n2, n3, n4, n5, n6, n7⟩ := ws8 h2 (by omega)
      obtain ⟨o0, o1, o2, o3, o4, o5, o6, o7⟩ := wf8 h2 (by omega)
      clear h2
      go_wp2_with fail
      refine bodyPost_ret (v := .agg (a8 z)) (by simp [results, Try.results37, go_sem, *]) rfl ?_
      exact ⟨by rw [← hz], kp_fresh8 hkp (by omega) _ _ _ _ _ _ _ _⟩
end Go.Proofs.Ytjdjhccefnffmaa
set_option maxRecDepth 100000
set_option maxHeartbeats 1000000
namespace Go.Proofs.Ytjdjhccefnffmaa
open Go LX Go.RowKit
/-- The number of so many words. -/
def sm (h : Nat → Int) : Nat → Int
  | 0 => 0
  | n + 1 => sm h n + h n * 4294967296 ^ n
theorem sm8 (h : Nat → Int) : sm h 8 = val8 h := by simp [sm, val8]; omega
theorem sm16 (h : Nat → Int) : sm h 16 = val16 h := by simp [sm, val16, val8]; omega
theorem sm_wset (h : Nat → Int) (m : Nat) (v : Int) : ∀ n, m < n → sm (wset h m v) n = sm h n + (v - h m) * 4294967296 ^ m := by
  have lo : ∀ n, n ≤ m → sm (wset h m v) n = sm h n := by
    intro n
    induction n with
    | zero => intro _; rfl
    | succ n ih => intro hn; simp only [sm]; rw [ih (by omega), wset_ne (by omega)]
  intro n
  induction n with
  | zero => intro h; omega
  | succ n ih =>
    intro hn
    simp only [sm]
    by_cases e : n = m
    · subst e
      rw [lo n (by omega), wset_eq, Int.sub_mul]; omega
    · rw [ih (by omega), wset_ne e]; omega
/-- Where the inner loop stands. -/
structure Tm (a b h0 h : Nat → Int) (c : Int) (i k : Nat) : Prop where
  w : ∀ j, j < 16 → 0 ≤ h j ∧ h j < 4294967296
  z : ∀ j, i + 8 ≤ j → j < 16 → h j = 0
  c0 : 0 ≤ c
  c1 : c < 4294967296
  v : sm h 16 + c * 4294967296 ^ (i + k) = sm h0 16 + a i * 4294967296 ^ i * sm b k
theorem Tm.step {a b h0 h : Nat → Int} {c : Int} {i k : Nat} (t : Tm a b h0 h c i k) (ha : W32 a) (hb : W32 b) (hi : i < 8) (hk : k < 8) :
    Tm a b h0 (wset h (i + k) ((c + (h (i + k) + a i * b k)) % 4294967296)) ((c + (h (i + k) + a i * b k)) / 4294967296) i (k + 1) ∧
      0 ≤ c + (h (i + k) + a i * b k) ∧ c + (h (i + k) + a i * b k) < 18446744073709551616 ∧ 0 ≤ a i * b k ∧ a i * b k < 18446744073709551616 ∧ h (i + k) + a i * b k < 18446744073709551616 := by
  have a1 := ha i hi
  have b1 := hb k hk
  have h1 := t.w (i + k) (by omega)
  have m1 : 0 ≤ a i * b k := Int.mul_nonneg a1.1 b1.1
  have m2 : a i * b k ≤ 4294967295 * 4294967295 := Int.mul_le_mul (by omega) (by omega) b1.1 (by omega)
  have c0 := t.c0
  have c1 := t.c1
  refine ⟨⟨fun j hj => ?_, fun j hj h16 => ?_, by omega, by omega, ?_⟩, by omega, by omega, m1, by omega, by omega⟩
  · unfold wset
    by_cases e : j = i + k
    · rw [if_pos e]; omega
    · rw [if_neg e]; exact t.w j hj
  · unfold wset
    rw [if_neg (by omega)]
    exact t.z j hj h16
  · rw [sm_wset h _ _ 16 (by omega)]
    have hv := t.v
    have e1 : (c + (h (i + k) + a i * b k)) = 4294967296 * ((c + (h (i + k) + a i * b k)) / 4294967296) + (c + (h (i + k) + a i * b k)) % 4294967296 := by omega
    rw [show sm b (k + 1) = sm b k + b k * 4294967296 ^ k from rfl, show i + (k + 1) = i + k + 1 by omega, Int.pow_succ]
    rw [Int.pow_add] at hv ⊢
    generalize (c + (h (i + k) + a i * b k)) / 4294967296 = q at *
    generalize (c + (h (i + k) + a i * b k)) % 4294967296 = r at *
    generalize (4294967296 : Int) ^ i = u at *
    generalize (4294967296 : Int) ^ k = v at *
    generalize sm h 16 = S at *
    generalize sm h0 16 = X at *
    generalize sm b k = T at *
    generalize h (i + k) = hn at *
    generalize a i = A at *
    generalize b k = bk at *
    obtain rfl : r = c + (hn + A * bk) - 4294967296 * q := by omega
    clear e1 h1 a1 b1 m1 m2 c0 c1 t ha hb hi hk
    have hS : S = X + A * u * T - c * (u * v) := by omega
    subst hS
    clear hv
    grind -lia -linarith
theorem Tm.done {a b h0 h : Nat → Int} {c : Int} {i : Nat} (t : Tm a b h0 h c i 8) (hi : i < 8) : (∀ j, j < 16 → 0 ≤ wset h (i + 8) c j ∧ wset h (i + 8) c j < 4294967296) ∧ (∀ j, i + 1 + 8 ≤ j → j < 16 → wset h (i + 8) c j = 0) ∧
    sm (wset h (i + 8) c) 16 = sm h0 16 + a i * 4294967296 ^ i * sm b 8 := by
  refine ⟨fun j hj => ?_, fun j hj h16 => ?_, ?_⟩
  · unfold wset
    by_cases e : j = i + 8
    · rw [if_pos e]; exact ⟨t.c0, t.c1⟩
    · rw [if_neg e]; exact t.w j hj
  · unfold wset
    rw [if_neg (by omega)]
    exact t.z j (by omega) h16
  · rw [sm_wset h _ _ 16 (by omega), t.z (i + 8) (by omega) (by omega), Int.sub_zero]
    exact t.v
theorem andu32 (s : Int) (h0 : 0 ≤ s) (h1 : s < 18446744073709551616) : bits .and .u64 s 4294967295 = s % 4294967296 := by
  obtain ⟨n, rfl⟩ := Int.eq_ofNat_of_zero_le h0
  have h := bits_and_u64 n 4294967295 (by omega) (by omega)
  rw [show ((4294967295 : Nat) : Int) = 4294967295 from rfl] at h
  rw [h, show 4294967295 = 2 ^ 32 - 1 from rfl, Nat.and_two_pow_sub_one_eq_mod]
  omega
/-- Where the outer loop stands. -/
structure Om (a b h : Nat → Int) (i : Nat) : Prop where
  w : ∀ j, j < 16 → 0 ≤ h j ∧ h j < 4294967296
  z : ∀ j, i + 8 ≤ j → j < 16 → h j = 0
  v : sm h 16 = sm a i * sm b 8
theorem Om.tm {a b h : Nat → Int} {i : Nat} (o : Om a b h i) : Tm a b h h 0 i 0 := ⟨o.w, o.z, by omega, by omega, by simp [sm]⟩
theorem Om.next {a b h0 h : Nat → Int} {c : Int} {i : Nat} (o : Om a b h0 i) (t : Tm a b h0 h c i 8) (hi : i < 8) : Om a b (wset h (i + 8) c) (i + 1) := by
  obtain ⟨h1, h2, h3⟩ := t.done hi
  refine ⟨h1, h2, ?_⟩
  rw [h3, o.v, show sm a (i + 1) = sm a i + a i * 4294967296 ^ i from rfl, Int.add_mul]
theorem c48 {w : World} {a b : EC.F} : Calls Try.prog 48 #[Ev a, Ev b] w (Ev01 (a * b) w) := by
  have ha := ew_W32 a
  have hb := ew_W32 b
  have va := ew_val a
  have vb := ew_val b
  have hV : Hid (∀ h, Om (ew a) (ew b) h 8 → a8 (wdI (val16 h % pI)) = a8 (ew (a * b))) := Lib.hid fun h o => ew_of (by rw [← sm16, o.v, sm8, sm8, va, vb]; exact val_mul a b)
  have hO : Hid (Om (ew a) (ew b) (fun _ => 0) 0) := Lib.hid ⟨fun j _ => by omega, fun _ _ _ => rfl, by simp [sm]⟩
  have k0 : Kp non w ((((w.alloc (.cells (a8 (ew a)) 25)).alloc (.cells (a8 (ew b)) 25)).alloc (.cells (a8 fun _ => 0) 25)).alloc (.cells (a16 fun _ => 0) 76)) := ((((Kp.refl _ w).alloc _).alloc _).alloc _).alloc _
  have h0 := (((Ws.new8 w 25 (ew a)).kp ((Kp.refl non _).alloc (.cells (a8 (ew b)) 25)) fun _ _ h => h).kp ((Kp.refl non _).alloc (.cells (a8 fun _ => 0) 25)) fun _ _ h => h).kp ((Kp.refl non _).alloc (.cells (a16 fun _ => 0) 76)) fun _ _ h => h
  have h1 := ((Ws.new8 (w.alloc (.cells (a8 (ew a)) 25)) 25 (ew b)).kp ((Kp.refl non _).alloc (.cells (a8 fun _ => 0) 25)) fun _ _ h => h).kp ((Kp.refl non _).alloc (.cells (a16 fun _ => 0) 76)) fun _ _ h => h
  have h2 := (Ws.new8 ((w.alloc (.cells (a8 (ew a)) 25)).alloc (.cells (a8 (ew b)) 25)) 25 fun _ => 0).kp ((Kp.refl non _).alloc (.cells (a16 fun _ => 0) 76)) fun _ _ h => h
  have h3 := Ws.new16 (((w.alloc (.cells (a8 (ew a)) 25)).alloc (.cells (a8 (ew b)) 25)).alloc (.cells (a8 fun _ => 0) 25)) 76 fun _ => 0
  simp only [size1] at h1 h2 h3
  show Calls Try.prog 48 #[.agg (a8 (ew a)), .agg (a8 (ew b))] w _
  generalize ew a = x at *
  generalize ew b = y at *
  clear va vb
  go_enter Try.func48, Try.ntmps48
  go_wp2_with fail
  generalize hHH : w.heap.size = H at *
  go_loopw [6] (fun i wr => ∃ (m : Nat) (h : Nat → Int), m ≤ 8 ∧ i = .int .i64 (m : Int) ∧ Kp non w wr ∧ Ws wr H 8 x ∧ Ws wr (H + 1) 8 y ∧ Ws wr (H + 1 + 1) 8 (fun _ => 0) ∧ Ws wr (H + 1 + 1 + 1) 16 h ∧ Hid (Om x y h m)) (fun i _ => 8 - (intOf i).toNat)
  case atStart => exact ⟨0, _, by omega, rfl, k0, h0, h1, h2, h3, hO⟩
  case round =>
    clear k0 h0 h1 h2 h3 hO
    obtain ⟨m, h, hm, rfl, hkp, h0, h1, h2, h3, hO⟩ := hrel
    by_cases hlt : m < 8
    · have z1 : (m : Int) < 8 := by omega
      have hT := Lib.hid hO.out.tm
      go_wp2_with fail
      go_loopw [7, 8] (fun c k wr => ∃ (n : Nat) (g : Nat → Int) (cv : Int), n ≤ 8 ∧ k = .int .i64 (n : Int) ∧ c = .int .u64 cv ∧ Kp non w wr ∧ Ws wr H 8 x ∧ Ws wr (H + 1) 8 y ∧ Ws wr (H + 1 + 1) 8 (fun _ => 0) ∧ Ws wr (H + 1 + 1 + 1) 16 g ∧ Hid (Tm x y h g cv m n)) (fun _ k _ => 8 - (intOf k).toNat)
      case atStart => exact ⟨0, h, 0, by omega, rfl, rfl, hkp, h0, h1, h2, h3, hT⟩
      case round =>
        clear hkp h0 h1 h2 h3 hT
        obtain ⟨n, g, cv, hn, rfl, rfl, hkp, h0, h1, h2, h3, hT⟩ := hrel
        by_cases hlt2 : n < 8
        · obtain ⟨hT2, s1, s2, s3, s4, s5⟩ := hT.out.step ha hb hlt hlt2
          have t1 := hT.out.c0
          have t2 := hT.out.c1
          have t3 := hT.out.w (m + n) (by omega)
          have t4 := ha m hlt
          have t5 := hb n hlt2
          replace hT2 := Lib.hid hT2
          clear hT
          have z2 : (n : Int) < 8 := by omega
          obtain ⟨p, hp⟩ : ∃ p, p = m + n := ⟨_, rfl⟩
          rw [← hp] at s1 s2 s5 t3 hT2
          have z3 : (m : Int) + (n : Int) = (p : Int) := by omega
          have z4 : IntKind.i64.wrap ((m : Int) + (n : Int)) = (p : Int) := by rw [IntKind.wrap_i64]; omega
          have z5 : (p : Int) < 16 := by omega
          have z6 : p < 16 := by omega
          have z7 : IntKind.i64.wrap (p : Int) = (p : Int) := by rw [IntKind.wrap_i64]; omega
          have z8 : (0 : Int) ≤ (p : Int) := by omega
          have c0 := (h0.drew m (by omega)).1
          have c1 := (h1.drew n (by omega)).1
          have c3 := (h3.drew p (by omega)).1
          have f3 := (h3.drew p (by omega)).2
          have w1 : IntKind.u64.wrap (g p) = g p := by rw [IntKind.wrap_u64]; omega
          have w2 : IntKind.u64.wrap (x m) = x m := by rw [IntKind.wrap_u64]; omega
          have w3 : IntKind.u64.wrap (y n) = y n := by rw [IntKind.wrap_u64]; omega
          have w4 : IntKind.u64.wrap (x m * y n) = x m * y n := by rw [IntKind.wrap_u64]; omega
          have w5 : IntKind.u64.wrap (g p + x m * y n) = g p + x m * y n := by rw [IntKind.wrap_u64]; omega
          have w6 : IntKind.u64.wrap (cv + (g p + x m * y n)) = cv + (g p + x m * y n) := by rw [IntKind.wrap_u64]; omega
          have w7 := andu32 (cv + (g p + x m * y n)) s1 s2
          have w8 : IntKind.i64.wrap ((cv + (g p + x m * y n)) % 4294967296) = (cv + (g p + x m * y n)) % 4294967296 := by rw [IntKind.wrap_i64]; omega
          clear hp t3 t4 t5 s3 s4 s5
          go_wp2_with fail
          go_still (by kernel_rfl)
          rw [show (World.mk wr.heap wr.tape (wr.drawn + 1) wr.os wr.output) = wr.drew from rfl]
          replace h0 := (h0.other (b' := H + 1 + 1 + 1) (o' := p) (v := .int .i64 ((cv + (g p + x m * y n)) % 4294967296)) (by omega) rfl).drew
          replace h1 := (h1.other (b' := H + 1 + 1 + 1) (o' := p) (v := .int .i64 ((cv + (g p + x m * y n)) % 4294967296)) (by omega) rfl).drew
          replace h2 := (h2.other (b' := H + 1 + 1 + 1) (o' := p) (v := .int .i64 ((cv + (g p + x m * y n)) % 4294967296)) (by omega) rfl).drew
          replace h3 := (h3.set (n := p) ((cv + (g p + x m * y n)) % 4294967296)).drew
          replace hkp := (kp_fresh hkp (b := H + 1 + 1 + 1) (by omega) p (.int .i64 ((cv + (g p + x m * y n)) % 4294967296))).drew
          go_wp2_with fail
          clear c0 c1 c3 f3 w1 w2 w3 w4 w5 w6 w7 w8
          go_roundw
          case rel => exact ⟨n + 1, _, _, by omega, by go_num, rfl, hkp, h0, h1, h2, h3, hT2⟩
          case measure => simp [intOf]; omega
        · obtain rfl : n = 8 := by omega
          have t1 := hT.out.c0
          have t2 := hT.out.c1
          have z3 : IntKind.i64.wrap ((m : Int) + 8) = (m : Int) + 8 := by rw [IntKind.wrap_i64]; omega
          have z4 : (m : Int) + 8 < 16 := by omega
          have z5 : (0 : Int) ≤ (m : Int) + 8 := by omega
          have z6 : ((m : Int) + 8).toNat = m + 8 := by omega
          have c3 := (h3 (m + 8) (by omega)).1
          have f3 := (h3 (m + 8) (by omega)).2
          have w1 : IntKind.i64.wrap cv = cv := by rw [IntKind.wrap_i64]; omega
          have hN := Lib.hid (hO.out.next hT.out hlt)
          go_wp2_with fail
          replace h0 := h0.other (b' := H + 1 + 1 + 1) (o' := m + 8) (v := .int .i64 cv) (by omega) rfl
          replace h1 := h1.other (b' := H + 1 + 1 + 1) (o' := m + 8) (v := .int .i64 cv) (by omega) rfl
          replace h2 := h2.other (b' := H + 1 + 1 + 1) (o' := m + 8) (v := .int .i64 cv) (by omega) rfl
          replace h3 := h3.set (n := m + 8) cv
          replace hkp := kp_fresh hkp (b := H + 1 + 1 + 1) (by omega) (m + 8) (.int .i64 cv)
          clear c3 f3 z3 z4 z5 z6 w1
          go_roundw
          case rel => exact ⟨m + 1, _, by omega, by go_num, hkp, h0, h1, h2, h3, hN⟩
          case measure => simp [intOf]; omega
    · obtain rfl : m = 8 := by omega
      obtain ⟨d0, d1, d2, d3, d4, d5, d6, d7, d8, d9, d10, d11, d12, d13, d14, d15⟩ := ws16 h3
      have hbd : Bd h 16 17179869184 := fun j hj => by have := hO.out.w j hj; omega
      have hVh := Lib.hid (hV.out h hO.out)
      clear h0 h1 h3
      go_wp2_with fail
      refine (c54 hbd).mono ?_
      rintro e w1 ⟨rfl, hk1⟩
      replace hkp := hkp.non hk1
      replace h2 := h2.kp hk1 fun _ _ h => h
      rw [hVh.out]
      clear d0 d1 d2 d3 d4 d5 d6 d7 d8 d9 d10 d11 d12 d13 d14 d15 hbd hk1
      generalize hz : ew (a * b) = z at *
      obtain ⟨n0, n1, n2, n3, n4, n5, n6, n7⟩ := ws8 h2 (by omega)
      obtain ⟨o0, o1, o2, o3, o4, o5, o6, o7⟩ := wf8 h2 (by omega)
      clear h2
      go_wp2_with fail
      refine bodyPost_ret (v := .agg (a8 z)) (by simp [results, Try.results48, go_sem, *]) rfl ?_
      exact ⟨by rw [← hz], kp_fresh8 hkp (by omega) _ _ _ _ _ _ _ _⟩
end Go.Proofs.Ytjdjhccefnffmaa
