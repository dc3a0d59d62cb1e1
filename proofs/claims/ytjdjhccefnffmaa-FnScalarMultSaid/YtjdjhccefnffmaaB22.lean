import Derived.Test.YtjdjhccefnffmaaB21
import Derived.Deep.MidRow
import Derived.Laws.Cells
import Derived.Laws.IdiomStrings
set_option linter.unusedVariables false
set_option linter.unusedSimpArgs false
set_option maxRecDepth 100000
set_option maxHeartbeats 1000000
namespace Go.Proofs.Ytjdjhccefnffmaa
open Go LX Go.RowKit
/-- The words after k bytes. -/
def ofW (f : Nat → Nat) : Nat → Nat → Int
  | 0 => fun _ => 0
  | k + 1 => wset (ofW f k) ((31 - k) / 4) (ofW f k ((31 - k) / 4) + (f k : Int) * 2 ^ (8 * ((31 - k) % 4)))
/-- Four bytes. -/
def ch (f : Nat → Nat) (j : Nat) : Int := ((hi8 (fun i => f (28 - 4 * j + i)) 4 : Nat) : Int)
theorem ch_W32 {f : Nat → Nat} (h : ∀ i, i < 32 → f i < 256) : W32 (ch f) := fun j hj => by
  have h0 := h (28 - 4 * j + 0) (by omega)
  have h1 := h (28 - 4 * j + 1) (by omega)
  have h2 := h (28 - 4 * j + 2) (by omega)
  have h3 := h (28 - 4 * j + 3) (by omega)
  simp only [ch, hi8]
  omega
theorem ch_val (f : Nat → Nat) : val8 (ch f) = (hi8 f 32 : Nat) := by
  have e : ∀ m, hi8 f (m + 4) = hi8 f m * 4294967296 + hi8 (fun i => f (m + i)) 4 := fun m => by rw [hi8_add]
  have e7 := e 28; have e6 := e 24; have e5 := e 20; have e4 := e 16; have e3 := e 12; have e2 := e 8; have e1 := e 4; have e0 := e 0
  simp only [Nat.reduceAdd] at e0 e1 e2 e3 e4 e5 e6 e7
  rw [show hi8 f 0 = 0 from rfl] at e0
  rw [e7, e6, e5, e4, e3, e2, e1, e0]
  simp only [val8, ch, Nat.reduceMul, Nat.reduceSub]
  generalize hi8 (fun i => f (28 + i)) 4 = x0
  generalize hi8 (fun i => f (24 + i)) 4 = x1
  generalize hi8 (fun i => f (20 + i)) 4 = x2
  generalize hi8 (fun i => f (16 + i)) 4 = x3
  generalize hi8 (fun i => f (12 + i)) 4 = x4
  generalize hi8 (fun i => f (8 + i)) 4 = x5
  generalize hi8 (fun i => f (4 + i)) 4 = x6
  generalize hi8 (fun i => f (0 + i)) 4 = x7
  omega
theorem ofW_ch (f : Nat → Nat) : ∀ j, j < 8 → ofW f 32 j = ch f j := by
  intro j hj
  have : j = 0 ∨ j = 1 ∨ j = 2 ∨ j = 3 ∨ j = 4 ∨ j = 5 ∨ j = 6 ∨ j = 7 := by omega
  rcases this with rfl | rfl | rfl | rfl | rfl | rfl | rfl | rfl <;> simp [ofW, wset, ch, hi8] <;> omega
theorem nw_wdI (n i : Nat) : nw n i = wdI (n : Int) i := by unfold nw wdI; rw [Int.natCast_emod, Int.natCast_ediv, Int.natCast_pow]; rfl
theorem ofW_nw {f : Nat → Nat} (h : ∀ i, i < 32 → f i < 256) : ∀ j, j < 8 → ofW f 32 j = nw (hi8 f 32) j := fun j hj => by
  rw [ofW_ch f j hj, wdI_val8 (ch_W32 h) j hj, ch_val, nw_wdI]
theorem ofW_bd {f : Nat → Nat} (h : ∀ i, i < 32 → f i < 256) : ∀ k, k ≤ 32 → ∀ j, 0 ≤ ofW f k j ∧ ofW f k j ≤ 4294967296 * k
  | 0, _, j => by simp [ofW]
  | k + 1, hk, j => by
    have ih := ofW_bd h k (by omega)
    have hf := h k (by omega)
    have hp : (2 : Int) ^ (8 * ((31 - k) % 4)) ≤ 16777216 ∧ 0 < (2 : Int) ^ (8 * ((31 - k) % 4)) := by
      have : (31 - k) % 4 = 0 ∨ (31 - k) % 4 = 1 ∨ (31 - k) % 4 = 2 ∨ (31 - k) % 4 = 3 := by omega
      rcases this with h | h | h | h <;> rw [h] <;> decide
    have hm : (f k : Int) * 2 ^ (8 * ((31 - k) % 4)) ≤ 255 * 16777216 := Int.mul_le_mul (by omega) hp.1 (by omega) (by omega)
    have hm0 : 0 ≤ (f k : Int) * 2 ^ (8 * ((31 - k) % 4)) := Int.mul_nonneg (by omega) (by omega)
    show 0 ≤ wset (ofW f k) _ _ j ∧ wset (ofW f k) _ _ j ≤ _
    unfold wset
    have i1 := ih j
    have i2 := ih ((31 - k) / 4)
    split <;> omega
/-- The number of 32 bytes comes back. -/
def Nw01 (n : Nat) (w : World) (e : Ending) (w' : World) : Prop := e = .returned (.agg (a8 (nw n))) ∧ Kp non w w'
theorem c31 {w : World} {f : Nat → Nat} (hf : ∀ i, i < 32 → f i < 256) : Calls Try.prog 31 #[.agg (bys f 32)] w (Nw01 (hi8 f 32) w) := by
  have k0 : Kp non w (((w.alloc (.cells (bys f 32) 23)).alloc (.cells (a8 fun _ => 0) 25)).alloc (.cells (a8 fun _ => 0) 25)) := (((Kp.refl _ w).alloc _).alloc _).alloc _
  have h0 := ((By.new w 23 f 32 hf).kp ((Kp.refl non _).alloc (.cells (a8 fun _ => 0) 25)) fun _ _ h => h).kp ((Kp.refl non _).alloc (.cells (a8 fun _ => 0) 25)) fun _ _ h => h
  have h1 := (Ws.new8 (w.alloc (.cells (bys f 32) 23)) 25 fun _ => 0).kp ((Kp.refl non _).alloc (.cells (a8 fun _ => 0) 25)) fun _ _ h => h
  have h2 := Ws.new8 ((w.alloc (.cells (bys f 32) 23)).alloc (.cells (a8 fun _ => 0) 25)) 25 fun _ => 0
  simp only [size1] at h1 h2
  go_enter Try.func31, Try.ntmps31
  go_wp2_with fail
  generalize hHH : w.heap.size = H at *
  go_loopw [4] (fun i wr => ∃ k : Nat, k ≤ 32 ∧ i = .int .i64 (k : Int) ∧ Kp non w wr ∧ By wr H 0 32 f ∧ Ws wr (H + 1) 8 (fun _ => 0) ∧ Ws wr (H + 1 + 1) 8 (ofW f k)) (fun i _ => 32 - (intOf i).toNat)
  case atStart => exact ⟨0, by omega, rfl, k0, h0, h1, h2⟩
  case round =>
    clear k0 h0 h1 h2
    obtain ⟨k, hk, rfl, kx, h0, h1, h2⟩ := hrel
    by_cases hlt : k < 32
    · obtain ⟨m, hm⟩ : ∃ m, m = 31 - k := ⟨_, rfl⟩
      obtain ⟨j, hj⟩ : ∃ j, j = m / 4 := ⟨_, rfl⟩
      have a1 : (k : Int) < 32 := by omega
      have a2 : IntKind.i64.wrap (31 - (k : Int)) = (m : Int) := by rw [IntKind.wrap_i64]; omega
      have a3 : (m : Int).tdiv 4 = (j : Int) := by rw [Int.tdiv_eq_ediv_of_nonneg (by omega)]; omega
      have a4 : IntKind.i64.wrap (j : Int) = (j : Int) := by rw [IntKind.wrap_i64]; omega
      have a5 : (j : Int) < 8 := by omega
      have a6 : j < 8 := by omega
      have bk := hf k hlt
      have b0 := ofW_bd hf k hk j
      have c0 : wr.drew.cell? ⟨H, k, none⟩ = some (.int .u8 (f k : Nat)) := by have := (h0 k hlt).1.1; rwa [Nat.zero_add] at this
      have c2 := (h2.drew j a6).1
      have f2 := (h2.drew j a6).2
      have y1 : IntKind.i64.wrap ((f k : Nat) : Int) = ((f k : Nat) : Int) := by rw [IntKind.wrap_i64]; omega
      have hstep : ∀ t : Nat, t = m % 4 → ofW f (k + 1) = wset (ofW f k) j (ofW f k j + (f k : Int) * 2 ^ (8 * t)) := fun t ht => by
        subst ht; rw [hj, hm]; rfl
      have ht : m % 4 = 0 ∨ m % 4 = 1 ∨ m % 4 = 2 ∨ m % 4 = 3 := by omega
      rcases ht with ht | ht | ht | ht
      · have d1 : (m : Int).tmod 4 = 0 := by rw [Int.tmod_eq_emod_of_nonneg (by omega)]; omega
        have y2 : IntKind.i64.wrap ((f k : Int)) = (f k : Int) := by rw [IntKind.wrap_i64]; omega
        have y3 : IntKind.i64.wrap (ofW f k j + (f k : Int)) = ofW f k j + (f k : Int) := by rw [IntKind.wrap_i64]; omega
        have hs := hstep 0 ht.symm
        rw [show (f k : Int) * 2 ^ (8 * 0) = (f k : Int) by simp] at hs
        replace hs := Lib.hid hs
        clear hstep hm hj ht
        go_wp2_with fail
        go_region
        have q2 := (h2.set (n := j) (ofW f k j + (f k : Int))).drew
        rw [← hs.out] at q2
        replace h0 := (h0.kp ((Kp.refl (at_ (H + 1 + 1) 0 8) wr).setCell (k := H + 1 + 1) (o := j) (.int .i64 (ofW f k j + (f k : Int))) fun _ => ⟨rfl, by omega, by omega⟩) fun i hi h => by have := h.1; omega).drew
        replace h1 := (h1.other (b' := H + 1 + 1) (o' := j) (v := .int .i64 (ofW f k j + (f k : Int))) (by omega) rfl).drew
        replace kx := (kp_fresh kx (b := H + 1 + 1) (by omega) j (.int .i64 (ofW f k j + (f k : Int)))).drew
        clear c0 c2 f2 y1 y2 y3 d1
        go_wp2_with fail
        go_roundw
        case rel => exact ⟨k + 1, by omega, by go_num, kx, h0, h1, q2⟩
        case measure => simp [intOf]; omega
      · have d1 : (m : Int).tmod 4 = 1 := by rw [Int.tmod_eq_emod_of_nonneg (by omega)]; omega
        have y2 : IntKind.i64.wrap ((f k : Int) * 256) = (f k : Int) * 256 := by rw [IntKind.wrap_i64]; omega
        have y3 : IntKind.i64.wrap (ofW f k j + (f k : Int) * 256) = ofW f k j + (f k : Int) * 256 := by rw [IntKind.wrap_i64]; omega
        have hs := hstep 1 ht.symm
        rw [show (f k : Int) * 2 ^ (8 * 1) = (f k : Int) * 256 by rfl] at hs
        replace hs := Lib.hid hs
        clear hstep hm hj ht
        go_wp2_with fail
        go_region
        have q2 := (h2.set (n := j) (ofW f k j + (f k : Int) * 256)).drew
        rw [← hs.out] at q2
        replace h0 := (h0.kp ((Kp.refl (at_ (H + 1 + 1) 0 8) wr).setCell (k := H + 1 + 1) (o := j) (.int .i64 (ofW f k j + (f k : Int) * 256)) fun _ => ⟨rfl, by omega, by omega⟩) fun i hi h => by have := h.1; omega).drew
        replace h1 := (h1.other (b' := H + 1 + 1) (o' := j) (v := .int .i64 (ofW f k j + (f k : Int) * 256)) (by omega) rfl).drew
        replace kx := (kp_fresh kx (b := H + 1 + 1) (by omega) j (.int .i64 (ofW f k j + (f k : Int) * 256))).drew
        clear c0 c2 f2 y1 y2 y3 d1
        go_wp2_with fail
        go_roundw
        case rel => exact ⟨k + 1, by omega, by go_num, kx, h0, h1, q2⟩
        case measure => simp [intOf]; omega
      · have d1 : (m : Int).tmod 4 = 2 := by rw [Int.tmod_eq_emod_of_nonneg (by omega)]; omega
        have y2 : IntKind.i64.wrap ((f k : Int) * 65536) = (f k : Int) * 65536 := by rw [IntKind.wrap_i64]; omega
        have y3 : IntKind.i64.wrap (ofW f k j + (f k : Int) * 65536) = ofW f k j + (f k : Int) * 65536 := by rw [IntKind.wrap_i64]; omega
        have hs := hstep 2 ht.symm
        rw [show (f k : Int) * 2 ^ (8 * 2) = (f k : Int) * 65536 by rfl] at hs
        replace hs := Lib.hid hs
        clear hstep hm hj ht
        go_wp2_with fail
        go_region
        have q2 := (h2.set (n := j) (ofW f k j + (f k : Int) * 65536)).drew
        rw [← hs.out] at q2
        replace h0 := (h0.kp ((Kp.refl (at_ (H + 1 + 1) 0 8) wr).setCell (k := H + 1 + 1) (o := j) (.int .i64 (ofW f k j + (f k : Int) * 65536)) fun _ => ⟨rfl, by omega, by omega⟩) fun i hi h => by have := h.1; omega).drew
        replace h1 := (h1.other (b' := H + 1 + 1) (o' := j) (v := .int .i64 (ofW f k j + (f k : Int) * 65536)) (by omega) rfl).drew
        replace kx := (kp_fresh kx (b := H + 1 + 1) (by omega) j (.int .i64 (ofW f k j + (f k : Int) * 65536))).drew
        clear c0 c2 f2 y1 y2 y3 d1
        go_wp2_with fail
        go_roundw
        case rel => exact ⟨k + 1, by omega, by go_num, kx, h0, h1, q2⟩
        case measure => simp [intOf]; omega
      · have d1 : (m : Int).tmod 4 = 3 := by rw [Int.tmod_eq_emod_of_nonneg (by omega)]; omega
        have y2 : IntKind.i64.wrap ((f k : Int) * 16777216) = (f k : Int) * 16777216 := by rw [IntKind.wrap_i64]; omega
        have y3 : IntKind.i64.wrap (ofW f k j + (f k : Int) * 16777216) = ofW f k j + (f k : Int) * 16777216 := by rw [IntKind.wrap_i64]; omega
        have hs := hstep 3 ht.symm
        rw [show (f k : Int) * 2 ^ (8 * 3) = (f k : Int) * 16777216 by rfl] at hs
        replace hs := Lib.hid hs
        clear hstep hm hj ht
        go_wp2_with fail
        go_region
        have q2 := (h2.set (n := j) (ofW f k j + (f k : Int) * 16777216)).drew
        rw [← hs.out] at q2
        replace h0 := (h0.kp ((Kp.refl (at_ (H + 1 + 1) 0 8) wr).setCell (k := H + 1 + 1) (o := j) (.int .i64 (ofW f k j + (f k : Int) * 16777216)) fun _ => ⟨rfl, by omega, by omega⟩) fun i hi h => by have := h.1; omega).drew
        replace h1 := (h1.other (b' := H + 1 + 1) (o' := j) (v := .int .i64 (ofW f k j + (f k : Int) * 16777216)) (by omega) rfl).drew
        replace kx := (kp_fresh kx (b := H + 1 + 1) (by omega) j (.int .i64 (ofW f k j + (f k : Int) * 16777216))).drew
        clear c0 c2 f2 y1 y2 y3 d1
        go_wp2_with fail
        go_roundw
        case rel => exact ⟨k + 1, by omega, by go_num, kx, h0, h1, q2⟩
        case measure => simp [intOf]; omega
    · obtain rfl : k = 32 := by omega
      replace h2 := h2.congr (ofW_nw hf)
      generalize hi8 f 32 = n at *
      obtain ⟨d0, d1, d2, d3, d4, d5, d6, d7⟩ := ws8 h2 (by omega)
      obtain ⟨n0, n1, n2, n3, n4, n5, n6, n7⟩ := ws8 h1 (by omega)
      obtain ⟨o0, o1, o2, o3, o4, o5, o6, o7⟩ := wf8 h1 (by omega)
      clear h0 h1 h2
      go_wp2_with fail
      refine bodyPost_ret (v := .agg (a8 (nw n))) (by simp [results, Try.results31, go_sem, *]) rfl ?_
      exact ⟨rfl, kp_fresh8 kx (by omega) _ _ _ _ _ _ _ _⟩
end Go.Proofs.Ytjdjhccefnffmaa
set_option maxRecDepth 100000
set_option maxHeartbeats 1000000
namespace Go.Proofs.Ytjdjhccefnffmaa
open Go LX Go.RowKit
theorem By.range {w : World} {b n : Nat} {f : Nat → Nat} (h : By w b 0 n f) : w.rangeAt b 0 (byl f n) := fun j v hv => by
  have := h.src j v hv
  rwa [show (Addr.add ⟨b, 0, none⟩ j) = ⟨b, 0 + j, none⟩ from by simp [Addr.add]; omega] at this
theorem results_row {fn : Func} {tmps : Array Value} {t b : Nat} {f : Nat → Nat} {w : World} (hr : fn.results = #[.cell t 23]) (ht : tmps.getD t undef = .pointer (some ⟨b, 0, none⟩))
    (h : By w b 0 32 f) : (results fn tmps).run Try.prog w = .ok (.agg (bys f 32)) w := by
  have hv := run_loadVar_mid (P := Try.prog) w b 0 23 (byl f 32) (.array 32 5) h.range (by kernel_rfl) rfl (by rw [byl_len]; kernel_rfl)
  rw [Array.getD_eq_getD_getElem?] at ht
  simp [results, hr, ht, asAddr, hv]
  rfl
theorem By.there {w : World} {b n : Nat} {f : Nat → Nat} (h : By w b 0 n f) : w.there b 0 n := fun j hj => ⟨by rw [(h j hj).1.1]; rfl, (h j hj).1.2⟩
theorem byl_arr (f : Nat → Nat) (n : Nat) : (byl f n).toArray = bys f n := rfl
theorem bys_size (f : Nat → Nat) (n : Nat) : (bys f n).size = n := by simp [bys]
theorem bys_one (f : Nat → Nat) (n : Nat) : (bys f n).all (·.oneCell') = true := by
  rw [← byl_arr]
  exact all_oneCell_toArray fun v hv => byl_mem hv
/-- A load of 32 bytes. -/
theorem wpList_load32 {ops : Array Oper} {rest : List Oper} {op : Oper} {a : Act} {w : World} {Q : Exit → Act → World → Prop} (hgd : op.guard = none) (x : Operand) (ho : op.op = .load 23 x)
    (b : Nat) (hx : a.eval x = .pointer (some ⟨b, 0, none⟩)) (f : Nat → Nat) (h : By w b 0 32 f)
    (hk : wpList Try.prog ops Q rest (a.put op.dst (.agg (bys f 32))) w) : wpList Try.prog ops Q (op :: rest) a w :=
  wpList_load_mid hgd 23 x ho b 0 hx (byl f 32) (.array 32 5) h.range (by kernel_rfl) rfl (by rw [byl_len]; kernel_rfl) hk
/-- A store of 32 bytes. -/
theorem wpList_store32 {ops : Array Oper} {rest : List Oper} {op : Oper} {a : Act} {w : World} {Q : Exit → Act → World → Prop} (hgd : op.guard = none) (x y : Operand) (ho : op.op = .store 23 x y)
    (b : Nat) (f : Nat → Nat) (hx : a.eval x = .pointer (some ⟨b, 0, none⟩)) (hy : a.eval y = .agg (bys f 32)) (g : Nat → Nat) (ht : By w b 0 32 g)
    (h : wpList Try.prog ops Q rest (a.put op.dst undef) (w.setCells b 0 (byl f 32))) : wpList Try.prog ops Q (op :: rest) a w :=
  wpList_store_mid hgd 23 x y ho b 0 (bys f 32) hx hy (by rw [bys_size]; exact ht.there) (by rw [bys_size]; kernel_rfl) (bys_one f 32) h
theorem By.room0 {w : World} {b : Nat} {f : Nat → Nat} (h : By w b 0 32 f) : ∀ j, j < 32 → ∃ v, Cel w b (0 + j) v := fun j hj => ⟨_, (h j hj).1⟩
theorem kp_freshL {w W : World} (h : Kp non w W) {b : Nat} (hb : w.heap.size ≤ b) (o : Nat) (l : List Value) : Kp non w (W.setCells b o l) := Kp.setCells b l o W h fun _ _ hlt => absurd hlt (by omega)
theorem bys32 (f : Nat → Nat) : bys f 32 = #[.int .u8 (f 0 : Nat), .int .u8 (f 1 : Nat), .int .u8 (f 2 : Nat), .int .u8 (f 3 : Nat), .int .u8 (f 4 : Nat), .int .u8 (f 5 : Nat), .int .u8 (f 6 : Nat), .int .u8 (f 7 : Nat), .int .u8 (f 8 : Nat), .int .u8 (f 9 : Nat), .int .u8 (f 10 : Nat), .int .u8 (f 11 : Nat), .int .u8 (f 12 : Nat), .int .u8 (f 13 : Nat), .int .u8 (f 14 : Nat), .int .u8 (f 15 : Nat), .int .u8 (f 16 : Nat), .int .u8 (f 17 : Nat), .int .u8 (f 18 : Nat), .int .u8 (f 19 : Nat), .int .u8 (f 20 : Nat), .int .u8 (f 21 : Nat), .int .u8 (f 22 : Nat), .int .u8 (f 23 : Nat), .int .u8 (f 24 : Nat), .int .u8 (f 25 : Nat), .int .u8 (f 26 : Nat), .int .u8 (f 27 : Nat), .int .u8 (f 28 : Nat), .int .u8 (f 29 : Nat), .int .u8 (f 30 : Nat), .int .u8 (f 31 : Nat)] := rfl
/-- The first k bytes done. -/
def bu (n k i : Nat) : Nat := if i < k then be n i else 0
theorem bu_step {w : World} {b n k : Nat} (h : By w b 0 32 (bu n k)) : By (w.setCell ⟨b, k, none⟩ (.int .u8 (be n k : Nat))) b 0 32 (bu n (k + 1)) := fun i hi => by
  have hb : be n i < 256 := by unfold be; omega
  by_cases e : i = k
  · subst e
    have e2 : bu n (i + 1) i = be n i := if_pos (by omega)
    rw [e2]
    have := (h i hi).1
    rw [Nat.zero_add] at this ⊢
    exact ⟨this.set_same _, hb⟩
  · have e2 : bu n (k + 1) i = bu n k i := by
      unfold bu
      by_cases h2 : i < k
      · rw [if_pos h2, if_pos (by omega)]
      · rw [if_neg h2, if_neg (by omega)]
    rw [e2]
    exact ⟨(h i hi).1.set_other (.inr (by omega)) _, (h i hi).2⟩
theorem byte_of (n k j t : Nat) (hk : 31 - k = 4 * j + t) (ht : t < 4) : IntKind.u8.wrap (nw n j / 256 ^ t) = ((be n k : Nat) : Int) := by
  have h1 : n / 256 ^ (31 - k) = n / 4294967296 ^ j / 256 ^ t := by
    rw [Nat.div_div_eq_div_mul, hk, Nat.pow_add, Nat.pow_mul]
  unfold be nw
  rw [h1, wrap_u8]
  generalize n / 4294967296 ^ j = m
  have : t = 0 ∨ t = 1 ∨ t = 2 ∨ t = 3 := by omega
  rcases this with rfl | rfl | rfl | rfl <;> simp only [Nat.pow_zero, Int.pow_zero, Nat.pow_succ, Int.pow_succ, Nat.one_mul, Int.one_mul, Nat.reduceMul, Int.reduceMul, Nat.div_one, Int.ediv_one] <;> omega
/-- The bytes of a number come back. -/
def Nb01 (n : Nat) (w : World) (e : Ending) (w' : World) : Prop := e = .returned (.agg (bys (be n) 32)) ∧ Kp non w w'
theorem c17 {w : World} {n : Nat} : Calls Try.prog 17 #[.agg (a8 (nw n))] w (Nb01 n w) := by
  have k0 : Kp non w ((((w.alloc (.cells (a8 (nw n)) 25)).alloc (.cells (bys (fun _ => 0) 32) 23)).alloc (.cells (bys (fun _ => 0) 32) 23))) := (((Kp.refl _ w).alloc _).alloc _).alloc _
  have h0 := ((Ws.new8 w 25 (nw n)).kp ((Kp.refl non _).alloc (.cells (bys (fun _ => 0) 32) 23)) fun _ _ h => h).kp ((Kp.refl non _).alloc (.cells (bys (fun _ => 0) 32) 23)) fun _ _ h => h
  have h1 := (By.new (w.alloc (.cells (a8 (nw n)) 25)) 23 (fun _ => 0) 32 fun _ _ => by omega).kp ((Kp.refl non _).alloc (.cells (bys (fun _ => 0) 32) 23)) fun _ _ h => h
  have h2 := By.new ((w.alloc (.cells (a8 (nw n)) 25)).alloc (.cells (bys (fun _ => 0) 32) 23)) 23 (fun _ => 0) 32 fun _ _ => by omega
  simp only [size1] at h1 h2
  have hzv : ∀ W, (zeroValue 23).run Try.prog W = .ok (.agg (bys (fun _ => 0) 32)) W := fun W => by kernel_rfl
  go_enter Try.func17, Try.ntmps17
  go_wp2_with (refine wpList_store32 rfl _ _ rfl (w.heap.size + 1 + 1) (fun _ => 0) rfl rfl (fun _ => 0) h2 ?_)
  have kB := Kp.byl (((w.alloc (.cells (a8 (nw n)) 25)).alloc (.cells (bys (fun _ => 0) 32) 23)).alloc (.cells (bys (fun _ => 0) 32) 23)) (w.heap.size + 1 + 1) 0 32 (fun _ => 0)
  have hx := Nat.le_refl w.heap.size
  have g0 := h0.kp kB fun i _ h => by have := h.1; omega
  have g1 := h1.kp kB fun i _ h => by have := h.1; omega
  have g2 := By.set (f := fun _ => 0) h2.room0 fun _ _ => by omega
  have gk := kp_freshL k0 (b := w.heap.size + 1 + 1) (by omega) 0 (byl (fun _ => 0) 32)
  clear k0 h0 h1 h2 kB hzv
  generalize hHH : w.heap.size = H at *
  generalize ((((w.alloc (.cells (a8 (nw n)) 25)).alloc (.cells (bys (fun _ => 0) 32) 23)).alloc (.cells (bys (fun _ => 0) 32) 23))).setCells (H + 1 + 1) 0 (byl (fun _ => 0) 32) = W1 at *
  replace g2 := g2.congr (g := bu n 0) fun i _ => by unfold bu; rw [if_neg (by omega)]
  go_loopw [4] (fun i wr => ∃ k : Nat, k ≤ 32 ∧ i = .int .i64 (k : Int) ∧ Kp non w wr ∧ Ws wr H 8 (nw n) ∧ By wr (H + 1) 0 32 (fun _ => 0) ∧ By wr (H + 1 + 1) 0 32 (bu n k)) (fun i _ => 32 - (intOf i).toNat)
  case atStart => exact ⟨0, by omega, rfl, gk, g0, g1, g2⟩
  case round =>
    clear gk g0 g1 g2
    obtain ⟨k, hk, rfl, kx, h0, h1, h2⟩ := hrel
    by_cases hlt : k < 32
    · obtain ⟨m, hm⟩ : ∃ m, m = 31 - k := ⟨_, rfl⟩
      obtain ⟨j, hj⟩ : ∃ j, j = m / 4 := ⟨_, rfl⟩
      have a1 : (k : Int) < 32 := by omega
      have a2 : IntKind.i64.wrap (31 - (k : Int)) = (m : Int) := by rw [IntKind.wrap_i64]; omega
      have a2' : 31 - (k : Int) = (m : Int) := by omega
      have a3 : (m : Int).tdiv 4 = (j : Int) := by rw [Int.tdiv_eq_ediv_of_nonneg (by omega)]; omega
      have a4 : IntKind.i64.wrap (j : Int) = (j : Int) := by rw [IntKind.wrap_i64]; omega
      have a5 : (j : Int) < 8 := by omega
      have a6 : j < 8 := by omega
      have c0 := (h0 j a6).1
      have c2 : wr.cell? ⟨H + 1 + 1, k, none⟩ = some (.int .u8 (bu n k k : Nat)) := by have := (h2 k hlt).1.1; rwa [Nat.zero_add] at this
      have f2 : wr.frozen? ⟨H + 1 + 1, k, none⟩ = false := by have := (h2 k hlt).1.2; rwa [Nat.zero_add] at this
      have ht : m % 4 = 0 ∨ m % 4 = 1 ∨ m % 4 = 2 ∨ m % 4 = 3 := by omega
      rcases ht with ht | ht | ht | ht
      · have d1 : (m : Int).tmod 4 = 0 := by rw [Int.tmod_eq_emod_of_nonneg (by omega)]; omega
        have y1 : IntKind.u8.wrap (nw n j) = ((be n k : Nat) : Int) := by
          have := byte_of n k j 0 (by omega) (by omega)
          rwa [Int.pow_zero, Int.ediv_one] at this
        clear hm hj ht
        go_wp2_with fail
        have q2 := bu_step h2
        replace h0 := h0.other (b' := H + 1 + 1) (o' := k) (v := .int .u8 (be n k : Nat)) (by omega) rfl
        replace h1 := h1.kp ((Kp.refl (at_ (H + 1 + 1) 0 32) wr).setCell (k := H + 1 + 1) (o := k) (.int .u8 (be n k : Nat)) fun _ => ⟨rfl, by omega, by omega⟩) fun i hi h => by have := h.1; omega
        replace kx := kp_fresh kx (b := H + 1 + 1) (by omega) k (.int .u8 (be n k : Nat))
        clear c0 c2 f2 y1 d1
        go_roundw
        case rel => exact ⟨k + 1, by omega, by go_num, kx, h0, h1, q2⟩
        case measure => simp [intOf]; omega
      · have d1 : (m : Int).tmod 4 = 1 := by rw [Int.tmod_eq_emod_of_nonneg (by omega)]; omega
        have y1 : IntKind.u8.wrap (nw n j / 256) = ((be n k : Nat) : Int) := by
          have := byte_of n k j 1 (by omega) (by omega)
          exact this
        clear hm hj ht
        go_wp2_with fail
        have q2 := bu_step h2
        replace h0 := h0.other (b' := H + 1 + 1) (o' := k) (v := .int .u8 (be n k : Nat)) (by omega) rfl
        replace h1 := h1.kp ((Kp.refl (at_ (H + 1 + 1) 0 32) wr).setCell (k := H + 1 + 1) (o := k) (.int .u8 (be n k : Nat)) fun _ => ⟨rfl, by omega, by omega⟩) fun i hi h => by have := h.1; omega
        replace kx := kp_fresh kx (b := H + 1 + 1) (by omega) k (.int .u8 (be n k : Nat))
        clear c0 c2 f2 y1 d1
        go_roundw
        case rel => exact ⟨k + 1, by omega, by go_num, kx, h0, h1, q2⟩
        case measure => simp [intOf]; omega
      · have d1 : (m : Int).tmod 4 = 2 := by rw [Int.tmod_eq_emod_of_nonneg (by omega)]; omega
        have y1 : IntKind.u8.wrap (nw n j / 65536) = ((be n k : Nat) : Int) := by
          have := byte_of n k j 2 (by omega) (by omega)
          exact this
        clear hm hj ht
        go_wp2_with fail
        have q2 := bu_step h2
        replace h0 := h0.other (b' := H + 1 + 1) (o' := k) (v := .int .u8 (be n k : Nat)) (by omega) rfl
        replace h1 := h1.kp ((Kp.refl (at_ (H + 1 + 1) 0 32) wr).setCell (k := H + 1 + 1) (o := k) (.int .u8 (be n k : Nat)) fun _ => ⟨rfl, by omega, by omega⟩) fun i hi h => by have := h.1; omega
        replace kx := kp_fresh kx (b := H + 1 + 1) (by omega) k (.int .u8 (be n k : Nat))
        clear c0 c2 f2 y1 d1
        go_roundw
        case rel => exact ⟨k + 1, by omega, by go_num, kx, h0, h1, q2⟩
        case measure => simp [intOf]; omega
      · have d1 : (m : Int).tmod 4 = 3 := by rw [Int.tmod_eq_emod_of_nonneg (by omega)]; omega
        have y1 : IntKind.u8.wrap (nw n j / 16777216) = ((be n k : Nat) : Int) := by
          have := byte_of n k j 3 (by omega) (by omega)
          exact this
        clear hm hj ht
        go_wp2_with fail
        have q2 := bu_step h2
        replace h0 := h0.other (b' := H + 1 + 1) (o' := k) (v := .int .u8 (be n k : Nat)) (by omega) rfl
        replace h1 := h1.kp ((Kp.refl (at_ (H + 1 + 1) 0 32) wr).setCell (k := H + 1 + 1) (o := k) (.int .u8 (be n k : Nat)) fun _ => ⟨rfl, by omega, by omega⟩) fun i hi h => by have := h.1; omega
        replace kx := kp_fresh kx (b := H + 1 + 1) (by omega) k (.int .u8 (be n k : Nat))
        clear c0 c2 f2 y1 d1
        go_roundw
        case rel => exact ⟨k + 1, by omega, by go_num, kx, h0, h1, q2⟩
        case measure => simp [intOf]; omega
    · obtain rfl : k = 32 := by omega
      replace h2 := h2.congr (g := be n) fun i hi => if_pos hi
      have hf : ∀ i, i < 32 → be n i < 256 := fun i _ => by unfold be; omega
      have hr := By.set (f := be n) h1.room0 hf
      have kk := kp_freshL kx (b := H + 1) (by omega) 0 (byl (be n) 32)
      go_wp2_with (first | (refine wpList_load32 rfl _ rfl (H + 1 + 1) rfl (be n) h2 ?_) | (refine wpList_store32 rfl _ _ rfl (H + 1) (be n) rfl rfl (fun _ => 0) h1 ?_))
      refine bodyPost_ret (results_row rfl rfl hr) rfl ?_
      exact ⟨rfl, kk⟩
end Go.Proofs.Ytjdjhccefnffmaa
set_option maxRecDepth 100000
set_option maxHeartbeats 400000
namespace Go.Proofs.Ytjdjhccefnffmaa
open Go LX Go.RowKit
/-- Bytes as a list. -/
def u8l (f : Nat → Nat) (n : Nat) : List UInt8 := (List.range n).map fun i => UInt8.ofNat (f i)
theorem u8l_len (f : Nat → Nat) (n : Nat) : (u8l f n).length = n := by simp [u8l]
theorem u8l_get (f : Nat → Nat) (n i : Nat) (h : i < n) : (u8l f n)[i]? = some (UInt8.ofNat (f i)) := by simp [u8l, h]
theorem u8n (k : Nat) : (UInt8.ofNat k).toNat = k % 256 := by simp
theorem u8l_eq {f g : Nat → Nat} {n m : Nat} (hf : ∀ i, i < n → f i < 256) (hg : ∀ i, i < m → g i < 256) : u8l f n = u8l g m ↔ n = m ∧ ∀ i, i < n → f i = g i := by
  constructor
  · intro h
    have hl := congrArg List.length h
    rw [u8l_len, u8l_len] at hl
    refine ⟨hl, fun i hi => ?_⟩
    have h1 := congrArg (fun l => l[i]?) h
    simp only [u8l_get f n i hi, u8l_get g m i (by omega), Option.some.injEq] at h1
    have h2 := congrArg UInt8.toNat h1
    rw [u8n, u8n] at h2
    have := hf i hi
    have := hg i (by omega)
    omega
  · rintro ⟨rfl, h⟩
    unfold u8l
    apply List.map_congr_left
    intro i hi
    rw [h i (List.mem_range.1 hi)]
theorem conv_str {w : World} {b o n c : Nat} {f : Nat → Nat} (h : By w b o n f) : (convert 22 9 (.slice (some ⟨b, o, none⟩) n c)).run Try.prog w = .ok (.string ⟨(u8l f n).toArray⟩) w := by
  have := run_convert_bytes_back (P := Try.prog) w 22 9 5 ⟨b, o, none⟩ c (u8l f n) (by kernel_rfl) (by kernel_rfl) (by kernel_rfl) (fun j hj => by
    rw [u8l_len] at hj
    have h1 := (h j hj).1.1
    have h2 := (h j hj).2
    have e : (u8l f n)[j] = UInt8.ofNat (f j) := by
      have := u8l_get f n j hj
      rw [List.getElem?_eq_some_iff] at this
      exact this.2
    rw [show (Addr.add ⟨b, o, none⟩ j) = ⟨b, o + j, none⟩ from by simp [Addr.add], h1, e, u8n, Nat.mod_eq_of_lt h2])
  rwa [u8l_len] at this
/-- Whether the bytes are the same. -/
def Sa01 (n m : Nat) (f g : Nat → Nat) (w : World) (e : Ending) (w' : World) : Prop := ∃ b : Bool, e = .returned (.bool b) ∧ (b = true ↔ n = m ∧ ∀ i, i < n → f i = g i) ∧ w' = w
theorem c19 {w : World} {b1 o1 n c1 b2 o2 m c2 : Nat} {f g : Nat → Nat} (hf : By w b1 o1 n f) (hg : By w b2 o2 m g) :
    Calls Try.prog 19 #[.slice (some ⟨b1, o1, none⟩) n c1, .slice (some ⟨b2, o2, none⟩) m c2] w (Sa01 n m f g w) := by
  have h1 := conv_str (c := c1) hf
  have h2 := conv_str (c := c2) hg
  have h3 := Lib.hid (u8l_eq (fun i hi => (hf i hi).2) (fun i hi => (hg i hi).2))
  clear hf hg
  generalize u8l f n = x at *
  generalize u8l g m = y at *
  go_enter Try.func19, Try.ntmps19
  go_wp2_with fail
  go_ret
  exact ⟨_, rfl, by rw [beq_iff_eq]; exact h3.out, rfl⟩
theorem encA_inj {x y x' y' : EC.F} (h : ∀ i, i < 65 → encA x y i = encA x' y' i) : x = x' ∧ y = y' := by
  constructor
  · refine Fin.ext (be_inj (F_lt x) (F_lt x') fun i hi => ?_)
    have := h (i + 1) (by omega)
    simp only [encA, if_neg (show ¬ i + 1 = 0 by omega), if_pos (show i + 1 < 33 by omega), Nat.add_sub_cancel] at this
    exact this
  · refine Fin.ext (be_inj (F_lt y) (F_lt y') fun i hi => ?_)
    have := h (i + 33) (by omega)
    simp only [encA, if_neg (show ¬ i + 33 = 0 by omega), if_neg (show ¬ i + 33 < 33 by omega), Nat.add_sub_cancel] at this
    exact this
/-- The bytes tell the point. -/
theorem pt_same (P Q : EC.Pt) : (ptN P = ptN Q ∧ ∀ i, i < ptN P → ptF P i = ptF Q i) ↔ P = Q := by
  constructor
  · rintro ⟨h1, h2⟩
    cases P with
    | far =>
      cases Q with
      | far => rfl
      | aff x y => simp [ptN] at h1
    | aff x y =>
      cases Q with
      | far => simp [ptN] at h1
      | aff x' y' =>
        obtain ⟨rfl, rfl⟩ := encA_inj h2
        rfl
  · rintro rfl; exact ⟨rfl, fun _ _ => rfl⟩
/-- Whether two slices are the bytes of one point. -/
def Sp01 (P Q : EC.Pt) (w : World) (e : Ending) (w' : World) : Prop := ∃ b : Bool, e = .returned (.bool b) ∧ (b = true ↔ P = Q) ∧ Kp non w w'
theorem c19p {w : World} {v u : Value} {P Q : EC.Pt} (hv : PtS w v P) (hu : PtS w u Q) : Calls Try.prog 19 #[v, u] w (Sp01 P Q w) := by
  obtain ⟨b1, c1, rfl, -, h1⟩ := hv
  obtain ⟨b2, c2, rfl, -, h2⟩ := hu
  refine (c19 h1 h2).mono ?_
  rintro e w' ⟨b, rfl, h, rfl⟩
  exact ⟨b, rfl, h.trans (pt_same P Q), Kp.refl _ _⟩
end Go.Proofs.Ytjdjhccefnffmaa
set_option maxRecDepth 100000
set_option maxHeartbeats 1000000
namespace Go.Proofs.Ytjdjhccefnffmaa
open Go LX Go.RowKit
/-- A point's cells. -/
def pl (fr : Bool) (x y : Nat → Int) : List Value := [.bool fr, .int .i64 (x 0), .int .i64 (x 1), .int .i64 (x 2), .int .i64 (x 3), .int .i64 (x 4), .int .i64 (x 5), .int .i64 (x 6), .int .i64 (x 7), .int .i64 (y 0), .int .i64 (y 1), .int .i64 (y 2), .int .i64 (y 3), .int .i64 (y 4), .int .i64 (y 5), .int .i64 (y 6), .int .i64 (y 7)]
def pvL : EC.Pt → List Value
  | .far => pl true (fun _ => 0) fun _ => 0
  | .aff x y => pl false (ew x) (ew y)
theorem pl_len (fr : Bool) (x y : Nat → Int) : (pl fr x y).length = 17 := rfl
theorem pl_one (fr : Bool) (x y : Nat → Int) : ∀ v ∈ pl fr x y, v.oneCell' = true := by
  intro v hv
  simp only [pl, List.mem_cons, List.not_mem_nil, or_false] at hv
  rcases hv with rfl | rfl | rfl | rfl | rfl | rfl | rfl | rfl | rfl | rfl | rfl | rfl | rfl | rfl | rfl | rfl | rfl <;> rfl
/-- A point's cells lie there. -/
structure Pl (w : World) (b : Nat) (fr : Bool) (x y : Nat → Int) : Prop where
  r : w.rangeAt b 0 (pl fr x y)
  t : w.there b 0 17
theorem Pl.new (w : World) (t : TypeId) (fr : Bool) (x y : Nat → Int) : Pl (w.alloc (.cells (pl fr x y).toArray t)) w.heap.size fr x y := by
  have hc : ∀ j v, (pl fr x y)[j]? = some v → Cel (w.alloc (.cells (pl fr x y).toArray t)) w.heap.size j v := fun j v h => Cel.new _ _ _ j v (by simpa using h)
  refine ⟨fun j v h => by rw [Nat.zero_add]; exact (hc j v h).1, fun j hj => ?_⟩
  have h2 : (pl fr x y)[j]? = some ((pl fr x y)[j]'(by rw [pl_len]; exact hj)) := List.getElem?_eq_getElem _
  have := hc j _ h2
  rw [Nat.zero_add]
  exact ⟨by rw [this.1]; rfl, this.2⟩
theorem Pl.kp {w w' : World} {b : Nat} {fr : Bool} {x y : Nat → Int} {S : Nat → Nat → Prop} (h : Pl w b fr x y) (hk : Kp S w w') (hS : ∀ o, ¬ S b o) : Pl w' b fr x y := by
  have hl : ∀ j, j < 17 → b < w.heap.size := fun j hj => by
    obtain ⟨v, hv⟩ := Option.isSome_iff_exists.1 (h.t j hj).1
    exact World.block_lt_of_cell? _ ⟨b, 0 + j, none⟩ hv
  refine ⟨fun j v hv => ?_, fun j hj => ?_⟩
  · have h1 := h.r j v hv
    exact (hk.cell b (0 + j) (World.block_lt_of_cell? _ ⟨b, 0 + j, none⟩ h1) (hS _)).trans h1
  · rw [hk.cell b (0 + j) (hl j hj) (hS _), hk.frozen b (0 + j) (hl j hj)]
    exact h.t j hj
theorem Pl.drew {w : World} {b : Nat} {fr : Bool} {x y : Nat → Int} (h : Pl w b fr x y) : Pl w.drew b fr x y := ⟨h.r, h.t⟩
theorem Pl.set {w : World} {b : Nat} {fr fr' : Bool} {x y x' y' : Nat → Int} (h : Pl w b fr x y) : Pl (w.setCells b 0 (pl fr' x' y')) b fr' x' y' :=
  ⟨World.rangeAt_setCells_same w b 0 _ (by rw [pl_len]; exact h.t), World.there_setCells h.t b 0 _⟩
theorem Pl.setO {w : World} {b c : Nat} {fr fr' : Bool} {x y x' y' : Nat → Int} (h : Pl w b fr x y) (hne : b ≠ c) : Pl (w.setCells c 0 (pl fr' x' y')) b fr x y :=
  ⟨World.rangeAt_setCells_apart h.r c 0 _ (.inl hne), World.there_setCells h.t c 0 _⟩
theorem wpList_load27 {ops : Array Oper} {rest : List Oper} {op : Oper} {a : Act} {w : World} {Q : Exit → Act → World → Prop} (hgd : op.guard = none) (x : Operand) (ho : op.op = .load 27 x)
    (b : Nat) (hx : a.eval x = .pointer (some ⟨b, 0, none⟩)) (fr : Bool) (X Y : Nat → Int) (h : Pl w b fr X Y)
    (hk : wpList Try.prog ops Q rest (a.put op.dst (.agg (pl fr X Y).toArray)) w) : wpList Try.prog ops Q (op :: rest) a w := by
  have h27 : (Try.prog.underlying 27).map TypeDesc.isRow = some true := by kernel_rfl
  obtain ⟨d, hfs, hd⟩ := Option.map_eq_some_iff.1 h27
  exact wpList_load_mid hgd 27 x ho b 0 hx (pl fr X Y) d h.r hfs hd (by rw [pl_len]; kernel_rfl) hk
theorem wpList_store27 {ops : Array Oper} {rest : List Oper} {op : Oper} {a : Act} {w : World} {Q : Exit → Act → World → Prop} (hgd : op.guard = none) (x y : Operand) (ho : op.op = .store 27 x y)
    (b : Nat) (fr : Bool) (X Y : Nat → Int) (hx : a.eval x = .pointer (some ⟨b, 0, none⟩)) (hy : a.eval y = .agg (pl fr X Y).toArray) (fr' : Bool) (X' Y' : Nat → Int) (ht : Pl w b fr' X' Y')
    (h : wpList Try.prog ops Q rest (a.put op.dst undef) (w.setCells b 0 (pl fr X Y))) : wpList Try.prog ops Q (op :: rest) a w :=
  wpList_store_mid hgd 27 x y ho b 0 (pl fr X Y).toArray hx hy (by simp only [List.size_toArray, pl_len]; exact ht.t) (by simp only [List.size_toArray, pl_len]; kernel_rfl) (all_oneCell_toArray (pl_one fr X Y)) (by simpa using h)
theorem results27 {fn : Func} {tmps : Array Value} {t b : Nat} {w : World} {fr : Bool} {X Y : Nat → Int} (hr : fn.results = #[.cell t 27]) (ht : tmps.getD t undef = .pointer (some ⟨b, 0, none⟩))
    (h : Pl w b fr X Y) : (results fn tmps).run Try.prog w = .ok (.agg (pl fr X Y).toArray) w := by
  have h27 : (Try.prog.underlying 27).map TypeDesc.isRow = some true := by kernel_rfl
  obtain ⟨d, hfs, hd⟩ := Option.map_eq_some_iff.1 h27
  have hv := run_loadVar_mid (P := Try.prog) w b 0 27 (pl fr X Y) d h.r hfs hd (by rw [pl_len]; kernel_rfl)
  rw [Array.getD_eq_getD_getElem?] at ht
  simp [results, hr, ht, asAddr, hv]
/-- A point comes back. -/
def Pv01 (P : EC.Pt) (w : World) (e : Ending) (w' : World) : Prop := e = .returned (.agg (pvL P).toArray) ∧ Kp non w w'
theorem z27 : ∀ W, (zeroValue 27).run Try.prog W = .ok (.agg (pl false (fun _ => 0) fun _ => 0).toArray) W := fun W => by kernel_rfl
theorem c21_far {w : World} : Calls Try.prog 21 #[.agg (pvL .far).toArray] w (Pv01 .far w) := by
  have hz := z27
  have k0 : Kp non w ((w.alloc (.cells (pl true (fun _ => 0) fun _ => 0).toArray 27)).alloc (.cells (pl false (fun _ => 0) fun _ => 0).toArray 27)) := ((Kp.refl _ w).alloc _).alloc _
  have h0 := (Pl.new w 27 true (fun _ => 0) fun _ => 0).kp ((Kp.refl non _).alloc (.cells (pl false (fun _ => 0) fun _ => 0).toArray 27)) fun _ h => h
  have h1 := Pl.new (w.alloc (.cells (pl true (fun _ => 0) fun _ => 0).toArray 27)) 27 false (fun _ => 0) fun _ => 0
  rw [size1] at h1
  have c0 := h0.r 0 (.bool true) rfl
  have hx := Nat.le_refl w.heap.size
  show Calls Try.prog 21 #[.agg (pl true (fun _ => 0) fun _ => 0).toArray] w _
  go_enter Try.func21, Try.ntmps21
  go_wp2_with (first | (refine wpList_load27 rfl _ rfl w.heap.size rfl _ _ _ h0 ?_) | (refine wpList_store27 rfl _ _ rfl (w.heap.size + 1) _ _ _ rfl rfl _ _ _ h1 ?_))
  refine bodyPost_ret (results27 rfl rfl h1.set) rfl ?_
  exact ⟨rfl, kp_freshL k0 (by omega) 0 _⟩
end Go.Proofs.Ytjdjhccefnffmaa
set_option maxRecDepth 100000
set_option maxHeartbeats 1000000
namespace Go.Proofs.Ytjdjhccefnffmaa
open Go LX Go.RowKit
/-- A point comes back, if there is one. -/
def Rd13 (P : Option EC.Pt) (w : World) (e : Ending) (w' : World) : Prop :=
  ∃ fr x y, e = .returned (.tuple #[.agg (pl fr x y).toArray, .bool P.isSome]) ∧ (∀ Q, P = some Q → pl fr x y = pvL Q) ∧ Kp non w w'
theorem resultsN27 {fn : Func} {tmps : Array Value} {t u b : Nat} {w : World} {fr : Bool} {X Y : Nat → Int} {v : Value} (hr : fn.results = #[.cell t 27, .tmp u]) (ht : tmps.getD t undef = .pointer (some ⟨b, 0, none⟩)) (hu : tmps.getD u undef = v)
    (h : Pl w b fr X Y) : (results fn tmps).run Try.prog w = .ok (.tuple #[.agg (pl fr X Y).toArray, v]) w := by
  have h27 : (Try.prog.underlying 27).map TypeDesc.isRow = some true := by kernel_rfl
  obtain ⟨d, hfs, hd⟩ := Option.map_eq_some_iff.1 h27
  have hv := run_loadVar_mid (P := Try.prog) w b 0 27 (pl fr X Y) d h.r hfs hd (by rw [pl_len]; kernel_rfl)
  rw [Array.getD_eq_getD_getElem?] at ht hu
  simp [results, hr, ht, hu, asAddr, hv]
theorem c13_other {w : World} {n c : Nat} {ad : Option Addr} (h1 : n ≠ 1) (h65 : n ≠ 65) (h33 : n ≠ 33) :
    Calls Try.prog 13 #[.slice ad n c] w (Rd13 none w) := by
  have hz := z27
  have e1 : ((n : Int) == 1) = false := by simp; omega
  have e2 : ((n : Int) == 65) = false := by simp; omega
  have e3 : ((n : Int) == 33) = false := by simp; omega
  have k0 : Kp non w (w.alloc (.cells (pl false (fun _ => 0) fun _ => 0).toArray 27)) := ((Kp.refl _ w).alloc _)
  have h0 := (Pl.new w 27 false (fun _ => 0) fun _ => 0)
  go_enter Try.func13, Try.ntmps13
  go_wp2_with (first | (refine wpList_load27 rfl _ rfl w.heap.size rfl _ _ _ h0 ?_) | (refine wpList_store27 rfl _ _ rfl (w.heap.size) _ _ _ rfl rfl _ _ _ h0 ?_))
  refine bodyPost_ret (resultsN27 rfl rfl rfl h0.set) rfl ?_
  exact ⟨_, _, _, rfl, (fun _ h => nomatch h), kp_freshL k0 (Nat.le_refl _) 0 _⟩
theorem c13_far {w : World} {b o c : Nat} {f : Nat → Nat} (hb : By w b o 1 f) (hf : f 0 = 0) :
    Calls Try.prog 13 #[.slice (some ⟨b, o, none⟩) 1 c] w (Rd13 (some .far) w) := by
  have hz := z27
  have hl := (hb 0 (by omega)).1.lt
  have k0 : Kp non w (w.alloc (.cells (pl false (fun _ => 0) fun _ => 0).toArray 27)) := ((Kp.refl _ w).alloc _)
  have g0 : (w.alloc (.cells (pl false (fun _ => 0) fun _ => 0).toArray 27)).cell? ⟨b, o, none⟩ = some (.int .u8 0) := by have := ((hb.kp k0 fun _ _ h => h) 0 (by omega)).1.1; rw [hf] at this; exact this
  have h0 := (Pl.new w 27 false (fun _ => 0) fun _ => 0)
  clear hb
  go_enter Try.func13, Try.ntmps13
  go_wp2_with (first | (refine wpList_load27 rfl _ rfl w.heap.size rfl _ _ _ h0 ?_) | (refine wpList_store27 rfl _ _ rfl (w.heap.size) true (fun _ => 0) (fun _ => 0) rfl rfl _ _ _ h0 ?_))
  refine bodyPost_ret (resultsN27 rfl rfl rfl h0.set) rfl ?_
  exact ⟨_, _, _, rfl, (fun _ h => Option.some.inj h ▸ rfl), kp_freshL k0 (Nat.le_refl _) 0 _⟩
theorem c13_no {w : World} {b o n c : Nat} {f : Nat → Nat} (hb : By w b o n f) (hn : 0 < n) (h1 : ¬ (n = 1 ∧ f 0 = 0)) (h65 : ¬ (n = 65 ∧ f 0 = 4)) (h33 : ¬ (n = 33 ∧ (f 0 = 2 ∨ f 0 = 3))) :
    Calls Try.prog 13 #[.slice (some ⟨b, o, none⟩) n c] w (Rd13 none w) := by
  by_cases hh : n ≠ 1 ∧ n ≠ 65 ∧ n ≠ 33
  · exact c13_other hh.1 hh.2.1 hh.2.2
  have hz := z27
  have k0 : Kp non w (w.alloc (.cells (pl false (fun _ => 0) fun _ => 0).toArray 27)) := ((Kp.refl _ w).alloc _)
  have g0 : (w.alloc (.cells (pl false (fun _ => 0) fun _ => 0).toArray 27)).cell? ⟨b, o, none⟩ = some (.int .u8 (f 0 : Nat)) := ((hb.kp k0 fun _ _ h => h) 0 hn).1.1
  have h0 := (Pl.new w 27 false (fun _ => 0) fun _ => 0)
  clear hb
  have hcase : n = 1 ∨ n = 65 ∨ n = 33 := by omega
  rcases hcase with rfl | rfl | rfl
  · have e1 : (((f 0 : Nat) : Int) == 0) = false := by simp; omega
    clear h1 h65 h33 hh hn
    go_enter Try.func13, Try.ntmps13
    go_wp2_with (first | (refine wpList_load27 rfl _ rfl w.heap.size rfl _ _ _ h0 ?_) | (refine wpList_store27 rfl _ _ rfl (w.heap.size) _ _ _ rfl rfl _ _ _ h0 ?_))
    refine bodyPost_ret (resultsN27 rfl rfl rfl h0.set) rfl ?_
    exact ⟨_, _, _, rfl, (fun _ h => nomatch h), kp_freshL k0 (Nat.le_refl _) 0 _⟩
  · have e1 : (((f 0 : Nat) : Int) == 4) = false := by simp; omega
    clear h1 h65 h33 hh hn
    go_enter Try.func13, Try.ntmps13
    go_wp2_with (first | (refine wpList_load27 rfl _ rfl w.heap.size rfl _ _ _ h0 ?_) | (refine wpList_store27 rfl _ _ rfl (w.heap.size) _ _ _ rfl rfl _ _ _ h0 ?_))
    refine bodyPost_ret (resultsN27 rfl rfl rfl h0.set) rfl ?_
    exact ⟨_, _, _, rfl, (fun _ h => nomatch h), kp_freshL k0 (Nat.le_refl _) 0 _⟩
  · have e1 : (((f 0 : Nat) : Int) == 2) = false := by simp; omega
    have e2 : (((f 0 : Nat) : Int) == 3) = false := by simp; omega
    clear h1 h65 h33 hh hn
    go_enter Try.func13, Try.ntmps13
    go_wp2_with (first | (refine wpList_load27 rfl _ rfl w.heap.size rfl _ _ _ h0 ?_) | (refine wpList_store27 rfl _ _ rfl (w.heap.size) _ _ _ rfl rfl _ _ _ h0 ?_))
    refine bodyPost_ret (resultsN27 rfl rfl rfl h0.set) rfl ?_
    exact ⟨_, _, _, rfl, (fun _ h => nomatch h), kp_freshL k0 (Nat.le_refl _) 0 _⟩
end Go.Proofs.Ytjdjhccefnffmaa
set_option maxRecDepth 100000
set_option maxHeartbeats 1000000
namespace Go.Proofs.Ytjdjhccefnffmaa
open Go LX Go.RowKit
section
variable {P : Program} {ops : Array Oper} {Q : Exit → Act → World → Prop} {md : Region.Mode} {S : World → Prop} {fuel : Nat} {listed : Array Bool} {a : Act} {w : World}
/-- Number i is taken first. -/
theorem takeD (i : Nat) (d : Option Tmp) (v : Value) {oi : Oper} (hi : ops[i]? = some oi) (hd : oi.dst = d)
    (hs : Region.noSelect ops = true) (hf : Region.free md ops listed i = true) (hr : (Region.ready md ops listed).contains i = true)
    (hy : YieldsIf P ops S oi v a) (hS : S w)
    (h : wpAnyH P md ops (NoPanic Q) S fuel (listed.setIfInBounds i true) (a.put d v) w) : wpAnyH P md ops (NoPanic Q) S (fuel + 1) listed a w := by
  subst hd
  exact wpAnyH_take hi hs hf hr (fun _ _ _ h => h) hy hS h
/-- A call that comes up. -/
theorem stepGo {i : Nat} {rs : List Nat} {oi : Oper} (n : FuncId) (vs : Array Value) (d : Option Tmp) {R : Ending → World → Prop} (hi : ops[i]? = some oi) (hd : oi.dst = d)
    (hw : Region.wanted oi (yielded ops a.tmps) = true) (he : (execOp a.eval oi).run P w = .ok (.enter n vs) w) (hc : Calls P n vs w R)
    (hk : ∀ e w', R e w' → ∃ v, e = .returned v ∧ S w' ∧ wpAnyH P md ops Q S fuel (listed.setIfInBounds i true) (a.put d v) w')
    (more : AllReadyH P md ops Q S fuel listed a w rs) : AllReadyH P md ops Q S fuel listed a w (i :: rs) := by
  refine AllReadyH.cons hi (fun K hK => ?_) more
  rw [if_pos hw]
  unfold Oper.wp
  rw [he, Oper.upon_enter]
  refine hc.mono fun e w' hr => ?_
  obtain ⟨v, rfl, hS, h⟩ := hk e w' hr
  subst hd
  exact hK.out _ _ hS fun _ => h
/-- What comes up and leaves a value. -/
theorem stepVal {i : Nat} {rs : List Nat} {oi : Oper} (v : Value) (w' : World) (d : Option Tmp) (hi : ops[i]? = some oi) (hd : oi.dst = d)
    (hw : Region.wanted oi (yielded ops a.tmps) = true) (he : (execOp a.eval oi).run P w = .ok (.value v) w')
    (hk : S w' ∧ wpAnyH P md ops Q S fuel (listed.setIfInBounds i true) (a.put d v) w')
    (more : AllReadyH P md ops Q S fuel listed a w rs) : AllReadyH P md ops Q S fuel listed a w (i :: rs) := by
  refine AllReadyH.cons hi (fun K hK => ?_) more
  rw [if_pos hw]
  unfold Oper.wp
  rw [he, Oper.upon_value]
  subst hd
  exact hK.out _ _ hk.1 fun _ => hk.2
/-- A long store that comes up. -/
theorem stepStore {i : Nat} {rs : List Nat} {oi : Oper} (ty : TypeId) (x y : Operand) (b o : Nat) (l : List Value) (hi : ops[i]? = some oi) (hd : oi.dst = none)
    (hw : Region.wanted oi (yielded ops a.tmps) = true) (ho : oi.op = .store ty x y) (hx : a.eval x = .pointer (some ⟨b, o, none⟩)) (hy : a.eval y = .agg l.toArray)
    (ht : w.there b o l.length) (hn : (P.info? ty).map (·.size) = some l.length) (h1 : ∀ v ∈ l, v.oneCell' = true)
    (hk : S (w.setCells b o l) ∧ wpAnyH P md ops Q S fuel (listed.setIfInBounds i true) a (w.setCells b o l))
    (more : AllReadyH P md ops Q S fuel listed a w rs) : AllReadyH P md ops Q S fuel listed a w (i :: rs) := by
  refine AllReadyH.cons hi (fun K hK => ?_) more
  rw [if_pos hw]
  refine wp_store_mid ty x y ho b o l.toArray hx hy (by simpa using ht) (by simpa using hn) (all_oneCell_toArray h1) ?_
  rw [hd]
  exact hK.out _ _ hk.1 fun _ => hk.2
end
/-- Eight cells as a list. -/
def a8l (g : Nat → Int) : List Value := [.int .i64 (g 0), .int .i64 (g 1), .int .i64 (g 2), .int .i64 (g 3), .int .i64 (g 4), .int .i64 (g 5), .int .i64 (g 6), .int .i64 (g 7)]
theorem a8l_arr (g : Nat → Int) : (a8l g).toArray = a8 g := rfl
section
variable {ops : Array Oper} {S : World → Prop} {op : Oper} {a : Act}
/-- A load of a point is taken first. -/
theorem yl27 (x : Operand) (b : Nat) (fr : Bool) (X Y : Nat → Int) (hw : Region.wanted op (yielded ops a.tmps) = true) (ho : op.op = .load 27 x)
    (hx : a.eval x = .pointer (some ⟨b, 0, none⟩)) (hS : ∀ w, S w → Pl w b fr X Y) : YieldsIf Try.prog ops S op (.agg (pl fr X Y).toArray) a := by
  have h27 : (Try.prog.underlying 27).map TypeDesc.isRow = some true := by kernel_rfl
  obtain ⟨d, hfs, hd⟩ := Option.map_eq_some_iff.1 h27
  exact yieldsIf_load_mid hw 27 x ho b 0 hx (pl fr X Y) d (fun w h => (hS w h).r) hfs hd (by rw [pl_len]; kernel_rfl)
/-- A load of eight words is taken first. -/
theorem yl25 (x : Operand) (b o : Nat) (g : Nat → Int) (hw : Region.wanted op (yielded ops a.tmps) = true) (ho : op.op = .load 25 x)
    (hx : a.eval x = .pointer (some ⟨b, o, none⟩)) (hS : ∀ w, S w → w.rangeAt b o (a8l g)) : YieldsIf Try.prog ops S op (.agg (a8 g)) a := by
  have h27 : (Try.prog.underlying 25).map TypeDesc.isRow = some true := by kernel_rfl
  obtain ⟨d, hfs, hd⟩ := Option.map_eq_some_iff.1 h27
  exact yieldsIf_load_mid hw 25 x ho b o hx (a8l g) d hS hfs hd (by kernel_rfl)
/-- A load of 32 bytes is taken first. -/
theorem yl23 (x : Operand) (b o : Nat) (f : Nat → Nat) (hw : Region.wanted op (yielded ops a.tmps) = true) (ho : op.op = .load 23 x)
    (hx : a.eval x = .pointer (some ⟨b, o, none⟩)) (hS : ∀ w, S w → w.rangeAt b o (byl f 32)) : YieldsIf Try.prog ops S op (.agg (bys f 32)) a := by
  have h27 : (Try.prog.underlying 23).map TypeDesc.isRow = some true := by kernel_rfl
  obtain ⟨d, hfs, hd⟩ := Option.map_eq_some_iff.1 h27
  exact yieldsIf_load_mid hw 23 x ho b o hx (byl f 32) d hS hfs hd (by rw [byl_len]; kernel_rfl)
end
theorem Pl.x8 {w : World} {b : Nat} {fr : Bool} {x y : Nat → Int} (h : Pl w b fr x y) : w.rangeAt b 1 (a8l x) := fun j v hv => by
  have := h.r (1 + j) v (by
    have : j < 8 := (List.getElem?_eq_some_iff.1 hv).1
    have : j = 0 ∨ j = 1 ∨ j = 2 ∨ j = 3 ∨ j = 4 ∨ j = 5 ∨ j = 6 ∨ j = 7 := by omega
    rcases this with rfl | rfl | rfl | rfl | rfl | rfl | rfl | rfl <;> exact hv)
  rwa [Nat.zero_add] at this
theorem Pl.y8 {w : World} {b : Nat} {fr : Bool} {x y : Nat → Int} (h : Pl w b fr x y) : w.rangeAt b 9 (a8l y) := fun j v hv => by
  have := h.r (9 + j) v (by
    have : j < 8 := (List.getElem?_eq_some_iff.1 hv).1
    have : j = 0 ∨ j = 1 ∨ j = 2 ∨ j = 3 ∨ j = 4 ∨ j = 5 ∨ j = 6 ∨ j = 7 := by omega
    rcases this with rfl | rfl | rfl | rfl | rfl | rfl | rfl | rfl <;> exact hv)
  rwa [Nat.zero_add] at this
theorem n27 : (Try.prog.info? 27).map (·.size) = some 17 := by kernel_rfl
theorem n23 : (Try.prog.info? 23).map (·.size) = some 32 := by kernel_rfl
theorem n25 : (Try.prog.info? 25).map (·.size) = some 8 := by kernel_rfl
end Go.Proofs.Ytjdjhccefnffmaa
