import Derived.Test.YtjdjhccefnffmaaB11
import Derived.Test.YtjdjhccefnffmaaB12
import Derived.LoopTactic
import Derived.RegionTactic
import Derived.Laws.CopyOwn
import Derived.Deep.WholeRow
set_option linter.unusedVariables false
set_option linter.unusedSimpArgs false
set_option maxRecDepth 100000
set_option maxHeartbeats 0
namespace Go.Proofs.Ytjdjhccefnffmaa
open Go LX
noncomputable def b106 : Code := match Try.f106.body with | some c => c | none => .skip
def d106 : List (Nat × FnS) := [(123, .conv .u8 (.s .u64 122)), (122, .bin .shr .u64 (.s .u64 119) (.k .u64 8)), (121, .bin .and .u8 (.s .u8 120) (.k .u8 255)), (120, .conv .u8 (.s .u64 119)), (119, .bin .shr .u64 (.s .u64 116) (.k .u64 8)), (118, .bin .and .u8 (.s .u8 117) (.k .u8 255)), (117, .conv .u8 (.s .u64 116)), (116, .bin .shr .u64 (.s .u64 113) (.k .u64 8)), (115, .bin .and .u8 (.s .u8 114) (.k .u8 255)), (114, .conv .u8 (.s .u64 113)), (113, .bin .shr .u64 (.s .u64 110) (.k .u64 8)), (112, .bin .and .u8 (.s .u8 111) (.k .u8 255)), (111, .conv .u8 (.s .u64 110)), (110, .bin .shr .u64 (.s .u64 107) (.k .u64 8)), (109, .bin .and .u8 (.s .u8 108) (.k .u8 255)), (108, .conv .u8 (.s .u64 107)), (107, .bin .shr .u64 (.s .u64 104) (.k .u64 8)), (106, .bin .and .u8 (.s .u8 105) (.k .u8 255)), (105, .conv .u8 (.s .u64 104)), (104, .bin .shr .u64 (.s .u64 3) (.k .u64 8)), (103, .bin .and .u8 (.s .u8 102) (.k .u8 255)), (102, .conv .u8 (.s .u64 3)), (101, .conv .u8 (.s .u64 100)), (100, .bin .shr .u64 (.s .u64 97) (.k .u64 8)), (99, .bin .and .u8 (.s .u8 98) (.k .u8 255)), (98, .conv .u8 (.s .u64 97)), (97, .bin .shr .u64 (.s .u64 94) (.k .u64 8)), (96, .bin .and .u8 (.s .u8 95) (.k .u8 255)), (95, .conv .u8 (.s .u64 94)), (94, .bin .shr .u64 (.s .u64 91) (.k .u64 8)), (93, .bin .and .u8 (.s .u8 92) (.k .u8 255)), (92, .conv .u8 (.s .u64 91)), (91, .bin .shr .u64 (.s .u64 88) (.k .u64 8)), (90, .bin .and .u8 (.s .u8 89) (.k .u8 255)), (89, .conv .u8 (.s .u64 88)), (88, .bin .shr .u64 (.s .u64 85) (.k .u64 8)), (87, .bin .and .u8 (.s .u8 86) (.k .u8 255)), (86, .conv .u8 (.s .u64 85)), (85, .bin .shr .u64 (.s .u64 82) (.k .u64 8)), (84, .bin .and .u8 (.s .u8 83) (.k .u8 255)), (83, .conv .u8 (.s .u64 82)), (82, .bin .shr .u64 (.s .u64 2) (.k .u64 8)), (81, .bin .and .u8 (.s .u8 80) (.k .u8 255)), (80, .conv .u8 (.s .u64 2)), (79, .conv .u8 (.s .u64 78)), (78, .bin .shr .u64 (.s .u64 75) (.k .u64 8)), (77, .bin .and .u8 (.s .u8 76) (.k .u8 255)), (76, .conv .u8 (.s .u64 75)), (75, .bin .shr .u64 (.s .u64 72) (.k .u64 8)), (74, .bin .and .u8 (.s .u8 73) (.k .u8 255)), (73, .conv .u8 (.s .u64 72)), (72, .bin .shr .u64 (.s .u64 69) (.k .u64 8)), (71, .bin .and .u8 (.s .u8 70) (.k .u8 255)), (70, .conv .u8 (.s .u64 69)), (69, .bin .shr .u64 (.s .u64 66) (.k .u64 8)), (68, .bin .and .u8 (.s .u8 67) (.k .u8 255)), (67, .conv .u8 (.s .u64 66)), (66, .bin .shr .u64 (.s .u64 63) (.k .u64 8)), (65, .bin .and .u8 (.s .u8 64) (.k .u8 255)), (64, .conv .u8 (.s .u64 63)), (63, .bin .shr .u64 (.s .u64 60) (.k .u64 8)), (62, .bin .and .u8 (.s .u8 61) (.k .u8 255)), (61, .conv .u8 (.s .u64 60)), (60, .bin .shr .u64 (.s .u64 1) (.k .u64 8)), (59, .bin .and .u8 (.s .u8 58) (.k .u8 255)), (58, .conv .u8 (.s .u64 1)), (57, .conv .u8 (.s .u64 56)), (56, .bin .shr .u64 (.s .u64 53) (.k .u64 8)), (55, .bin .and .u8 (.s .u8 54) (.k .u8 255)), (54, .conv .u8 (.s .u64 53)), (53, .bin .shr .u64 (.s .u64 50) (.k .u64 8)), (52, .bin .and .u8 (.s .u8 51) (.k .u8 255)), (51, .conv .u8 (.s .u64 50)), (50, .bin .shr .u64 (.s .u64 47) (.k .u64 8)), (49, .bin .and .u8 (.s .u8 48) (.k .u8 255)), (48, .conv .u8 (.s .u64 47)), (47, .bin .shr .u64 (.s .u64 44) (.k .u64 8)), (46, .bin .and .u8 (.s .u8 45) (.k .u8 255)), (45, .conv .u8 (.s .u64 44)), (44, .bin .shr .u64 (.s .u64 41) (.k .u64 8)), (43, .bin .and .u8 (.s .u8 42) (.k .u8 255)), (42, .conv .u8 (.s .u64 41)), (41, .bin .shr .u64 (.s .u64 38) (.k .u64 8)), (40, .bin .and .u8 (.s .u8 39) (.k .u8 255)), (39, .conv .u8 (.s .u64 38)), (38, .bin .shr .u64 (.s .u64 0) (.k .u64 8)), (37, .bin .and .u8 (.s .u8 36) (.k .u8 255)), (36, .conv .u8 (.s .u64 0))]
def o106 : List (Option SV) := [some (.s .u8 37), some (.s .u8 40), some (.s .u8 43), some (.s .u8 46), some (.s .u8 49), some (.s .u8 52), some (.s .u8 55), some (.s .u8 57), some (.s .u8 59), some (.s .u8 62), some (.s .u8 65), some (.s .u8 68), some (.s .u8 71), some (.s .u8 74), some (.s .u8 77), some (.s .u8 79), some (.s .u8 81), some (.s .u8 84), some (.s .u8 87), some (.s .u8 90), some (.s .u8 93), some (.s .u8 96), some (.s .u8 99), some (.s .u8 101), some (.s .u8 103), some (.s .u8 106), some (.s .u8 109), some (.s .u8 112), some (.s .u8 115), some (.s .u8 118), some (.s .u8 121), some (.s .u8 123)]
theorem run106 : outcome ⟨2, 32, 352⟩ (exec env ⟨2, 32, 352⟩ b106 stTo) = some (d106, o106) := by kernel_rfl
theorem ord106 : orderly 36 d106 d106 = true := by decide +kernel
theorem sgl106 : single d106 = true := by decide +kernel
def r106 : List Nat := [37, 40, 43, 46, 49, 52, 55, 57, 59, 62, 65, 68, 71, 74, 77, 79, 81, 84, 87, 90, 93, 96, 99, 101, 103, 106, 109, 112, 115, 118, 121, 123]
theorem and255 (x : Nat) : x &&& 255 = x % 256 := Nat.and_two_pow_sub_one_eq_mod x 8
theorem limb8 {x a1 a2 a3 a4 a5 a6 a7 : Nat} (hx : x < two64) (h1 : a1 = x / 2 ^ 8) (h2 : a2 = a1 / 2 ^ 8) (h3 : a3 = a2 / 2 ^ 8) (h4 : a4 = a3 / 2 ^ 8) (h5 : a5 = a4 / 2 ^ 8) (h6 : a6 = a5 / 2 ^ 8) (h7 : a7 = a6 / 2 ^ 8) :
    x % 256 + 256 * (a1 % 256 + 256 * (a2 % 256 + 256 * (a3 % 256 + 256 * (a4 % 256 + 256 * (a5 % 256 + 256 * (a6 % 256 + 256 * (a7 % 256))))))) = x := by
  simp only [two64] at hx; omega
theorem t106 : ∀ i, i < 32 → o106[i]? = some (some (.s .u8 (r106.getD i 0))) := by
  intro i hi
  have hl : i < r106.length := hi
  rw [show o106 = r106.map (fun e => some (.s .u8 e)) from rfl, List.getElem?_map, List.getD_eq_getElem?_getD, List.getElem?_eq_getElem hl]
  rfl
theorem ar106 {ρ : Nat → Nat} (hρ : Hold ρ d106) (l0 : ρ 0 < two64) (l1 : ρ 1 < two64) (l2 : ρ 2 < two64) (l3 : ρ 3 < two64) : num8 (fun i => ρ (r106.getD i 0)) 32 = v4 (ρ 0) (ρ 1) (ρ 2) (ρ 3) := by
  have h123 := hρ.1; replace hρ := hρ.2
  have h122 := hρ.1; replace hρ := hρ.2
  have h121 := hρ.1; replace hρ := hρ.2
  have h120 := hρ.1; replace hρ := hρ.2
  have h119 := hρ.1; replace hρ := hρ.2
  have h118 := hρ.1; replace hρ := hρ.2
  have h117 := hρ.1; replace hρ := hρ.2
  have h116 := hρ.1; replace hρ := hρ.2
  have h115 := hρ.1; replace hρ := hρ.2
  have h114 := hρ.1; replace hρ := hρ.2
  have h113 := hρ.1; replace hρ := hρ.2
  have h112 := hρ.1; replace hρ := hρ.2
  have h111 := hρ.1; replace hρ := hρ.2
  have h110 := hρ.1; replace hρ := hρ.2
  have h109 := hρ.1; replace hρ := hρ.2
  have h108 := hρ.1; replace hρ := hρ.2
  have h107 := hρ.1; replace hρ := hρ.2
  have h106 := hρ.1; replace hρ := hρ.2
  have h105 := hρ.1; replace hρ := hρ.2
  have h104 := hρ.1; replace hρ := hρ.2
  have h103 := hρ.1; replace hρ := hρ.2
  have h102 := hρ.1; replace hρ := hρ.2
  have h101 := hρ.1; replace hρ := hρ.2
  have h100 := hρ.1; replace hρ := hρ.2
  have h99 := hρ.1; replace hρ := hρ.2
  have h98 := hρ.1; replace hρ := hρ.2
  have h97 := hρ.1; replace hρ := hρ.2
  have h96 := hρ.1; replace hρ := hρ.2
  have h95 := hρ.1; replace hρ := hρ.2
  have h94 := hρ.1; replace hρ := hρ.2
  have h93 := hρ.1; replace hρ := hρ.2
  have h92 := hρ.1; replace hρ := hρ.2
  have h91 := hρ.1; replace hρ := hρ.2
  have h90 := hρ.1; replace hρ := hρ.2
  have h89 := hρ.1; replace hρ := hρ.2
  have h88 := hρ.1; replace hρ := hρ.2
  have h87 := hρ.1; replace hρ := hρ.2
  have h86 := hρ.1; replace hρ := hρ.2
  have h85 := hρ.1; replace hρ := hρ.2
  have h84 := hρ.1; replace hρ := hρ.2
  have h83 := hρ.1; replace hρ := hρ.2
  have h82 := hρ.1; replace hρ := hρ.2
  have h81 := hρ.1; replace hρ := hρ.2
  have h80 := hρ.1; replace hρ := hρ.2
  have h79 := hρ.1; replace hρ := hρ.2
  have h78 := hρ.1; replace hρ := hρ.2
  have h77 := hρ.1; replace hρ := hρ.2
  have h76 := hρ.1; replace hρ := hρ.2
  have h75 := hρ.1; replace hρ := hρ.2
  have h74 := hρ.1; replace hρ := hρ.2
  have h73 := hρ.1; replace hρ := hρ.2
  have h72 := hρ.1; replace hρ := hρ.2
  have h71 := hρ.1; replace hρ := hρ.2
  have h70 := hρ.1; replace hρ := hρ.2
  have h69 := hρ.1; replace hρ := hρ.2
  have h68 := hρ.1; replace hρ := hρ.2
  have h67 := hρ.1; replace hρ := hρ.2
  have h66 := hρ.1; replace hρ := hρ.2
  have h65 := hρ.1; replace hρ := hρ.2
  have h64 := hρ.1; replace hρ := hρ.2
  have h63 := hρ.1; replace hρ := hρ.2
  have h62 := hρ.1; replace hρ := hρ.2
  have h61 := hρ.1; replace hρ := hρ.2
  have h60 := hρ.1; replace hρ := hρ.2
  have h59 := hρ.1; replace hρ := hρ.2
  have h58 := hρ.1; replace hρ := hρ.2
  have h57 := hρ.1; replace hρ := hρ.2
  have h56 := hρ.1; replace hρ := hρ.2
  have h55 := hρ.1; replace hρ := hρ.2
  have h54 := hρ.1; replace hρ := hρ.2
  have h53 := hρ.1; replace hρ := hρ.2
  have h52 := hρ.1; replace hρ := hρ.2
  have h51 := hρ.1; replace hρ := hρ.2
  have h50 := hρ.1; replace hρ := hρ.2
  have h49 := hρ.1; replace hρ := hρ.2
  have h48 := hρ.1; replace hρ := hρ.2
  have h47 := hρ.1; replace hρ := hρ.2
  have h46 := hρ.1; replace hρ := hρ.2
  have h45 := hρ.1; replace hρ := hρ.2
  have h44 := hρ.1; replace hρ := hρ.2
  have h43 := hρ.1; replace hρ := hρ.2
  have h42 := hρ.1; replace hρ := hρ.2
  have h41 := hρ.1; replace hρ := hρ.2
  have h40 := hρ.1; replace hρ := hρ.2
  have h39 := hρ.1; replace hρ := hρ.2
  have h38 := hρ.1; replace hρ := hρ.2
  have h37 := hρ.1; replace hρ := hρ.2
  have h36 := hρ.1; replace hρ := hρ.2
  clear hρ
  have g37 : ρ 37 = ρ 0 % 256 := by rw [show ρ 37 = ρ 36 &&& 255 from h37, and255, show ρ 36 = ρ 0 % 256 from h36, Nat.mod_mod]
  have g40 : ρ 40 = ρ 38 % 256 := by rw [show ρ 40 = ρ 39 &&& 255 from h40, and255, show ρ 39 = ρ 38 % 256 from h39, Nat.mod_mod]
  have g43 : ρ 43 = ρ 41 % 256 := by rw [show ρ 43 = ρ 42 &&& 255 from h43, and255, show ρ 42 = ρ 41 % 256 from h42, Nat.mod_mod]
  have g46 : ρ 46 = ρ 44 % 256 := by rw [show ρ 46 = ρ 45 &&& 255 from h46, and255, show ρ 45 = ρ 44 % 256 from h45, Nat.mod_mod]
  have g49 : ρ 49 = ρ 47 % 256 := by rw [show ρ 49 = ρ 48 &&& 255 from h49, and255, show ρ 48 = ρ 47 % 256 from h48, Nat.mod_mod]
  have g52 : ρ 52 = ρ 50 % 256 := by rw [show ρ 52 = ρ 51 &&& 255 from h52, and255, show ρ 51 = ρ 50 % 256 from h51, Nat.mod_mod]
  have g55 : ρ 55 = ρ 53 % 256 := by rw [show ρ 55 = ρ 54 &&& 255 from h55, and255, show ρ 54 = ρ 53 % 256 from h54, Nat.mod_mod]
  have g57 : ρ 57 = ρ 56 % 256 := h57
  have e0 := limb8 l0 (show ρ 38 = ρ 0 / 2 ^ 8 from h38) (show ρ 41 = ρ 38 / 2 ^ 8 from h41) (show ρ 44 = ρ 41 / 2 ^ 8 from h44) (show ρ 47 = ρ 44 / 2 ^ 8 from h47) (show ρ 50 = ρ 47 / 2 ^ 8 from h50) (show ρ 53 = ρ 50 / 2 ^ 8 from h53) (show ρ 56 = ρ 53 / 2 ^ 8 from h56)
  rw [← g37, ← g40, ← g43, ← g46, ← g49, ← g52, ← g55, ← g57] at e0
  clear g37 g40 g43 g46 g49 g52 g55 g57
  have g59 : ρ 59 = ρ 1 % 256 := by rw [show ρ 59 = ρ 58 &&& 255 from h59, and255, show ρ 58 = ρ 1 % 256 from h58, Nat.mod_mod]
  have g62 : ρ 62 = ρ 60 % 256 := by rw [show ρ 62 = ρ 61 &&& 255 from h62, and255, show ρ 61 = ρ 60 % 256 from h61, Nat.mod_mod]
  have g65 : ρ 65 = ρ 63 % 256 := by rw [show ρ 65 = ρ 64 &&& 255 from h65, and255, show ρ 64 = ρ 63 % 256 from h64, Nat.mod_mod]
  have g68 : ρ 68 = ρ 66 % 256 := by rw [show ρ 68 = ρ 67 &&& 255 from h68, and255, show ρ 67 = ρ 66 % 256 from h67, Nat.mod_mod]
  have g71 : ρ 71 = ρ 69 % 256 := by rw [show ρ 71 = ρ 70 &&& 255 from h71, and255, show ρ 70 = ρ 69 % 256 from h70, Nat.mod_mod]
  have g74 : ρ 74 = ρ 72 % 256 := by rw [show ρ 74 = ρ 73 &&& 255 from h74, and255, show ρ 73 = ρ 72 % 256 from h73, Nat.mod_mod]
  have g77 : ρ 77 = ρ 75 % 256 := by rw [show ρ 77 = ρ 76 &&& 255 from h77, and255, show ρ 76 = ρ 75 % 256 from h76, Nat.mod_mod]
  have g79 : ρ 79 = ρ 78 % 256 := h79
  have e1 := limb8 l1 (show ρ 60 = ρ 1 / 2 ^ 8 from h60) (show ρ 63 = ρ 60 / 2 ^ 8 from h63) (show ρ 66 = ρ 63 / 2 ^ 8 from h66) (show ρ 69 = ρ 66 / 2 ^ 8 from h69) (show ρ 72 = ρ 69 / 2 ^ 8 from h72) (show ρ 75 = ρ 72 / 2 ^ 8 from h75) (show ρ 78 = ρ 75 / 2 ^ 8 from h78)
  rw [← g59, ← g62, ← g65, ← g68, ← g71, ← g74, ← g77, ← g79] at e1
  clear g59 g62 g65 g68 g71 g74 g77 g79
  have g81 : ρ 81 = ρ 2 % 256 := by rw [show ρ 81 = ρ 80 &&& 255 from h81, and255, show ρ 80 = ρ 2 % 256 from h80, Nat.mod_mod]
  have g84 : ρ 84 = ρ 82 % 256 := by rw [show ρ 84 = ρ 83 &&& 255 from h84, and255, show ρ 83 = ρ 82 % 256 from h83, Nat.mod_mod]
  have g87 : ρ 87 = ρ 85 % 256 := by rw [show ρ 87 = ρ 86 &&& 255 from h87, and255, show ρ 86 = ρ 85 % 256 from h86, Nat.mod_mod]
  have g90 : ρ 90 = ρ 88 % 256 := by rw [show ρ 90 = ρ 89 &&& 255 from h90, and255, show ρ 89 = ρ 88 % 256 from h89, Nat.mod_mod]
  have g93 : ρ 93 = ρ 91 % 256 := by rw [show ρ 93 = ρ 92 &&& 255 from h93, and255, show ρ 92 = ρ 91 % 256 from h92, Nat.mod_mod]
  have g96 : ρ 96 = ρ 94 % 256 := by rw [show ρ 96 = ρ 95 &&& 255 from h96, and255, show ρ 95 = ρ 94 % 256 from h95, Nat.mod_mod]
  have g99 : ρ 99 = ρ 97 % 256 := by rw [show ρ 99 = ρ 98 &&& 255 from h99, and255, show ρ 98 = ρ 97 % 256 from h98, Nat.mod_mod]
  have g101 : ρ 101 = ρ 100 % 256 := h101
  have e2 := limb8 l2 (show ρ 82 = ρ 2 / 2 ^ 8 from h82) (show ρ 85 = ρ 82 / 2 ^ 8 from h85) (show ρ 88 = ρ 85 / 2 ^ 8 from h88) (show ρ 91 = ρ 88 / 2 ^ 8 from h91) (show ρ 94 = ρ 91 / 2 ^ 8 from h94) (show ρ 97 = ρ 94 / 2 ^ 8 from h97) (show ρ 100 = ρ 97 / 2 ^ 8 from h100)
  rw [← g81, ← g84, ← g87, ← g90, ← g93, ← g96, ← g99, ← g101] at e2
  clear g81 g84 g87 g90 g93 g96 g99 g101
  have g103 : ρ 103 = ρ 3 % 256 := by rw [show ρ 103 = ρ 102 &&& 255 from h103, and255, show ρ 102 = ρ 3 % 256 from h102, Nat.mod_mod]
  have g106 : ρ 106 = ρ 104 % 256 := by rw [show ρ 106 = ρ 105 &&& 255 from h106, and255, show ρ 105 = ρ 104 % 256 from h105, Nat.mod_mod]
  have g109 : ρ 109 = ρ 107 % 256 := by rw [show ρ 109 = ρ 108 &&& 255 from h109, and255, show ρ 108 = ρ 107 % 256 from h108, Nat.mod_mod]
  have g112 : ρ 112 = ρ 110 % 256 := by rw [show ρ 112 = ρ 111 &&& 255 from h112, and255, show ρ 111 = ρ 110 % 256 from h111, Nat.mod_mod]
  have g115 : ρ 115 = ρ 113 % 256 := by rw [show ρ 115 = ρ 114 &&& 255 from h115, and255, show ρ 114 = ρ 113 % 256 from h114, Nat.mod_mod]
  have g118 : ρ 118 = ρ 116 % 256 := by rw [show ρ 118 = ρ 117 &&& 255 from h118, and255, show ρ 117 = ρ 116 % 256 from h117, Nat.mod_mod]
  have g121 : ρ 121 = ρ 119 % 256 := by rw [show ρ 121 = ρ 120 &&& 255 from h121, and255, show ρ 120 = ρ 119 % 256 from h120, Nat.mod_mod]
  have g123 : ρ 123 = ρ 122 % 256 := h123
  have e3 := limb8 l3 (show ρ 104 = ρ 3 / 2 ^ 8 from h104) (show ρ 107 = ρ 104 / 2 ^ 8 from h107) (show ρ 110 = ρ 107 / 2 ^ 8 from h110) (show ρ 113 = ρ 110 / 2 ^ 8 from h113) (show ρ 116 = ρ 113 / 2 ^ 8 from h116) (show ρ 119 = ρ 116 / 2 ^ 8 from h119) (show ρ 122 = ρ 119 / 2 ^ 8 from h122)
  rw [← g103, ← g106, ← g109, ← g112, ← g115, ← g118, ← g121, ← g123] at e3
  clear g103 g106 g109 g112 g115 g118 g121 g123
  exact num8_32 e0 e1 e2 e3
/-- p256ToBytes. -/
theorem c106 {w : World} {p q : Nat × Nat} {x0 x1 x2 x3 : Nat} {f : Nat → Nat} (wz : By w p.1 p.2 32 f) (wx : W4 w q.1 q.2 x0 x1 x2 x3) :
    Calls Try.prog 106 #[ptr p, ptr q] w fun e w' => e = .returned (.tuple #[]) ∧ Kp (at_ p.1 p.2 32) w w' ∧ ∃ g, By w' p.1 p.2 32 g ∧ num8 g 32 = v4 x0 x1 x2 x3 := by
  refine (leaf_call (E := env) (c := ⟨2, 32, 352⟩) (ext := ext2 p q) (ρ0 := inT x0 x1 x2 x3 f) (n := 36) env_holds (by show 0 < 2; omega) Try.func106 (b := b106) (by kernel_rfl) (by kernel_rfl) run106 ord106 sgl106 (fun ρ h => ?_)).mono ?_
  · rw [Try.ntmps106]
    exact relT (by omega) wz wx h
  · rintro e w' ⟨rfl, ρ, h1, h2, hk, hv⟩
    refine ⟨rfl, hk, fun i => ρ (r106.getD i 0), fun i hi => ?_, ?_⟩
    · exact hv i _ hi (t106 i hi)
    · have g0 : ρ 0 = x0 := h1 0 (by omega)
      have g1 : ρ 1 = x1 := h1 1 (by omega)
      have g2 : ρ 2 = x2 := h1 2 (by omega)
      have g3 : ρ 3 = x3 := h1 3 (by omega)
      have := ar106 h2.hold (g0 ▸ wx.l0) (g1 ▸ wx.l1) (g2 ▸ wx.l2) (g3 ▸ wx.l3)
      rwa [g0, g1, g2, g3] at this

end Go.Proofs.Ytjdjhccefnffmaa
set_option maxRecDepth 100000
set_option maxHeartbeats 4000000
namespace Go.Proofs.Ytjdjhccefnffmaa
open Go LX Go.RowKit
/-- The outer k on both sides turned. -/
def rv (k : Nat) (f : Nat → Nat) (i : Nat) : Nat := if i < k ∨ 32 ≤ i + k then f (31 - i) else f i
theorem by_swap {wr : World} {b o k : Nat} {f : Nat → Nat} (hel : By wr b o 32 (rv k f)) (hk : k < 16) :
    By ((wr.drew.setCell ⟨b, o + k, none⟩ (.int .u8 (rv k f (31 - k) : Nat))).setCell ⟨b, o + (31 - k), none⟩ (.int .u8 (rv k f k : Nat))) b o 32 (rv (k + 1) f) := by
  intro i hi
  have e1 : rv k f k = f k := by simp only [rv]; rw [if_neg (by omega)]
  have e2 : rv k f (31 - k) = f (31 - k) := by simp only [rv]; rw [if_neg (by omega)]
  have d : ∀ j, j < 32 → Cel wr.drew b (o + j) (.int .u8 (rv k f j : Nat)) := fun j hj => (hel j hj).1
  by_cases h1 : i = k
  · subst h1
    have e3 : rv (i + 1) f i = rv i f (31 - i) := by rw [e2]; simp only [rv]; rw [if_pos (by omega)]
    rw [e3]
    exact ⟨((d i hi).set_same _).set_other (.inr (by omega)) _, (hel (31 - i) (by omega)).2⟩
  · by_cases h2 : i = 31 - k
    · have e3 : rv (k + 1) f i = rv k f k := by rw [e1]; simp only [rv]; rw [if_pos (by omega)]; congr 1; omega
      rw [e3, h2]
      exact ⟨((d (31 - k) (by omega)).set_other (.inr (by omega)) _).set_same _, (hel k (by omega)).2⟩
    · have e3 : rv (k + 1) f i = rv k f i := by
        simp only [rv]
        by_cases h : i < k ∨ 32 ≤ i + k
        · rw [if_pos h, if_pos (by omega)]
        · rw [if_neg h, if_neg (by omega)]
      rw [e3]
      exact ⟨((d i hi).set_other (.inr (by omega)) _).set_other (.inr (by omega)) _, (hel i hi).2⟩
theorem c94 {w : World} {b o cap : Nat} {f : Nat → Nat} (hb : By w b o 32 f) :
    Calls Try.prog 94 #[.slice (some ⟨b, o, none⟩) 32 cap] w fun e w' => e = .returned (.tuple #[]) ∧ Kp (at_ b o 32) w w' ∧ By w' b o 32 fun i => f (31 - i) := by
  go_enter Try.func94, Try.ntmps94
  go_wp2_with fail
  go_loopw [2] (fun i wr => ∃ k : Nat, k ≤ 16 ∧ i = .int .i64 (k : Int) ∧ Kp (at_ b o 32) w wr ∧ By wr b o 32 (rv k f)) (fun i _ => 16 - (intOf i).toNat)
  case atStart => exact ⟨0, by omega, rfl, Kp.refl _ _, fun i hi => by have := hb i hi; simp only [rv]; rw [if_neg (by omega)]; exact this⟩
  case round =>
    obtain ⟨k, hk, rfl, hkp, hel⟩ := hrel
    by_cases hlt : k < 16
    · obtain ⟨⟨cl, fl⟩, bl⟩ := hel k (by omega)
      obtain ⟨⟨cr, fr⟩, br⟩ := hel (31 - k) (by omega)
      have g0 : (0 : Int) ≤ 31 - (k : Int) := by omega
      have g1 : 31 - (k : Int) < 32 := by omega
      have g2 : (31 - (k : Int)).toNat = 31 - k := by omega
      have g3 : (k : Int) < 32 := by omega
      go_wp2_with fail
      go_region
      clear cl fl cr fr g0 g1 g2
      have h1 := by_swap hel hlt
      have h2 : Kp (at_ b o 32) w _ := (hkp.drew.setCell (k := b) (o := o + k) (.int .u8 (rv k f (31 - k) : Nat)) fun _ => ⟨rfl, by omega, by omega⟩).setCell (k := b) (o := o + (31 - k)) (.int .u8 (rv k f k : Nat)) fun _ => ⟨rfl, by omega, by omega⟩
      clear hel hkp
      go_wp2_with fail
      go_roundw
      case rel => exact ⟨k + 1, by omega, by go_num, h2, h1⟩
      case measure => simp [intOf]; omega
    · have hk16 : k = 16 := by omega
      subst hk16
      have h2 : By wr b o 32 fun i => f (31 - i) := fun i hi => by
        have := hel i hi
        simp only [rv] at this
        rwa [if_pos (by omega)] at this
      clear hel
      go_wp2_with fail
      go_end0
      exact ⟨rfl, hkp, h2⟩
end Go.Proofs.Ytjdjhccefnffmaa
set_option maxRecDepth 100000
set_option maxHeartbeats 4000000
namespace Go.Proofs.Ytjdjhccefnffmaa
open Go LX Go.RowKit
theorem num8_digit : ∀ {n : Nat} {f : Nat → Nat}, (∀ i, i < n → f i < 256) → ∀ i, i < n → num8 f n / 256 ^ i % 256 = f i
  | 0, _, _, i, hi => by omega
  | n + 1, f, h, i, hi => by
    have h0 := h 0 (by omega)
    cases i with
    | zero => simp only [num8, Nat.pow_zero, Nat.div_one]; omega
    | succ i =>
      have := num8_digit (n := n) (f := fun i => f (i + 1)) (fun j hj => h (j + 1) (by omega)) i (by omega)
      simp only [num8]
      rw [Nat.pow_succ, Nat.mul_comm (256 ^ i), ← Nat.div_div_eq_div_mul, show (f 0 + 256 * num8 (fun i => f (i + 1)) n) / 256 = num8 (fun i => f (i + 1)) n by omega]
      exact this
/-- Byte i of 32, the highest first. -/
def be (n i : Nat) : Nat := n / 256 ^ (31 - i) % 256
theorem By.congr {w : World} {b o n : Nat} {f g : Nat → Nat} (h : By w b o n f) (e : ∀ i, i < n → f i = g i) : By w b o n g := fun i hi => e i hi ▸ h i hi
theorem By.kp {w w' : World} {b o n : Nat} {f : Nat → Nat} {S : Nat → Nat → Prop} (h : By w b o n f) (hk : Kp S w w') (hS : ∀ i, i < n → ¬ S b (o + i)) : By w' b o n f := fun i hi => ⟨(h i hi).1.kp hk (hS i hi), (h i hi).2⟩
theorem By.drew {w : World} {b o n : Nat} {f : Nat → Nat} (h : By w b o n f) : By w.drew b o n f := fun i hi => h i hi
theorem By.be {w : World} {b o n : Nat} {g : Nat → Nat} (h : By w b o 32 fun i => g (31 - i)) (hn : num8 g 32 = n) (hg : ∀ i, i < 32 → g i < 256) : By w b o 32 (be n) :=
  h.congr fun i hi => by subst hn; exact (num8_digit hg (31 - i) (by omega)).symm
def zer (w : World) (t : TypeId) : World := w.alloc (.cells (Array.replicate 32 (.int .u8 0)) t)
theorem By.zero (w : World) (t : TypeId) : By (zer w t) w.heap.size 0 32 fun _ => 0 := fun i hi => ⟨Cel.new _ _ _ (0 + i) _ (by rw [Nat.zero_add]; simp [hi]), by show 0 < 256; omega⟩
theorem Sp.zero (w : World) (t : TypeId) : Sp (w.alloc (.cells #[.int .u64 0, .int .u64 0, .int .u64 0, .int .u64 0] t)) w.heap.size 0 := (El.zero w t).sp
theorem c99 {w : World} {b o p1 p2 : Nat} {f : Nat → Nat} {x : EC.F} (hx : El w p1 p2 x) (hb : By w b o 32 f) :
    Calls Try.prog 99 #[pt p1 p2, pt b o] w fun e w' => e = .returned (.slice (some ⟨b, o, none⟩) 32 32) ∧ Kp (at_ b o 32) w w' ∧ By w' b o 32 (be x.val) := by
  have hlt := (hb 0 (by omega)).1.lt
  go_enter Try.func99, Try.ntmps99
  go_wp2_with fail
  have k0 : Kp non w (w.alloc (.cells #[.int .u64 0, .int .u64 0, .int .u64 0, .int .u64 0] 130)) := (Kp.refl _ w).alloc _
  obtain ⟨z0, z1, z2, z3, hz⟩ := Sp.zero w 130
  refine (c105 (p := (w.heap.size, 0)) (q := (p1, p2)) hz (hx.kp k0 fun _ _ h => h)).mono ?_
  rintro e w1 ⟨rfl, hk1, r0, r1, r2, r3, hw, hv⟩
  have k1 : Kp non w w1 := k0.trans hk1 (fun _ _ _ h => h) (fun _ _ hx h => by have := h.1; omega)
  clear hz k0 hk1
  go_wp2_with fail
  refine (c106 (p := (b, o)) (q := (w.heap.size, 0)) (hb.kp k1 fun _ _ h => h) hw).mono ?_
  rintro e w2 ⟨rfl, hk2, g, hg, hn⟩
  have k2 : Kp (at_ b o 32) w w2 := (k1.wide fun _ _ _ h => h.elim).trans hk2 (fun _ _ _ h => h) (fun _ _ _ h => h)
  clear hk2 k1 hw
  go_wp2_with fail
  refine (c94 hg).mono ?_
  rintro e w3 ⟨rfl, hk3, hg3⟩
  have k3 : Kp (at_ b o 32) w w3 := k2.trans hk3 (fun _ _ _ h => h) (fun _ _ _ h => h)
  have hr := By.be hg3 (hn.trans hv) fun i hi => (hg i hi).2
  clear hk3 k2 hg3 hg hn hv
  go_wp2_with fail
  go_ret
  exact ⟨rfl, k3, hr⟩
theorem c80 {w : World} {p1 p2 : Nat} {x : EC.F} (hx : El w p1 p2 x) :
    Calls Try.prog 80 #[pt p1 p2] w fun e w' => e = .returned (.slice (some ⟨w.heap.size, 0, none⟩) 32 32) ∧ Kp non w w' ∧ By w' w.heap.size 0 32 (be x.val) := by
  go_enter Try.func80, Try.ntmps80
  go_wp2_with fail
  have k0 : Kp non w (zer w 23) := (Kp.refl _ w).alloc _
  refine (c99 (w := zer w 23) (hx.kp k0 fun _ _ h => h) (By.zero w 23)).mono ?_
  rintro e w1 ⟨rfl, hk1, hr⟩
  have k1 : Kp non w w1 := k0.trans hk1 (fun _ _ _ h => h) (fun _ _ hx h => by have := h.1; omega)
  clear hk1 k0
  go_wp2_with fail
  go_ret
  exact ⟨rfl, k1, hr⟩
end Go.Proofs.Ytjdjhccefnffmaa
set_option maxRecDepth 100000
set_option maxHeartbeats 4000000
namespace Go.Proofs.Ytjdjhccefnffmaa
open Go LX Go.RowKit
theorem bits_xor_u8 (a b : Nat) (ha : a < 256) (hb : b < 256) : bits .xor .u8 (a : Int) (b : Int) = ((a ^^^ b : Nat) : Int) := by
  have hx : a ^^^ b < 2 ^ 8 := Nat.xor_lt_two_pow (by omega) (by omega)
  have h1 : (BitVec.ofInt 8 (a : Int)).toNat = a := by
    rw [BitVec.ofInt_natCast, BitVec.toNat_ofNat]; exact Nat.mod_eq_of_lt (by omega)
  have h2 : (BitVec.ofInt 8 (b : Int)).toNat = b := by
    rw [BitVec.ofInt_natCast, BitVec.toNat_ofNat]; exact Nat.mod_eq_of_lt (by omega)
  show IntKind.u8.wrap ((BitVec.ofInt 8 (a : Int) ^^^ BitVec.ofInt 8 (b : Int)).toNat : Int) = _
  rw [BitVec.toNat_xor, h1, h2, wrap_u8]
  omega
theorem bits_or_u8 (a b : Nat) (ha : a < 256) (hb : b < 256) : bits .or .u8 (a : Int) (b : Int) = ((a ||| b : Nat) : Int) := by
  have hx : a ||| b < 2 ^ 8 := Nat.or_lt_two_pow (by omega) (by omega)
  have h1 : (BitVec.ofInt 8 (a : Int)).toNat = a := by
    rw [BitVec.ofInt_natCast, BitVec.toNat_ofNat]; exact Nat.mod_eq_of_lt (by omega)
  have h2 : (BitVec.ofInt 8 (b : Int)).toNat = b := by
    rw [BitVec.ofInt_natCast, BitVec.toNat_ofNat]; exact Nat.mod_eq_of_lt (by omega)
  show IntKind.u8.wrap ((BitVec.ofInt 8 (a : Int) ||| BitVec.ofInt 8 (b : Int)).toNat : Int) = _
  rw [BitVec.toNat_or, h1, h2, wrap_u8]
  omega
/-- 1 where the bytes agree, else 0. -/
def Cmp (f g : Nat → Nat) (w : World) (e : Ending) (w' : World) : Prop := ∃ n : Nat, e = .returned (.int .i64 (n : Int)) ∧ n ≤ 1 ∧ (n = 1 ↔ ∀ i, i < 32 → f i = g i) ∧ Kp non w w'
def Upto (f g : Nat → Nat) (k m : Nat) : Prop := m < 256 ∧ (m = 0 ↔ ∀ i, i < k → f i = g i)
theorem xor_zero {a b : Nat} : a ^^^ b = 0 ↔ a = b := by
  constructor
  · intro h
    refine Nat.eq_of_testBit_eq fun i => ?_
    have := congrArg (fun n => n.testBit i) h
    simp only [Nat.testBit_xor, Nat.zero_testBit] at this
    revert this
    cases a.testBit i <;> cases b.testBit i <;> simp
  · rintro rfl; exact Nat.xor_self _
theorem Upto.step {f g : Nat → Nat} {k m : Nat} (h : Upto f g k m) (h1 : f k < 256) (h2 : g k < 256) : Upto f g (k + 1) (m ||| (f k ^^^ g k)) := by
  have hx : f k ^^^ g k < 2 ^ 8 := Nat.xor_lt_two_pow h1 h2
  refine ⟨Nat.or_lt_two_pow (n := 8) h.1 hx, ?_⟩
  rw [Nat.or_eq_zero_iff, xor_zero, h.2]
  constructor
  · rintro ⟨a, b⟩ i hi
    by_cases hik : i = k
    · subst hik; exact b
    · exact a i (by omega)
  · intro a
    exact ⟨fun i hi => a i (by omega), a k (by omega)⟩
theorem c101 {w : World} {b1 o1 c1 b2 o2 c2 : Nat} {f g : Nat → Nat} (hf : By w b1 o1 32 f) (hg : By w b2 o2 32 g) :
    Calls Try.prog 101 #[.slice (some ⟨b1, o1, none⟩) 32 c1, .slice (some ⟨b2, o2, none⟩) 32 c2] w (Cmp f g w) := by
  go_enter Try.func101, Try.ntmps101
  go_wp2_with fail
  go_loopw [5, 14] (fun v i wr => ∃ (k m : Nat), k ≤ 32 ∧ i = .int .i64 (k : Int) ∧ v = .int .u8 (m : Int) ∧ Upto f g k m ∧ Kp non w wr) (fun _ i _ => 32 - (intOf i).toNat)
  case atStart => exact ⟨0, 0, by omega, rfl, rfl, ⟨by omega, by simp⟩, Kp.refl _ _⟩
  case round =>
    obtain ⟨k, m, hk, rfl, rfl, hi, hkp⟩ := hrel
    by_cases hlt : k < 32
    · have bl := (hf k (by omega)).2
      have br := (hg k (by omega)).2
      have cl' := ((hf k (by omega)).1.kp hkp fun h => h).1
      have cr' := ((hg k (by omega)).1.kp hkp fun h => h).1
      have hn := hi.step bl br
      have e1 := bits_xor_u8 _ _ bl br
      have e2 := bits_or_u8 m (f k ^^^ g k) hi.1 (Nat.xor_lt_two_pow (n := 8) bl br)
      have hkd := hkp.drew
      go_wp2_with fail
      go_region
      go_wp2_with fail
      go_roundw
      case rel => exact ⟨k + 1, m ||| (f k ^^^ g k), by omega, by go_num, by first | rw [e1, e2] | rfl, hn, hkd⟩
      case measure => simp [intOf]; omega
    · have hk32 : k = 32 := by omega
      subst hk32
      by_cases hm : m = 0
      · subst hm
        have hall := hi.2.1 rfl
        clear hi
        go_wp2_with fail
        go_ret
        exact ⟨1, rfl, by omega, ⟨fun _ => hall, fun _ => rfl⟩, hkp⟩
      · have hall : ¬ ∀ i, i < 32 → f i = g i := fun h => hm (hi.2.2 h)
        have hb : ((m : Int) == 0) = false := by simp; omega
        clear hi
        go_wp2_with fail
        go_ret
        exact ⟨0, rfl, by omega, ⟨fun h => absurd h (by omega), fun h => absurd h hall⟩, hkp⟩
end Go.Proofs.Ytjdjhccefnffmaa
set_option maxRecDepth 100000
set_option maxHeartbeats 4000000
namespace Go.Proofs.Ytjdjhccefnffmaa
open Go LX Go.RowKit
theorem num8_of (n : Nat) : ∀ k, num8 (fun i => n / 256 ^ i % 256) k = n % 256 ^ k := by
  intro k
  induction k generalizing n with
  | zero => simp [num8, Nat.mod_one]
  | succ k ih =>
    have h1 : num8 (fun i => n / 256 ^ (i + 1) % 256) k = n / 256 % 256 ^ k := by
      rw [← ih (n / 256)]
      exact num8_congr fun i _ => by rw [Nat.div_div_eq_div_mul, Nat.pow_succ, Nat.mul_comm]
    simp only [num8, h1, Nat.pow_zero, Nat.div_one]
    rw [Nat.pow_succ, Nat.mul_comm (256 ^ k), Nat.mod_mul]
theorem be_inj {a b : Nat} (ha : a < 256 ^ 32) (hb : b < 256 ^ 32) (h : ∀ i, i < 32 → be a i = be b i) : a = b := by
  have e : ∀ n, n < 256 ^ 32 → n = num8 (fun i => n / 256 ^ i % 256) 32 := fun n hn => by rw [num8_of, Nat.mod_eq_of_lt hn]
  rw [e a ha, e b hb]
  refine num8_congr fun i hi => ?_
  have := h (31 - i) (by omega)
  simp only [be] at this
  rwa [show 31 - (31 - i) = i by omega] at this
theorem F_lt (x : EC.F) : x.val < 256 ^ 32 := Nat.lt_trans x.isLt (by decide +kernel)
/-- 1 where they are the same, else 0. -/
def Eq01 (x y : EC.F) (w : World) (e : Ending) (w' : World) : Prop := ∃ n : Nat, e = .returned (.int .i64 (n : Int)) ∧ n ≤ 1 ∧ (n = 1 ↔ x = y) ∧ Kp non w w'
theorem LX.Kp.non {w w1 w2 : World} (h : Kp non w w1) (k : Kp non w1 w2) : Kp non w w2 := h.trans k (fun _ _ _ h => h) (fun _ _ _ h => h)
theorem c97 {w : World} {p1 p2 q1 q2 : Nat} {x y : EC.F} (hx : El w p1 p2 x) (hy : El w q1 q2 y) : Calls Try.prog 97 #[pt p1 p2, pt q1 q2] w (Eq01 x y w) := by
  go_enter Try.func97, Try.ntmps97
  go_wp2_with fail
  refine (c80 hx).mono ?_
  rintro e w1 ⟨rfl, hk, hb⟩
  go_wp2_with fail
  refine (c80 (hy.kp hk fun _ _ h => h)).mono ?_
  rintro e w2 ⟨rfl, hk2, hb2⟩
  replace hb := hb.kp hk2 fun _ _ h => h
  replace hk := hk.non hk2
  clear hk2
  go_wp2_with fail
  refine (c101 hb hb2).mono ?_
  clear hb hb2
  rintro e w3 ⟨n, rfl, hn, hi, hk3⟩
  have h4 := hk.non hk3
  have h5 : n = 1 ↔ x = y := hi.trans ⟨fun h => Fin.ext (be_inj (F_lt x) (F_lt y) h), fun h => by rw [h]; exact fun _ _ => rfl⟩
  clear hi hk hk3
  go_wp2_with fail
  go_ret
  exact ⟨n, rfl, hn, h5, h4⟩
theorem make32 (w : World) : (Instr.makeSlice 22 (.int .i64 32) (.int .i64 32)).run Try.prog w = .ok (.slice (some ⟨w.heap.size, 0, none⟩) 32 32) (zer w 5) := by kernel_rfl
theorem be_zero (i : Nat) : be 0 i = 0 := by simp [be]
theorem c86 {w : World} {p1 p2 : Nat} {x : EC.F} (hx : El w p1 p2 x) : Calls Try.prog 86 #[pt p1 p2] w (Eq01 x 0 w) := by
  have hm := make32 w
  have k0 : Kp non w (zer w 5) := (Kp.refl _ w).alloc _
  go_enter Try.func86, Try.ntmps86
  go_wp2_with fail
  refine (c80 (hx.kp k0 fun _ _ h => h)).mono ?_
  rintro e w1 ⟨rfl, hk, hb⟩
  have hz := (By.zero w 5).kp hk fun _ _ h => h
  replace hk := k0.non hk
  clear k0 hm
  go_wp2_with fail
  refine (c101 hb hz).mono ?_
  clear hb hz
  rintro e w3 ⟨n, rfl, hn, hi, hk3⟩
  have h4 := hk.non hk3
  have h5 : n = 1 ↔ x = 0 := hi.trans ⟨fun h => Fin.ext (be_inj (F_lt x) (by decide) fun i hi => (h i hi).trans (be_zero i).symm), fun h => by rw [h]; exact fun i _ => be_zero i⟩
  clear hi hk hk3
  go_wp2_with fail
  go_ret
  exact ⟨n, rfl, hn, h5, h4⟩
end Go.Proofs.Ytjdjhccefnffmaa
set_option maxRecDepth 100000
set_option maxHeartbeats 4000000
namespace Go.Proofs.Ytjdjhccefnffmaa
open Go LX Go.RowKit
/-- The number of so many first bytes, the highest first. -/
def hi8 (f : Nat → Nat) : Nat → Nat
  | 0 => 0
  | n + 1 => 256 * hi8 f n + f n
/-- 1 where the first is at most the second, else 0. -/
def Le01 (f g : Nat → Nat) (w : World) (e : Ending) (w' : World) : Prop := ∃ n : Nat, e = .returned (.int .i64 (n : Int)) ∧ n ≤ 1 ∧ (n = 1 ↔ hi8 f 32 ≤ hi8 g 32) ∧ Kp non w w'
theorem hi8_lt {f g : Nat → Nat} {k : Nat} (h : ∀ i, i < 32 → f i < 256) (h2 : ∀ i, i < k → f i = g i) (hk : f k < g k) : ∀ j, k < j → j ≤ 32 → hi8 f j < hi8 g j := by
  have he : ∀ j, j ≤ k → hi8 f j = hi8 g j := by
    intro j
    induction j with
    | zero => intro _; rfl
    | succ j ih => intro hj; simp only [hi8]; rw [ih (by omega), h2 j (by omega)]
  intro j
  induction j with
  | zero => intro h; omega
  | succ j ih =>
    intro h1 h3
    simp only [hi8]
    by_cases hjk : j = k
    · subst hjk; rw [he j (by omega)]; omega
    · have := ih (by omega) (by omega)
      have := h j (by omega)
      omega
theorem hi8_eq {f g : Nat → Nat} : ∀ k, (∀ i, i < k → f i = g i) → hi8 f k = hi8 g k
  | 0, _ => rfl
  | k + 1, h => by simp only [hi8]; rw [hi8_eq k fun i hi => h i (by omega), h k (by omega)]
theorem c93 {w : World} {b1 o1 c1 b2 o2 c2 : Nat} {f g : Nat → Nat} (hf : By w b1 o1 32 f) (hg : By w b2 o2 32 g) :
    Calls Try.prog 93 #[.slice (some ⟨b1, o1, none⟩) 32 c1, .slice (some ⟨b2, o2, none⟩) 32 c2] w (Le01 f g w) := by
  have F1 := fun i hi => (hf i hi).2
  have F2 := fun i hi => (hg i hi).2
  go_enter Try.func93, Try.ntmps93
  go_wp2_with fail
  go_loopw [13] (fun i wr => ∃ k : Nat, k ≤ 32 ∧ i = .int .i64 (k : Int) ∧ (∀ i, i < k → f i = g i) ∧ Kp non w wr) (fun i _ => 32 - (intOf i).toNat)
  case atStart => exact ⟨0, by omega, rfl, by intro i hi; omega, Kp.refl _ _⟩
  case round =>
    obtain ⟨k, hk, rfl, hi, hkp⟩ := hrel
    by_cases hlt : k < 32
    · have bl := (hf k (by omega)).2
      have br := (hg k (by omega)).2
      have cl' := ((hf k (by omega)).1.kp hkp fun h => h).1
      have cr' := ((hg k (by omega)).1.kp hkp fun h => h).1
      have hkd := hkp.drew
      have hkdd := hkd.drew
      by_cases he : f k = g k
      · have hn : ∀ i, i < k + 1 → f i = g i := fun i h => by by_cases h' : i = k; (subst h'; exact he); exact hi i (by omega)
        rw [he] at cl'
        have hi' := Lib.hid hi
        have hn' := Lib.hid hn
        clear hi hn he F1 F2
        go_wp2_with fail
        go_region
        go_wp2_with fail
        go_roundw
        case rel => exact ⟨k + 1, by omega, by go_num, hn'.out, hkd⟩
        case measure => simp [intOf]; omega
      · have b1 : (((f k : Nat) : Int) == ((g k : Nat) : Int)) = false := by simp; omega
        have b2 : (((f k : Nat) : Int) != ((g k : Nat) : Int)) = true := by simp; omega
        by_cases hl : f k < g k
        · have hr := hi8_lt F1 hi hl 32 (by omega) (by omega)
          have hl2 : ((f k : Nat) : Int) < ((g k : Nat) : Int) := by omega
          have hi' := Lib.hid hi
          clear hi F1 F2 he
          go_wp2_with fail
          go_region
          go_wp2_with fail
          go_region
          go_wp2_with fail
          go_ret
          exact ⟨1, rfl, by omega, ⟨fun _ => by omega, fun _ => rfl⟩, hkdd⟩
        · have hr := hi8_lt F2 (fun i h => (hi i h).symm) (show g k < f k by omega) 32 (by omega) (by omega)
          have hl2 : ¬ ((f k : Nat) : Int) < ((g k : Nat) : Int) := by omega
          have hi' := Lib.hid hi
          clear hi F1 F2 he
          go_wp2_with fail
          go_region
          go_wp2_with fail
          go_region
          go_wp2_with fail
          go_ret
          exact ⟨0, rfl, by omega, ⟨fun h => by omega, fun h => by omega⟩, hkdd⟩
    · have hk32 : k = 32 := by omega
      subst hk32
      have := hi8_eq 32 hi
      have hh := Lib.hid this
      clear hi this F1 F2
      go_wp2_with fail
      go_ret
      exact ⟨1, rfl, by omega, ⟨fun _ => by rw [hh.out]; exact Nat.le_refl _, fun _ => rfl⟩, hkp⟩
end Go.Proofs.Ytjdjhccefnffmaa
set_option maxRecDepth 100000
set_option maxHeartbeats 4000000
namespace Go.Proofs.Ytjdjhccefnffmaa
open Go LX Go.RowKit
/-- An error, in a new variable. -/
theorem c79 (s : ByteArray) (w : World) : Calls Try.prog 79 #[.string s] w fun e w' => e = .returned (.iface 138 (.pointer (some ⟨w.heap.size, 0, none⟩))) ∧ Kp non w w' := by
  have k0 : Kp non w (w.alloc (.cells #[.string s] 140)) := (Kp.refl _ w).alloc _
  go_enter Try.func79, Try.ntmps79
  go_wp2_with fail
  go_ret
  exact ⟨rfl, k0⟩
theorem hi8_num8 (f : Nat → Nat) : ∀ n, num8 (fun i => f (n - 1 - i)) n = hi8 f n
  | 0 => rfl
  | n + 1 => by
    have h := hi8_num8 f n
    have h2 : num8 (fun i => f (n + 1 - 1 - (i + 1))) n = num8 (fun i => f (n - 1 - i)) n := num8_congr fun i hi => by congr 1; omega
    simp only [num8, hi8]
    rw [h2, h]
    show f (n + 1 - 1 - 0) + _ = _
    rw [show n + 1 - 1 - 0 = n by omega]
    omega
theorem hi8_be {n : Nat} (hn : n < 256 ^ 32) : hi8 (be n) 32 = n := by
  rw [← hi8_num8]
  have h := num8_of n 32
  rw [Nat.mod_eq_of_lt hn] at h
  refine Eq.trans (num8_congr fun i hi => ?_) h
  show be n (32 - 1 - i) = _
  simp only [be]
  rw [show 31 - (32 - 1 - i) = i by omega]
theorem minus1 : ((0 - 1 : EC.F)).val = PN - 1 := by decide +kernel
theorem PN_lt : PN < 256 ^ 32 := by decide +kernel
/-- Bytes as cells. -/
def bys (f : Nat → Nat) (n : Nat) : Array Value := ((List.range n).map fun i => Value.int .u8 (f i : Int)).toArray
theorem By.new (w : World) (t : TypeId) (f : Nat → Nat) (n : Nat) (hf : ∀ i, i < n → f i < 256) : By (w.alloc (.cells (bys f n) t)) w.heap.size 0 n f := fun i hi =>
  ⟨Cel.new _ _ _ (0 + i) _ (by rw [Nat.zero_add]; simp [bys, hi]), hf i hi⟩
theorem copy32 {w : World} {b o c : Nat} {f : Nat → Nat} (hb : By w b o 32 f) :
    (Builtin.copy_ #[22, 22] 3 #[.slice (some ⟨w.heap.size, 0, none⟩) 32 32, .slice (some ⟨b, o, none⟩) 32 c]).run Try.prog
      (w.alloc (.cells #[.int .u8 0, .int .u8 0, .int .u8 0, .int .u8 0, .int .u8 0, .int .u8 0, .int .u8 0, .int .u8 0, .int .u8 0, .int .u8 0, .int .u8 0, .int .u8 0, .int .u8 0, .int .u8 0, .int .u8 0, .int .u8 0, .int .u8 0, .int .u8 0, .int .u8 0, .int .u8 0, .int .u8 0, .int .u8 0, .int .u8 0, .int .u8 0, .int .u8 0, .int .u8 0, .int .u8 0, .int .u8 0, .int .u8 0, .int .u8 0, .int .u8 0, .int .u8 0] 23)) =
      .ok (.int .i64 32) (w.alloc (.cells (bys f 32) 23)) := by
  refine (run_copy_row (P := Try.prog) _ 22 22 3 5 w.heap.size 0 32 32 ⟨b, o, none⟩ 32 c _ 23 ((List.range 32).map fun i => Value.int .u8 (f i : Int)) (by kernel_rfl) (by kernel_rfl) (heap_alloc_last _ _) (by simp) ?_ (by simp) (by simp [Value.oneCell'])).trans ?_
  · intro j v h
    simp only [List.getElem?_map, Option.map_eq_some_iff] at h
    obtain ⟨k, hk, rfl⟩ := h
    have hj : j < 32 := by
      by_cases h : j < 32
      · exact h
      · rw [List.getElem?_eq_none (by simp; omega)] at hk; cases hk
    rw [List.getElem?_range hj] at hk
    cases hk
    have h2 := ((hb j hj).1.alloc (.cells #[.int .u8 0, .int .u8 0, .int .u8 0, .int .u8 0, .int .u8 0, .int .u8 0, .int .u8 0, .int .u8 0, .int .u8 0, .int .u8 0, .int .u8 0, .int .u8 0, .int .u8 0, .int .u8 0, .int .u8 0, .int .u8 0, .int .u8 0, .int .u8 0, .int .u8 0, .int .u8 0, .int .u8 0, .int .u8 0, .int .u8 0, .int .u8 0, .int .u8 0, .int .u8 0, .int .u8 0, .int .u8 0, .int .u8 0, .int .u8 0, .int .u8 0, .int .u8 0] 23)).1
    rw [show (Addr.add ⟨b, o, none⟩ j) = ⟨b, o + j, none⟩ by simp [Addr.add]]
    exact h2
  · rw [World.setRow_alloc_new]
    rfl
/-- What SetBytes of an element does. -/
def Set01 (f : Nat → Nat) (p1 p2 : Nat) (w : World) (e : Ending) (w' : World) : Prop :=
  (hi8 f 32 < PN → e = .returned (.tuple #[pt p1 p2, .nilIface]) ∧ Kp (at_ p1 p2 4) w w' ∧ El w' p1 p2 (nF (hi8 f 32))) ∧
  (PN ≤ hi8 f 32 → ∃ b, e = .returned (.tuple #[.pointer none, .iface 138 (.pointer (some ⟨b, 0, none⟩))]) ∧ Kp non w w')
theorem c73 {w : World} {p1 p2 b o c : Nat} {f : Nat → Nat} (hs : Sp w p1 p2) (hb : By w b o 32 f) :
    Calls Try.prog 73 #[pt p1 p2, .slice (some ⟨b, o, none⟩) 32 c] w (Set01 f p1 p2 w) := by
  have m := MM.nil w
  go_enter Try.func73, Try.ntmps73
  go_wp2_with fail
  replace m := ((m.new 91).new 91).new 91
  simp at m
  refine (c65 (p := (w.heap.size + 1 + 1, 0)) (m.get 2 rfl).sp).mono ?_
  rintro e w1 ⟨rfl, hk, he⟩
  replace m := m.set 2 rfl hk he
  clear hk he
  replace m : MM non w w1 [(w.heap.size, 0), (w.heap.size + 1, 0), (w.heap.size + 1 + 1, 1)] := m
  simp only [ptr] at *
  go_wp2_with fail
  refine (m.sub 0 rfl (m.get 1 rfl) (m.get 2 rfl)).mono ?_
  clear m
  rintro e w2 ⟨rfl, z, hz, m⟩
  go_wp2_with fail
  refine (c80 (m.get 0 rfl)).mono ?_
  rintro e w3 ⟨rfl, hk, hm⟩
  have k3 := m.k.non hk
  clear hk m
  go_wp2_with fail
  refine (c93 (hb.kp k3 fun _ _ h => h) hm).mono ?_
  rintro e w4 ⟨n, rfl, hn, hi, hk4⟩
  have k4 := k3.non hk4
  clear hk4 hm k3
  have hi2 : n = 1 ↔ hi8 f 32 < PN := by
    rw [hi, hi8_be (Nat.lt_trans z.isLt (by decide +kernel))]
    have hz' := hz.out
    subst hz'
    rw [minus1]
    have : 0 < PN := by decide
    omega
  clear hi hz
  by_cases hc : hi8 f 32 < PN
  · have h1 := hi2.2 hc
    subst h1
    have hh := Lib.hid hc
    clear hi2 hc hn
    have hbn := hb.kp k4 fun _ _ h => h
    have hcp := copy32 (c := c) hbn
    have hbx := Lib.hid k4.size
    have hB := Lib.hid (By.new w4 23 f 32 fun i hi => (hb i hi).2)
    have k5 : Kp non w (w4.alloc (.cells (bys f 32) 23)) := k4.alloc _
    clear hb hbn k4
    go_wp2_with fail
    refine (c94 hB.out).mono ?_
    rintro e w5 ⟨rfl, hk5, hb5⟩
    have k6 : Kp non w w5 := k5.trans hk5 (fun _ _ _ h => h) (fun _ _ hx h => by have := h.1; have := hbx.out; omega)
    clear hk5 k5 hB hcp
    go_wp2_with fail
    obtain ⟨z0, z1, z2, z3, hz⟩ := Sp.zero w5 130
    refine (c95 (p := (w5.heap.size, 0)) (q := (w4.heap.size, 0)) hz (hb5.kp ((Kp.refl non w5).alloc _) fun _ _ h => h)).mono ?_
    rintro e w6 ⟨rfl, hk7, r0, r1, r2, r3, hw, hv⟩
    have k7 : Kp non w w6 := (k6.alloc _).trans hk7 (fun _ _ _ h => h) (fun _ _ hx h => by have := h.1; have := k6.size; omega)
    clear hk7 hb5 hz k6
    go_wp2_with fail
    have hv2 : v4 r0 r1 r2 r3 = hi8 f 32 := hv.trans (hi8_num8 f 32)
    obtain ⟨y0, y1, y2, y3, hy⟩ := hs.kp k7 fun _ _ h => h
    refine (c96 (p := (p1, p2)) (q := (w5.heap.size, 0)) hy hw (by rw [hv2]; exact hh.out)).mono ?_
    clear hy hw
    rintro e w7 ⟨rfl, hk8, he⟩
    have k8 : Kp (at_ p1 p2 4) w w7 := (k7.wide fun _ _ _ h => h.elim).trans hk8 (fun _ _ _ h => h) (fun _ _ _ h => h)
    rw [hv2] at he
    clear k7 hk8 hv2 hv
    go_wp2_with fail
    go_ret2
    exact ⟨fun _ => ⟨rfl, k8, he⟩, fun h => absurd hh.out (by omega)⟩
  · have h1 : n = 0 := by
      by_cases h : n = 1
      · exact absurd (hi2.1 h) hc
      · omega
    subst h1
    have hh := Lib.hid hc
    clear hi2 hc hn hb
    go_wp2_with fail
    refine (c79 _ _).mono ?_
    rintro e w5 ⟨rfl, hk5⟩
    have k5 := k4.non hk5
    clear k4 hk5
    go_wp2_with fail
    go_ret2
    exact ⟨fun h => absurd h hh.out, fun _ => ⟨_, rfl, k5⟩⟩
end Go.Proofs.Ytjdjhccefnffmaa
set_option maxRecDepth 100000
set_option maxHeartbeats 4000000
namespace Go.Proofs.Ytjdjhccefnffmaa
open Go LX Go.RowKit
/-- The bytes of the curve's constant. -/
def bB (i : Nat) : Nat := [90, 198, 53, 216, 170, 58, 147, 231, 179, 235, 189, 85, 118, 152, 134, 188, 101, 29, 6, 176, 204, 83, 176, 246, 59, 206, 60, 62, 39, 210, 96, 75].getD i 0
theorem bB_lt : ∀ i, i < 32 → bB i < 256 := by decide
theorem bB_val : hi8 bB 32 < PN ∧ nF (hi8 bB 32) = EC.B := by decide +kernel
theorem bB_lit : bys bB 32 = #[.int .u8 90, .int .u8 198, .int .u8 53, .int .u8 216, .int .u8 170, .int .u8 58, .int .u8 147, .int .u8 231, .int .u8 179, .int .u8 235, .int .u8 189, .int .u8 85, .int .u8 118, .int .u8 152, .int .u8 134, .int .u8 188, .int .u8 101, .int .u8 29, .int .u8 6, .int .u8 176, .int .u8 204, .int .u8 83, .int .u8 176, .int .u8 246, .int .u8 59, .int .u8 206, .int .u8 60, .int .u8 62, .int .u8 39, .int .u8 210, .int .u8 96, .int .u8 75] := by kernel_rfl
theorem size1 (w : World) (o : Obj) : (w.alloc o).heap.size = w.heap.size + 1 := by simp
theorem c69 (w : World) : Calls Try.prog 69 #[] w fun e w' => ∃ b, e = .returned (pt b 0) ∧ w.heap.size ≤ b ∧ Kp non w w' ∧ El w' b 0 EC.B := by
  have k0 : Kp non w (w.alloc (.cells #[.int .u64 0, .int .u64 0, .int .u64 0, .int .u64 0] 91)) := (Kp.refl _ w).alloc _
  have k1 := k0.alloc (.cells (bys bB 32) 5)
  have hb := By.new (w.alloc (.cells #[.int .u64 0, .int .u64 0, .int .u64 0, .int .u64 0] 91)) 5 bB 32 bB_lt
  have hz := ((El.zero w 91).kp ((Kp.refl non _).alloc (.cells (bys bB 32) 5)) fun _ _ h => h).sp
  rw [bB_lit] at k1 hb hz
  rw [size1] at hb
  go_enter Try.func69, Try.ntmps69
  go_wp2_with fail
  refine (c73 (f := bB) hz hb).mono ?_
  clear hz hb
  rintro e w1 ⟨h1, -⟩
  obtain ⟨rfl, hk, he⟩ := h1 bB_val.1
  rw [bB_val.2] at he
  have k2 : Kp non w w1 := k1.trans hk (fun _ _ _ h => h) (fun _ _ hx h => by have := h.1; omega)
  clear h1 k0 k1 hk
  go_wp2_with fail
  go_ret
  exact ⟨_, rfl, Nat.le_refl _, k2, he⟩
theorem MM.pB {S : Nat → Nat → Prop} {w0 w : World} {l : List (Nat × EC.F)} (m : MM S w0 w l) : Calls Try.prog 69 #[] w fun e w' => ∃ b, e = .returned (pt b 0) ∧ MM S w0 w' (l ++ [(b, EC.B)]) :=
  (c69 w).mono fun _ _ ⟨b, e, hb, hk, he⟩ => ⟨b, e, m.join hk hb he⟩
end Go.Proofs.Ytjdjhccefnffmaa
set_option maxRecDepth 100000
set_option maxHeartbeats 4000000
namespace Go.Proofs.Ytjdjhccefnffmaa
open Go LX Go.RowKit
/-- Squared so many times. -/
def sq : Nat → EC.F → EC.F
  | 0, x => x
  | n + 1, x => sq n x * sq n x
theorem c98 {w : World} {q1 q2 p1 p2 n : Nat} {x : EC.F} (hn : 1 ≤ n) (hn2 : n ≤ 1000) (hs : Sp w q1 q2) (hx : El w p1 p2 x) :
    Calls Try.prog 98 #[pt q1 q2, pt p1 p2, .int .i64 (n : Int)] w fun e w' => e = .returned (.tuple #[]) ∧ Kp (at_ q1 q2 4) w w' ∧ El w' q1 q2 (sq n x) := by
  go_enter Try.func98, Try.ntmps98
  go_wp2_with fail
  refine (c66 (p := (q1, q2)) (q := (p1, p2)) hs hx).mono ?_
  rintro e w1 ⟨rfl, hk, he⟩
  simp only [ptr] at *
  go_wp2_with fail
  go_loopw [6] (fun i wr => ∃ k : Nat, 1 ≤ k ∧ k ≤ n ∧ i = .int .i64 (k : Int) ∧ Kp (at_ q1 q2 4) w wr ∧ El wr q1 q2 (sq k x)) (fun i _ => n - (intOf i).toNat)
  case atStart => exact ⟨1, by omega, hn, rfl, hk, he⟩
  case round =>
    obtain ⟨k, hk1, hk2, rfl, hkp, hel⟩ := hrel
    go_wp2_with fail
    · have hlt : k < n := by assumption
      refine (c66 (p := (q1, q2)) (q := (q1, q2)) hel.sp hel).mono ?_
      clear hel
      rintro e w2 ⟨rfl, hk', he'⟩
      simp only [ptr] at *
      have hkp' := hkp.trans hk' (fun _ _ _ h => h) (fun _ _ _ h => h)
      clear hkp hk'
      go_wp2_with fail
      go_roundw
      case rel => exact ⟨k + 1, by omega, by omega, by go_num, hkp', he'⟩
      case measure => simp [intOf]; omega
    · have hkn : k = n := by omega
      subst hkn
      go_end0
      exact ⟨rfl, hkp, hel⟩
end Go.Proofs.Ytjdjhccefnffmaa
