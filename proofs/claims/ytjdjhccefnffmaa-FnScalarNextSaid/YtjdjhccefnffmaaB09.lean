import Derived.Test.YtjdjhccefnffmaaB05
set_option linter.unusedVariables false
set_option linter.unusedSimpArgs false
set_option maxRecDepth 100000
set_option maxHeartbeats 0
namespace Go.Proofs.Ytjdjhccefnffmaa
open Go LX
noncomputable def b105 : Code := match Try.f105.body with | some c => c | none => .skip
def d105 : List (Nat × FnS) := [(106, .cmov (.s .u64 102) (.s .u64 99) (.s .u64 92)), (105, .cmov (.s .u64 102) (.s .u64 97) (.s .u64 90)), (104, .cmov (.s .u64 102) (.s .u64 95) (.s .u64 86)), (103, .cmov (.s .u64 102) (.s .u64 93) (.s .u64 83)), (101, .sublo (.k .u64 0) (.k .u64 0) (.s .u64 100)), (102, .subb (.k .u64 0) (.k .u64 0) (.s .u64 100)), (99, .sublo (.s .u64 92) (.k .u64 18446744069414584321) (.s .u64 98)), (100, .subb (.s .u64 92) (.k .u64 18446744069414584321) (.s .u64 98)), (97, .sublo (.s .u64 90) (.k .u64 0) (.s .u64 96)), (98, .subb (.s .u64 90) (.k .u64 0) (.s .u64 96)), (95, .sublo (.s .u64 86) (.k .u64 4294967295) (.s .u64 94)), (96, .subb (.s .u64 86) (.k .u64 4294967295) (.s .u64 94)), (93, .sublo (.s .u64 83) (.k .u64 18446744073709551615) (.k .u64 0)), (94, .subb (.s .u64 83) (.k .u64 18446744073709551615) (.k .u64 0)), (92, .bin .add .u64 (.s .u64 91) (.s .u64 73)), (90, .addlo (.s .u64 89) (.s .u64 74) (.s .u64 87)), (91, .addc (.s .u64 89) (.s .u64 74) (.s .u64 87)), (89, .bin .add .u64 (.s .u64 72) (.s .u64 88)), (88, .bin .add .u64 (.s .u64 66) (.s .u64 48)), (86, .addlo (.s .u64 71) (.s .u64 85) (.s .u64 84)), (87, .addc (.s .u64 71) (.s .u64 85) (.s .u64 84)), (85, .bin .add .u64 (.s .u64 80) (.s .u64 75)), (83, .addlo (.s .u64 69) (.s .u64 79) (.s .u64 82)), (84, .addc (.s .u64 69) (.s .u64 79) (.s .u64 82)), (81, .addlo (.s .u64 67) (.s .u64 78) (.k .u64 0)), (82, .addc (.s .u64 67) (.s .u64 78) (.k .u64 0)), (79, .addlo (.s .u64 77) (.s .u64 76) (.k .u64 0)), (80, .addc (.s .u64 77) (.s .u64 76) (.k .u64 0)), (77, .mulhi (.s .u64 67) (.k .u64 18446744073709551615)), (78, .mullo (.s .u64 67) (.k .u64 18446744073709551615)), (75, .mulhi (.s .u64 67) (.k .u64 4294967295)), (76, .mullo (.s .u64 67) (.k .u64 4294967295)), (73, .mulhi (.s .u64 67) (.k .u64 18446744069414584321)), (74, .mullo (.s .u64 67) (.k .u64 18446744069414584321)), (71, .addlo (.s .u64 65) (.k .u64 0) (.s .u64 70)), (72, .addc (.s .u64 65) (.k .u64 0) (.s .u64 70)), (69, .addlo (.s .u64 61) (.k .u64 0) (.s .u64 68)), (70, .addc (.s .u64 61) (.k .u64 0) (.s .u64 68)), (67, .addlo (.s .u64 58) (.s .u64 3) (.k .u64 0)), (68, .addc (.s .u64 58) (.s .u64 3) (.k .u64 0)), (65, .addlo (.s .u64 64) (.s .u64 49) (.s .u64 62)), (66, .addc (.s .u64 64) (.s .u64 49) (.s .u64 62)), (64, .bin .add .u64 (.s .u64 47) (.s .u64 63)), (63, .bin .add .u64 (.s .u64 41) (.s .u64 22)), (61, .addlo (.s .u64 46) (.s .u64 60) (.s .u64 59)), (62, .addc (.s .u64 46) (.s .u64 60) (.s .u64 59)), (60, .bin .add .u64 (.s .u64 55) (.s .u64 50)), (58, .addlo (.s .u64 44) (.s .u64 54) (.s .u64 57)), (59, .addc (.s .u64 44) (.s .u64 54) (.s .u64 57)), (56, .addlo (.s .u64 42) (.s .u64 53) (.k .u64 0)), (57, .addc (.s .u64 42) (.s .u64 53) (.k .u64 0)), (54, .addlo (.s .u64 52) (.s .u64 51) (.k .u64 0)), (55, .addc (.s .u64 52) (.s .u64 51) (.k .u64 0)), (52, .mulhi (.s .u64 42) (.k .u64 18446744073709551615)), (53, .mullo (.s .u64 42) (.k .u64 18446744073709551615)), (50, .mulhi (.s .u64 42) (.k .u64 4294967295)), (51, .mullo (.s .u64 42) (.k .u64 4294967295)), (48, .mulhi (.s .u64 42) (.k .u64 18446744069414584321)), (49, .mullo (.s .u64 42) (.k .u64 18446744069414584321)), (46, .addlo (.s .u64 40) (.k .u64 0) (.s .u64 45)), (47, .addc (.s .u64 40) (.k .u64 0) (.s .u64 45)), (44, .addlo (.s .u64 38) (.k .u64 0) (.s .u64 43)), (45, .addc (.s .u64 38) (.k .u64 0) (.s .u64 43)), (42, .addlo (.s .u64 35) (.s .u64 2) (.k .u64 0)), (43, .addc (.s .u64 35) (.s .u64 2) (.k .u64 0)), (40, .addlo (.s .u64 8) (.s .u64 23) (.s .u64 39)), (41, .addc (.s .u64 8) (.s .u64 23) (.s .u64 39)), (38, .addlo (.s .u64 9) (.s .u64 37) (.s .u64 36)), (39, .addc (.s .u64 9) (.s .u64 37) (.s .u64 36)), (37, .bin .add .u64 (.s .u64 29) (.s .u64 24)), (35, .addlo (.s .u64 34) (.s .u64 28) (.s .u64 31)), (36, .addc (.s .u64 34) (.s .u64 28) (.s .u64 31)), (34, .bin .add .u64 (.s .u64 21) (.s .u64 33)), (33, .bin .add .u64 (.s .u64 19) (.s .u64 32)), (32, .bin .add .u64 (.s .u64 15) (.s .u64 10)), (30, .addlo (.s .u64 20) (.s .u64 27) (.k .u64 0)), (31, .addc (.s .u64 20) (.s .u64 27) (.k .u64 0)), (28, .addlo (.s .u64 26) (.s .u64 25) (.k .u64 0)), (29, .addc (.s .u64 26) (.s .u64 25) (.k .u64 0)), (26, .mulhi (.s .u64 20) (.k .u64 18446744073709551615)), (27, .mullo (.s .u64 20) (.k .u64 18446744073709551615)), (24, .mulhi (.s .u64 20) (.k .u64 4294967295)), (25, .mullo (.s .u64 20) (.k .u64 4294967295)), (22, .mulhi (.s .u64 20) (.k .u64 18446744069414584321)), (23, .mullo (.s .u64 20) (.k .u64 18446744069414584321)), (20, .addlo (.s .u64 18) (.s .u64 1) (.k .u64 0)), (21, .addc (.s .u64 18) (.s .u64 1) (.k .u64 0)), (18, .addlo (.k .u64 0) (.s .u64 14) (.s .u64 17)), (19, .addc (.k .u64 0) (.s .u64 14) (.s .u64 17)), (16, .addlo (.s .u64 0) (.s .u64 13) (.k .u64 0)), (17, .addc (.s .u64 0) (.s .u64 13) (.k .u64 0)), (14, .addlo (.s .u64 12) (.s .u64 11) (.k .u64 0)), (15, .addc (.s .u64 12) (.s .u64 11) (.k .u64 0)), (12, .mulhi (.s .u64 0) (.k .u64 18446744073709551615)), (13, .mullo (.s .u64 0) (.k .u64 18446744073709551615)), (10, .mulhi (.s .u64 0) (.k .u64 4294967295)), (11, .mullo (.s .u64 0) (.k .u64 4294967295)), (8, .mulhi (.s .u64 0) (.k .u64 18446744069414584321)), (9, .mullo (.s .u64 0) (.k .u64 18446744069414584321))]
def o105 : List (Option SV) := [some (.s .u64 103), some (.s .u64 104), some (.s .u64 105), some (.s .u64 106)]
theorem run105 : outcome ⟨2, 4, 404⟩ (exec env ⟨2, 4, 404⟩ b105 stIn2) = some (d105, o105) := by kernel_rfl
theorem ord105 : orderly 8 d105 d105 = true := by decide +kernel
theorem sgl105 : single d105 = true := by decide +kernel
theorem lin105 {x0 x1 x2 x3 x8 x9 x10 x11 x12 x13 x14 x15 x16 x17 x18 x19 x20 x21 x22 x23 x24 x25 x26 x27 x28 x29 x30 x31 x32 x33 x34 x35 x36 x37 x38 x39 x40 x41 x42 x43 x44 x45 x46 x47 x48 x49 x50 x51 x52 x53 x54 x55 x56 x57 x58 x59 x60 x61 x62 x63 x64 x65 x66 x67 x68 x69 x70 x71 x72 x73 x74 x75 x76 x77 x78 x79 x80 x81 x82 x83 x84 x85 x86 x87 x88 x89 x90 x91 x92 : Nat} (e8 : 18446744073709551616 * x8 + x9 = 18446744069414584321 * x0) (e10 : 18446744073709551616 * x10 + x11 = 4294967295 * x0) (e12 : 18446744073709551616 * x12 + x13 = 18446744073709551615 * x0) (e14 : x14 + 18446744073709551616 * x15 = x12 + x11 + 0) (e16 : x16 + 18446744073709551616 * x17 = x0 + x13 + 0) (e18 : x18 + 18446744073709551616 * x19 = 0 + x14 + x17) (e20 : x20 + 18446744073709551616 * x21 = x18 + x1 + 0) (e22 : 18446744073709551616 * x22 + x23 = 18446744069414584321 * x20) (e24 : 18446744073709551616 * x24 + x25 = 4294967295 * x20) (e26 : 18446744073709551616 * x26 + x27 = 18446744073709551615 * x20) (e28 : x28 + 18446744073709551616 * x29 = x26 + x25 + 0) (e30 : x30 + 18446744073709551616 * x31 = x20 + x27 + 0) (e32 : x32 = x15 + x10) (e33 : x33 = x19 + x32) (e34 : x34 = x21 + x33) (e35 : x35 + 18446744073709551616 * x36 = x34 + x28 + x31) (e37 : x37 = x29 + x24) (e38 : x38 + 18446744073709551616 * x39 = x9 + x37 + x36) (e40 : x40 + 18446744073709551616 * x41 = x8 + x23 + x39) (e42 : x42 + 18446744073709551616 * x43 = x35 + x2 + 0) (e44 : x44 + 18446744073709551616 * x45 = x38 + 0 + x43) (e46 : x46 + 18446744073709551616 * x47 = x40 + 0 + x45) (e48 : 18446744073709551616 * x48 + x49 = 18446744069414584321 * x42) (e50 : 18446744073709551616 * x50 + x51 = 4294967295 * x42) (e52 : 18446744073709551616 * x52 + x53 = 18446744073709551615 * x42) (e54 : x54 + 18446744073709551616 * x55 = x52 + x51 + 0) (e56 : x56 + 18446744073709551616 * x57 = x42 + x53 + 0) (e58 : x58 + 18446744073709551616 * x59 = x44 + x54 + x57) (e60 : x60 = x55 + x50) (e61 : x61 + 18446744073709551616 * x62 = x46 + x60 + x59) (e63 : x63 = x41 + x22) (e64 : x64 = x47 + x63) (e65 : x65 + 18446744073709551616 * x66 = x64 + x49 + x62) (e67 : x67 + 18446744073709551616 * x68 = x58 + x3 + 0) (e69 : x69 + 18446744073709551616 * x70 = x61 + 0 + x68) (e71 : x71 + 18446744073709551616 * x72 = x65 + 0 + x70) (e73 : 18446744073709551616 * x73 + x74 = 18446744069414584321 * x67) (e75 : 18446744073709551616 * x75 + x76 = 4294967295 * x67) (e77 : 18446744073709551616 * x77 + x78 = 18446744073709551615 * x67) (e79 : x79 + 18446744073709551616 * x80 = x77 + x76 + 0) (e81 : x81 + 18446744073709551616 * x82 = x67 + x78 + 0) (e83 : x83 + 18446744073709551616 * x84 = x69 + x79 + x82) (e85 : x85 = x80 + x75) (e86 : x86 + 18446744073709551616 * x87 = x71 + x85 + x84) (e88 : x88 = x66 + x48) (e89 : x89 = x72 + x88) (e90 : x90 + 18446744073709551616 * x91 = x89 + x74 + x87) (e92 : x92 = x91 + x73) (z16 : x16 = 0) (z30 : x30 = 0) (z56 : x56 = 0) (z81 : x81 = 0)  : 115792089237316195423570985008687907853269984665640564039457584007913129639936 * (1 * x83 + 18446744073709551616 * x86 + 340282366920938463463374607431768211456 * x90 + 6277101735386680763835789423207666416102355444464034512896 * x92 + 115792089237316195423570985008687907853269984665640564039457584007913129639936 * 0) = 1 * (1 * x0) + 18446744073709551616 * (1 * x1) + 340282366920938463463374607431768211456 * (1 * x2) + 6277101735386680763835789423207666416102355444464034512896 * (1 * x3) + 115792089210356248762697446949407573530086143415290314195533631308867097853951 * (1 * x0 + 18446744073709551616 * x20 + 340282366920938463463374607431768211456 * x42 + 6277101735386680763835789423207666416102355444464034512896 * x67) := by omega
theorem ar105 {ρ : Nat → Nat} (hρ : Hold ρ d105) (b0 : ρ 0 ≤ 18446744073709551615) (b1 : ρ 1 ≤ 18446744073709551615) (b2 : ρ 2 ≤ 18446744073709551615) (b3 : ρ 3 ≤ 18446744073709551615) (hA : v4 (ρ 0) (ρ 1) (ρ 2) (ρ 3) < PN) : v4 (ρ 103) (ρ 104) (ρ 105) (ρ 106) < PN ∧ (∃ k l, RN * (v4 (ρ 103) (ρ 104) (ρ 105) (ρ 106)) + PN * l = v4 (ρ 0) (ρ 1) (ρ 2) (ρ 3) * 1 + PN * k) ∧ ρ 103 < two64 ∧ ρ 104 < two64 ∧ ρ 105 < two64 ∧ ρ 106 < two64 := by
  have h106 := hρ.1; replace hρ := hρ.2
  have h105 := hρ.1; replace hρ := hρ.2
  have h104 := hρ.1; replace hρ := hρ.2
  have h103 := hρ.1; replace hρ := hρ.2
  have h101 := hρ.1; replace hρ := hρ.2
  have h102 := hρ.1; replace hρ := hρ.2
  have h99 := hρ.1; replace hρ := hρ.2
  have h100 := hρ.1; replace hρ := hρ.2
  have h97 := hρ.1; replace hρ := hρ.2
  have h98 := hρ.1; replace hρ := hρ.2
  have h95 := hρ.1; replace hρ := hρ.2
  have h96 := hρ.1; replace hρ := hρ.2
  have h93 := hρ.1; replace hρ := hρ.2
  have h94 := hρ.1; replace hρ := hρ.2
  have h92 := hρ.1; replace hρ := hρ.2
  have h90 := hρ.1; replace hρ := hρ.2
  have h91 := hρ.1; replace hρ := hρ.2
  have h89 := hρ.1; replace hρ := hρ.2
  have h88 := hρ.1; replace hρ := hρ.2
  have h86 := hρ.1; replace hρ := hρ.2
  have h87 := hρ.1; replace hρ := hρ.2
  have h85 := hρ.1; replace hρ := hρ.2
  have h83 := hρ.1; replace hρ := hρ.2
  have h84 := hρ.1; replace hρ := hρ.2
  have h81 := hρ.1; replace hρ := hρ.2
  have h82 := hρ.1; replace hρ := hρ.2
  have h79 := hρ.1; replace hρ := hρ.2
  have h80 := hρ.1; replace hρ := hρ.2
  have h77 := hρ.1; replace hρ := hρ.2
  have h78 := hρ.1; replace hρ := hρ.2
  have h75 := hρ.1; replace hρ := hρ.2
  have h76 := hρ.1; replace hρ := hρ.2
  have h73 := hρ.1; replace hρ := hρ.2
  have h74 := hρ.1; replace hρ := hρ.2
  have h71 := hρ.1; replace hρ := hρ.2
  have h72 := hρ.1; replace hρ := hρ.2
  have h69 := hρ.1; replace hρ := hρ.2
  have h70 := hρ.1; replace hρ := hρ.2
  have h67 := hρ.1; replace hρ := hρ.2
  have h68 := hρ.1; replace hρ := hρ.2
  have h65 := hρ.1; replace hρ := hρ.2
  have h66 := hρ.1; replace hρ := hρ.2
  have h64 := hρ.1; replace hρ := hρ.2
  have h63 := hρ.1; replace hρ := hρ.2
  have h61 := hρ.1; replace hρ := hρ.2
  have h62 := hρ.1; replace hρ := hρ.2
  have h60 := hρ.1; replace hρ := hρ.2
  have h58 := hρ.1; replace hρ := hρ.2
  have h59 := hρ.1; replace hρ := hρ.2
  have h56 := hρ.1; replace hρ := hρ.2
  have h57 := hρ.1; replace hρ := hρ.2
  have h54 := hρ.1; replace hρ := hρ.2
  have h55 := hρ.1; replace hρ := hρ.2
  have h52 := hρ.1; replace hρ := hρ.2
  have h53 := hρ.1; replace hρ := hρ.2
  have h50 := hρ.1; replace hρ := hρ.2
  have h51 := hρ.1; replace hρ := hρ.2
  have h48 := hρ.1; replace hρ := hρ.2
  have h49 := hρ.1; replace hρ := hρ.2
  have h46 := hρ.1; replace hρ := hρ.2
  have h47 := hρ.1; replace hρ := hρ.2
  have h44 := hρ.1; replace hρ := hρ.2
  have h45 := hρ.1; replace hρ := hρ.2
  have h42 := hρ.1; replace hρ := hρ.2
  have h43 := hρ.1; replace hρ := hρ.2
  have h40 := hρ.1; replace hρ := hρ.2
  have h41 := hρ.1; replace hρ := hρ.2
  have h38 := hρ.1; replace hρ := hρ.2
  have h39 := hρ.1; replace hρ := hρ.2
  have h37 := hρ.1; replace hρ := hρ.2
  have h35 := hρ.1; replace hρ := hρ.2
  have h36 := hρ.1; replace hρ := hρ.2
  have h34 := hρ.1; replace hρ := hρ.2
  have h33 := hρ.1; replace hρ := hρ.2
  have h32 := hρ.1; replace hρ := hρ.2
  have h30 := hρ.1; replace hρ := hρ.2
  have h31 := hρ.1; replace hρ := hρ.2
  have h28 := hρ.1; replace hρ := hρ.2
  have h29 := hρ.1; replace hρ := hρ.2
  have h26 := hρ.1; replace hρ := hρ.2
  have h27 := hρ.1; replace hρ := hρ.2
  have h24 := hρ.1; replace hρ := hρ.2
  have h25 := hρ.1; replace hρ := hρ.2
  have h22 := hρ.1; replace hρ := hρ.2
  have h23 := hρ.1; replace hρ := hρ.2
  have h20 := hρ.1; replace hρ := hρ.2
  have h21 := hρ.1; replace hρ := hρ.2
  have h18 := hρ.1; replace hρ := hρ.2
  have h19 := hρ.1; replace hρ := hρ.2
  have h16 := hρ.1; replace hρ := hρ.2
  have h17 := hρ.1; replace hρ := hρ.2
  have h14 := hρ.1; replace hρ := hρ.2
  have h15 := hρ.1; replace hρ := hρ.2
  have h12 := hρ.1; replace hρ := hρ.2
  have h13 := hρ.1; replace hρ := hρ.2
  have h10 := hρ.1; replace hρ := hρ.2
  have h11 := hρ.1; replace hρ := hρ.2
  have h8 := hρ.1; replace hρ := hρ.2
  have h9 := hρ.1; replace hρ := hρ.2
  clear hρ
  have e8 : 18446744073709551616 * ρ 8 + ρ 9 = 18446744069414584321 * ρ 0 := mulK h9 h8
  have b8 : ρ 8 ≤ 18446744069414584320 := mulB h8 b0 (Nat.le_refl 18446744069414584321) _ (by decide)
  have b9 : ρ 9 ≤ 18446744073709551615 := loB h9
  have e10 : 18446744073709551616 * ρ 10 + ρ 11 = 4294967295 * ρ 0 := mulK h11 h10
  have b10 : ρ 10 ≤ 4294967294 := mulB h10 b0 (Nat.le_refl 4294967295) _ (by decide)
  have b11 : ρ 11 ≤ 18446744073709551615 := loB h11
  have e12 : 18446744073709551616 * ρ 12 + ρ 13 = 18446744073709551615 * ρ 0 := mulK h13 h12
  have b12 : ρ 12 ≤ 18446744073709551614 := mulB h12 b0 (Nat.le_refl 18446744073709551615) _ (by decide)
  have b13 : ρ 13 ≤ 18446744073709551615 := loB h13
  have e14 : ρ 14 + 18446744073709551616 * ρ 15 = ρ 12 + ρ 11 + 0 := addE h14 h15
  have b14 : ρ 14 ≤ 18446744073709551615 := addB h14
  have b15 : ρ 15 ≤ 1 := addC h15 b12 b11 (Nat.le_refl 0) _ (by decide)
  have e16 : ρ 16 + 18446744073709551616 * ρ 17 = ρ 0 + ρ 13 + 0 := addE h16 h17
  have b16 : ρ 16 ≤ 18446744073709551615 := addB h16
  have b17 : ρ 17 ≤ 1 := addC h17 b0 b13 (Nat.le_refl 0) _ (by decide)
  have z16 : ρ 16 = 0 := lowZ e12 e16 b16
  have e18 : ρ 18 + 18446744073709551616 * ρ 19 = 0 + ρ 14 + ρ 17 := addE h18 h19
  have b18 : ρ 18 ≤ 18446744073709551615 := addB h18
  have b19 : ρ 19 ≤ 1 := addC h19 (Nat.le_refl 0) b14 b17 _ (by decide)
  have e20 : ρ 20 + 18446744073709551616 * ρ 21 = ρ 18 + ρ 1 + 0 := addE h20 h21
  have b20 : ρ 20 ≤ 18446744073709551615 := addB h20
  have b21 : ρ 21 ≤ 1 := addC h21 b18 b1 (Nat.le_refl 0) _ (by decide)
  have e22 : 18446744073709551616 * ρ 22 + ρ 23 = 18446744069414584321 * ρ 20 := mulK h23 h22
  have b22 : ρ 22 ≤ 18446744069414584320 := mulB h22 b20 (Nat.le_refl 18446744069414584321) _ (by decide)
  have b23 : ρ 23 ≤ 18446744073709551615 := loB h23
  have e24 : 18446744073709551616 * ρ 24 + ρ 25 = 4294967295 * ρ 20 := mulK h25 h24
  have b24 : ρ 24 ≤ 4294967294 := mulB h24 b20 (Nat.le_refl 4294967295) _ (by decide)
  have b25 : ρ 25 ≤ 18446744073709551615 := loB h25
  have e26 : 18446744073709551616 * ρ 26 + ρ 27 = 18446744073709551615 * ρ 20 := mulK h27 h26
  have b26 : ρ 26 ≤ 18446744073709551614 := mulB h26 b20 (Nat.le_refl 18446744073709551615) _ (by decide)
  have b27 : ρ 27 ≤ 18446744073709551615 := loB h27
  have e28 : ρ 28 + 18446744073709551616 * ρ 29 = ρ 26 + ρ 25 + 0 := addE h28 h29
  have b28 : ρ 28 ≤ 18446744073709551615 := addB h28
  have b29 : ρ 29 ≤ 1 := addC h29 b26 b25 (Nat.le_refl 0) _ (by decide)
  have e30 : ρ 30 + 18446744073709551616 * ρ 31 = ρ 20 + ρ 27 + 0 := addE h30 h31
  have b30 : ρ 30 ≤ 18446744073709551615 := addB h30
  have b31 : ρ 31 ≤ 1 := addC h31 b20 b27 (Nat.le_refl 0) _ (by decide)
  have z30 : ρ 30 = 0 := lowZ e26 e30 b30
  have e32 : ρ 32 = ρ 15 + ρ 10 := plnE h32 b15 b10 (by decide)
  have b32 : ρ 32 ≤ 4294967295 := plnB e32 b15 b10 _ (by decide)
  have e33 : ρ 33 = ρ 19 + ρ 32 := plnE h33 b19 b32 (by decide)
  have b33 : ρ 33 ≤ 4294967296 := plnB e33 b19 b32 _ (by decide)
  have e34 : ρ 34 = ρ 21 + ρ 33 := plnE h34 b21 b33 (by decide)
  have b34 : ρ 34 ≤ 4294967297 := plnB e34 b21 b33 _ (by decide)
  have e35 : ρ 35 + 18446744073709551616 * ρ 36 = ρ 34 + ρ 28 + ρ 31 := addE h35 h36
  have b35 : ρ 35 ≤ 18446744073709551615 := addB h35
  have b36 : ρ 36 ≤ 1 := addC h36 b34 b28 b31 _ (by decide)
  have e37 : ρ 37 = ρ 29 + ρ 24 := plnE h37 b29 b24 (by decide)
  have b37 : ρ 37 ≤ 4294967295 := plnB e37 b29 b24 _ (by decide)
  have e38 : ρ 38 + 18446744073709551616 * ρ 39 = ρ 9 + ρ 37 + ρ 36 := addE h38 h39
  have b38 : ρ 38 ≤ 18446744073709551615 := addB h38
  have b39 : ρ 39 ≤ 1 := addC h39 b9 b37 b36 _ (by decide)
  have e40 : ρ 40 + 18446744073709551616 * ρ 41 = ρ 8 + ρ 23 + ρ 39 := addE h40 h41
  have b40 : ρ 40 ≤ 18446744073709551615 := addB h40
  have b41 : ρ 41 ≤ 1 := addC h41 b8 b23 b39 _ (by decide)
  have e42 : ρ 42 + 18446744073709551616 * ρ 43 = ρ 35 + ρ 2 + 0 := addE h42 h43
  have b42 : ρ 42 ≤ 18446744073709551615 := addB h42
  have b43 : ρ 43 ≤ 1 := addC h43 b35 b2 (Nat.le_refl 0) _ (by decide)
  have e44 : ρ 44 + 18446744073709551616 * ρ 45 = ρ 38 + 0 + ρ 43 := addE h44 h45
  have b44 : ρ 44 ≤ 18446744073709551615 := addB h44
  have b45 : ρ 45 ≤ 1 := addC h45 b38 (Nat.le_refl 0) b43 _ (by decide)
  have e46 : ρ 46 + 18446744073709551616 * ρ 47 = ρ 40 + 0 + ρ 45 := addE h46 h47
  have b46 : ρ 46 ≤ 18446744073709551615 := addB h46
  have b47 : ρ 47 ≤ 1 := addC h47 b40 (Nat.le_refl 0) b45 _ (by decide)
  have e48 : 18446744073709551616 * ρ 48 + ρ 49 = 18446744069414584321 * ρ 42 := mulK h49 h48
  have b48 : ρ 48 ≤ 18446744069414584320 := mulB h48 b42 (Nat.le_refl 18446744069414584321) _ (by decide)
  have b49 : ρ 49 ≤ 18446744073709551615 := loB h49
  have e50 : 18446744073709551616 * ρ 50 + ρ 51 = 4294967295 * ρ 42 := mulK h51 h50
  have b50 : ρ 50 ≤ 4294967294 := mulB h50 b42 (Nat.le_refl 4294967295) _ (by decide)
  have b51 : ρ 51 ≤ 18446744073709551615 := loB h51
  have e52 : 18446744073709551616 * ρ 52 + ρ 53 = 18446744073709551615 * ρ 42 := mulK h53 h52
  have b52 : ρ 52 ≤ 18446744073709551614 := mulB h52 b42 (Nat.le_refl 18446744073709551615) _ (by decide)
  have b53 : ρ 53 ≤ 18446744073709551615 := loB h53
  have e54 : ρ 54 + 18446744073709551616 * ρ 55 = ρ 52 + ρ 51 + 0 := addE h54 h55
  have b54 : ρ 54 ≤ 18446744073709551615 := addB h54
  have b55 : ρ 55 ≤ 1 := addC h55 b52 b51 (Nat.le_refl 0) _ (by decide)
  have e56 : ρ 56 + 18446744073709551616 * ρ 57 = ρ 42 + ρ 53 + 0 := addE h56 h57
  have b56 : ρ 56 ≤ 18446744073709551615 := addB h56
  have b57 : ρ 57 ≤ 1 := addC h57 b42 b53 (Nat.le_refl 0) _ (by decide)
  have z56 : ρ 56 = 0 := lowZ e52 e56 b56
  have e58 : ρ 58 + 18446744073709551616 * ρ 59 = ρ 44 + ρ 54 + ρ 57 := addE h58 h59
  have b58 : ρ 58 ≤ 18446744073709551615 := addB h58
  have b59 : ρ 59 ≤ 1 := addC h59 b44 b54 b57 _ (by decide)
  have e60 : ρ 60 = ρ 55 + ρ 50 := plnE h60 b55 b50 (by decide)
  have b60 : ρ 60 ≤ 4294967295 := plnB e60 b55 b50 _ (by decide)
  have e61 : ρ 61 + 18446744073709551616 * ρ 62 = ρ 46 + ρ 60 + ρ 59 := addE h61 h62
  have b61 : ρ 61 ≤ 18446744073709551615 := addB h61
  have b62 : ρ 62 ≤ 1 := addC h62 b46 b60 b59 _ (by decide)
  have e63 : ρ 63 = ρ 41 + ρ 22 := plnE h63 b41 b22 (by decide)
  have b63 : ρ 63 ≤ 18446744069414584321 := plnB e63 b41 b22 _ (by decide)
  have e64 : ρ 64 = ρ 47 + ρ 63 := plnE h64 b47 b63 (by decide)
  have b64 : ρ 64 ≤ 18446744069414584322 := plnB e64 b47 b63 _ (by decide)
  have e65 : ρ 65 + 18446744073709551616 * ρ 66 = ρ 64 + ρ 49 + ρ 62 := addE h65 h66
  have b65 : ρ 65 ≤ 18446744073709551615 := addB h65
  have b66 : ρ 66 ≤ 1 := addC h66 b64 b49 b62 _ (by decide)
  have e67 : ρ 67 + 18446744073709551616 * ρ 68 = ρ 58 + ρ 3 + 0 := addE h67 h68
  have b67 : ρ 67 ≤ 18446744073709551615 := addB h67
  have b68 : ρ 68 ≤ 1 := addC h68 b58 b3 (Nat.le_refl 0) _ (by decide)
  have e69 : ρ 69 + 18446744073709551616 * ρ 70 = ρ 61 + 0 + ρ 68 := addE h69 h70
  have b69 : ρ 69 ≤ 18446744073709551615 := addB h69
  have b70 : ρ 70 ≤ 1 := addC h70 b61 (Nat.le_refl 0) b68 _ (by decide)
  have e71 : ρ 71 + 18446744073709551616 * ρ 72 = ρ 65 + 0 + ρ 70 := addE h71 h72
  have b71 : ρ 71 ≤ 18446744073709551615 := addB h71
  have b72 : ρ 72 ≤ 1 := addC h72 b65 (Nat.le_refl 0) b70 _ (by decide)
  have e73 : 18446744073709551616 * ρ 73 + ρ 74 = 18446744069414584321 * ρ 67 := mulK h74 h73
  have b73 : ρ 73 ≤ 18446744069414584320 := mulB h73 b67 (Nat.le_refl 18446744069414584321) _ (by decide)
  have b74 : ρ 74 ≤ 18446744073709551615 := loB h74
  have e75 : 18446744073709551616 * ρ 75 + ρ 76 = 4294967295 * ρ 67 := mulK h76 h75
  have b75 : ρ 75 ≤ 4294967294 := mulB h75 b67 (Nat.le_refl 4294967295) _ (by decide)
  have b76 : ρ 76 ≤ 18446744073709551615 := loB h76
  have e77 : 18446744073709551616 * ρ 77 + ρ 78 = 18446744073709551615 * ρ 67 := mulK h78 h77
  have b77 : ρ 77 ≤ 18446744073709551614 := mulB h77 b67 (Nat.le_refl 18446744073709551615) _ (by decide)
  have b78 : ρ 78 ≤ 18446744073709551615 := loB h78
  have e79 : ρ 79 + 18446744073709551616 * ρ 80 = ρ 77 + ρ 76 + 0 := addE h79 h80
  have b79 : ρ 79 ≤ 18446744073709551615 := addB h79
  have b80 : ρ 80 ≤ 1 := addC h80 b77 b76 (Nat.le_refl 0) _ (by decide)
  have e81 : ρ 81 + 18446744073709551616 * ρ 82 = ρ 67 + ρ 78 + 0 := addE h81 h82
  have b81 : ρ 81 ≤ 18446744073709551615 := addB h81
  have b82 : ρ 82 ≤ 1 := addC h82 b67 b78 (Nat.le_refl 0) _ (by decide)
  have z81 : ρ 81 = 0 := lowZ e77 e81 b81
  have e83 : ρ 83 + 18446744073709551616 * ρ 84 = ρ 69 + ρ 79 + ρ 82 := addE h83 h84
  have b83 : ρ 83 ≤ 18446744073709551615 := addB h83
  have b84 : ρ 84 ≤ 1 := addC h84 b69 b79 b82 _ (by decide)
  have e85 : ρ 85 = ρ 80 + ρ 75 := plnE h85 b80 b75 (by decide)
  have b85 : ρ 85 ≤ 4294967295 := plnB e85 b80 b75 _ (by decide)
  have e86 : ρ 86 + 18446744073709551616 * ρ 87 = ρ 71 + ρ 85 + ρ 84 := addE h86 h87
  have b86 : ρ 86 ≤ 18446744073709551615 := addB h86
  have b87 : ρ 87 ≤ 1 := addC h87 b71 b85 b84 _ (by decide)
  have e88 : ρ 88 = ρ 66 + ρ 48 := plnE h88 b66 b48 (by decide)
  have b88 : ρ 88 ≤ 18446744069414584321 := plnB e88 b66 b48 _ (by decide)
  have e89 : ρ 89 = ρ 72 + ρ 88 := plnE h89 b72 b88 (by decide)
  have b89 : ρ 89 ≤ 18446744069414584322 := plnB e89 b72 b88 _ (by decide)
  have e90 : ρ 90 + 18446744073709551616 * ρ 91 = ρ 89 + ρ 74 + ρ 87 := addE h90 h91
  have b90 : ρ 90 ≤ 18446744073709551615 := addB h90
  have b91 : ρ 91 ≤ 1 := addC h91 b89 b74 b87 _ (by decide)
  have e92 : ρ 92 = ρ 91 + ρ 73 := plnE h92 b91 b73 (by decide)
  have b92 : ρ 92 ≤ 18446744069414584321 := plnB e92 b91 b73 _ (by decide)
  have L := lin105  e8 e10 e12 e14 e16 e18 e20 e22 e24 e26 e28 e30 e32 e33 e34 e35 e37 e38 e40 e42 e44 e46 e48 e50 e52 e54 e56 e58 e60 e61 e63 e64 e65 e67 e69 e71 e73 e75 e77 e79 e81 e83 e85 e86 e88 e89 e90 e92 z16 z30 z56 z81 
  have hV : RN * (v4 (ρ 83) (ρ 86) (ρ 90) (ρ 92) + RN * (0)) = v4 (ρ 0) (ρ 1) (ρ 2) (ρ 3) * 1 + PN * v4 (ρ 0) (ρ 20) (ρ 42) (ρ 67) := by
    rw [wt5, wt4, L, v4_fix]
  have hM : v4 (ρ 0) (ρ 20) (ρ 42) (ρ 67) < RN := v4_lt b0 b20 b42 b67
  have hlt := mont_lt hV hA (by decide +kernel) hM
  have hc := csub (a0 := ρ 83) (a1 := ρ 86) (a2 := ρ 90) (a3 := ρ 92) (a4 := 0) (s0 := ρ 93) (t0 := ρ 94) (s1 := ρ 95) (t1 := ρ 96) (s2 := ρ 97) (t2 := ρ 98) (s3 := ρ 99) (t3 := ρ 100) (s4 := ρ 101) (t4 := ρ 102) (r0 := ρ 103) (r1 := ρ 104) (r2 := ρ 105) (r3 := ρ 106) (Nat.le_trans b83 (by decide)) (Nat.le_trans b86 (by decide)) (Nat.le_trans b90 (by decide)) (Nat.le_trans b92 (by decide)) (Nat.zero_le _) h93 h94 h95 h96 h97 h98 h99 h100 h101 h102 h103 h104 h105 h106 hlt
  obtain ⟨g1, g2, g3, g4, g5, g6⟩ := hc
  refine ⟨g1, ?_, g3, g4, g5, g6⟩
  rcases g2 with g2 | g2
  · exact ⟨v4 (ρ 0) (ρ 20) (ρ 42) (ρ 67), 0, by rw [g2, hV, Nat.mul_zero, Nat.add_zero]⟩
  · exact ⟨v4 (ρ 0) (ρ 20) (ρ 42) (ρ 67), RN, by rw [← hV, ← g2, Nat.mul_add, Nat.mul_comm PN RN]⟩
end Go.Proofs.Ytjdjhccefnffmaa
