import Derived.Test.YtjdjhccefnffmaaB02
import Derived.Test.YtjdjhccefnffmaaProg
import Derived.KernelRfl
import Derived.Lib.Mul64
import Derived.Lib.Hide
import Derived.Laws.Bits64b
import Derived.Laws.Externs
set_option linter.unusedVariables false
set_option linter.unusedSimpArgs false
namespace Go.Proofs.Ytjdjhccefnffmaa
open Go Go.Proofs LX Go.RowKit

def env : Env := { arr := [(89, 4), (82, 4), (23, 32), (130, 4)], ints := [(81, .u64), (5, .u8), (143, .u64)], mul := 102, add := 103, sub := 83, cmov := 104 }

namespace Mul64
theorem maskN (a : Nat) (ha : a < 18446744073709551616) : bits .and .u64 (a : Int) 4294967295 = ((a % 4294967296 : Nat) : Int) := by
  have h := bits_and_u64_nat a 4294967295 ha (by omega)
  have e : a &&& 4294967295 = a % 4294967296 := Nat.and_two_pow_sub_one_eq_mod a 32
  rw [e] at h
  exact h
theorem divN (a : Nat) : (a : Int) / 4294967296 = ((a / 4294967296 : Nat) : Int) := by omega
theorem mulN (a b : Nat) : (a : Int) * (b : Int) = ((a * b : Nat) : Int) := (Int.natCast_mul a b).symm
theorem addN (a b : Nat) : (a : Int) + (b : Int) = ((a + b : Nat) : Int) := (Int.natCast_add a b).symm
theorem wrapN (a : Nat) (ha : a < 18446744073709551616) : IntKind.u64.wrap (a : Int) = (a : Int) := by rw [IntKind.wrap_u64]; omega
theorem wrapM (a : Nat) : IntKind.u64.wrap (a : Int) = ((a % 18446744073709551616 : Nat) : Int) := by rw [IntKind.wrap_u64]; omega
end Mul64

set_option maxHeartbeats 1000000 in
theorem mul64_any (x y : Nat) (hx : x < 18446744073709551616) (hy : y < 18446744073709551616) (w : World) :
    Calls Try.prog 102 #[.int .u64 x, .int .u64 y] w fun e w' => e = .returned (.tuple #[.int .u64 ((x * y / 18446744073709551616 : Nat) : Int), .int .u64 ((x * y % 18446744073709551616 : Nat) : Int)]) ∧ w' = w := by
  obtain ⟨bd, bt, bw, hhi⟩ := Lib.mul64_hi x y hx hy
  have ba := Lib.half_mul_le (a := x / 4294967296) (b := y / 4294967296) (by omega) (by omega)
  have bb := Lib.half_mul_le (a := x / 4294967296) (b := y % 4294967296) (by omega) (by omega)
  have bc := Lib.half_mul_le (a := x % 4294967296) (b := y / 4294967296) (by omega) (by omega)
  have ba' : x / 4294967296 * (y / 4294967296) < 18446744073709551616 := by omega
  have bb' : x / 4294967296 * (y % 4294967296) < 18446744073709551616 := by omega
  have bc' : x % 4294967296 * (y / 4294967296) < 18446744073709551616 := by omega
  have bh1 : x / 4294967296 * (y / 4294967296) + (x / 4294967296 * (y % 4294967296) + x % 4294967296 * (y % 4294967296) / 4294967296) / 4294967296 < 18446744073709551616 := by omega
  have bh : x / 4294967296 * (y / 4294967296) + (x / 4294967296 * (y % 4294967296) + x % 4294967296 * (y % 4294967296) / 4294967296) / 4294967296 + ((x / 4294967296 * (y % 4294967296) + x % 4294967296 * (y % 4294967296) / 4294967296) % 4294967296 + x % 4294967296 * (y / 4294967296)) / 4294967296 < 18446744073709551616 := by omega
  go_enter Try.func102, Try.ntmps102
  go_wp2
  simp only [Mul64.maskN x hx, Mul64.maskN y hy, Mul64.divN, Mul64.mulN, Mul64.addN, Mul64.wrapN _ bd, Mul64.wrapN _ bb', Mul64.wrapN _ bt, Mul64.maskN _ bt, Mul64.wrapN _ bc', Mul64.wrapN _ bw, Mul64.wrapN _ ba', Mul64.wrapN _ bh1, Mul64.wrapN _ bh, Mul64.wrapM (x * y)]
  rw [hhi]
  go_ret2
  exact ⟨rfl, rfl⟩

theorem add64_run (x y c : Nat) (w : World) (hc : c ≤ 1) : (callFunc 103 #[.int .u64 (x : Int), .int .u64 (y : Int), .int .u64 (c : Int)]).run Try.prog w =
      .ok (.value (.tuple #[.int .u64 (((x + y + c) % two64 : Nat) : Int), .int .u64 (((x + y + c) / two64 : Nat) : Int)])) w := by
  rw [run_callFunc_extern Try.func103 (by kernel_rfl) (by kernel_rfl) (by kernel_rfl) (e := add64Entry) (by kernel_rfl), run_add64 x y c (by omega) (by omega) (by omega) (by omega)]
  simp only [Result.andThen, two64]
  congr 5 <;> omega

/-- What the model has for math/bits.Sub64. -/
def subEntry : Array Value → Sem Value := fun args => do
  let (x, y, b) ← Extern.MathBitsCarry.three "Sub64" args
  pure (Extern.MathBitsCarry.pair ((x + Extern.MathBitsCarry.m64 - y - b) % Extern.MathBitsCarry.m64) (if x < y + b then 1 else 0))

theorem run_subEntry (x y b : Nat) (hb : b ≤ 1) (w : World) :
    (subEntry #[.int .u64 x, .int .u64 y, .int .u64 b]).run Try.prog w =
      .ok (.tuple #[.int .u64 (((x + 18446744073709551616 - y - b) % 18446744073709551616 : Nat) : Int), .int .u64 ((if x < y + b then 1 else 0 : Nat) : Int)]) w := by
  have : b = 0 ∨ b = 1 := by omega
  rcases this with rfl | rfl <;> rfl

theorem sub64_run (x y c : Nat) (w : World) (hc : c ≤ 1) : (callFunc 83 #[.int .u64 (x : Int), .int .u64 (y : Int), .int .u64 (c : Int)]).run Try.prog w =
      .ok (.value (.tuple #[.int .u64 (((x + two64 - y - c) % two64 : Nat) : Int), .int .u64 ((if x < y + c then 1 else 0 : Nat) : Int)])) w := by
  rw [run_callFunc_extern Try.func83 (by kernel_rfl) (by kernel_rfl) (by kernel_rfl) (e := subEntry) (by kernel_rfl), run_subEntry x y c hc]
  rfl

theorem enters {f : FuncId} {fn : Func} (hf : Try.prog.funcs[f]? = some fn) (h1 : (fn.name == "runtime.NumGoroutine") = false) (h2 : fn.body.isNone = false) (args : Array Value) (w : World) :
    (callFunc f args).run Try.prog w = .ok (.enter f args) w := by
  have h1' : fn.name ≠ "runtime.NumGoroutine" := by simpa using h1
  have h2' : fn.body ≠ none := by intro h; rw [h] at h2; cases h2
  simp [callFunc, hf, h1', h2']

theorem and_all (x : Nat) (hx : x < 18446744073709551616) : 18446744073709551615 &&& x = x := by
  rw [Nat.and_comm]
  have := Nat.and_two_pow_sub_one_eq_mod x 64
  rw [show (2 : Nat) ^ 64 - 1 = 18446744073709551615 from rfl] at this
  rw [this, Nat.mod_eq_of_lt hx]

theorem cmov_any (b o c x y : Nat) (v : Value) (w : World) (hv : Cel w b o v) (hc : c ≤ 1) (hx : x < two64) (hy : y < two64) :
    Calls Try.prog 104 #[.pointer (some ⟨b, o, none⟩), .int .u64 (c : Int), .int .u64 (x : Int), .int .u64 (y : Int)] w fun e w' =>
      e = .returned (.tuple #[]) ∧ w' = w.setCell ⟨b, o, none⟩ (.int .u64 ((if c = 0 then x else y : Nat) : Int)) := by
  unfold two64 at hx hy
  obtain ⟨h0, h1⟩ := hv
  have hc' : c = 0 ∨ c = 1 := by omega
  have e1 : bits .and .u64 18446744073709551615 (x : Int) = (x : Int) := by
    have := bits_and_u64_nat 18446744073709551615 x (by omega) hx
    rw [and_all x hx] at this; exact this
  have e2 : bits .and .u64 18446744073709551615 (y : Int) = (y : Int) := by
    have := bits_and_u64_nat 18446744073709551615 y (by omega) hy
    rw [and_all y hy] at this; exact this
  have e3 : bits .and .u64 0 (x : Int) = 0 := by
    have := bits_and_u64_nat 0 x (by omega) hx
    rw [Nat.zero_and] at this; exact this
  have e4 : bits .and .u64 0 (y : Int) = 0 := by
    have := bits_and_u64_nat 0 y (by omega) hy
    rw [Nat.zero_and] at this; exact this
  have e5 : bits .or .u64 0 (x : Int) = (x : Int) := by
    have := bits_or_u64_nat 0 x (by omega) hx
    rw [Nat.zero_or] at this; exact this
  have e6 : bits .or .u64 (y : Int) 0 = (y : Int) := by
    have := bits_or_u64_nat y 0 hy (by omega)
    rw [Nat.or_zero] at this; exact this
  have n0 : bits .xor .u64 IntKind.u64.max 0 = 18446744073709551615 := by decide +kernel
  have n1 : bits .xor .u64 IntKind.u64.max 18446744073709551615 = 0 := by decide +kernel
  have hs : IntKind.u64.signed = false := rfl
  rcases hc' with rfl | rfl
  · have fin : bits .or .u64 (bits .and .u64 0 (y : Int)) (bits .and .u64 (bits .xor .u64 IntKind.u64.max 0) (x : Int)) = (x : Int) := by rw [n0, e1, e4, e5]
    clear e1 e2 e3 e4 e5 e6 n0 n1
    have F := Lib.hid fin
    clear fin
    go_enter Try.func104, Try.ntmps104
    go_wp2
    go_end0
    rw [F.out]
    exact ⟨rfl, rfl⟩
  · have fin : bits .or .u64 (bits .and .u64 18446744073709551615 (y : Int)) (bits .and .u64 (bits .xor .u64 IntKind.u64.max 18446744073709551615) (x : Int)) = (y : Int) := by rw [n1, e2, e3, e6]
    clear e1 e2 e3 e4 e5 e6 n0 n1
    have F := Lib.hid fin
    clear fin
    go_enter Try.func104, Try.ntmps104
    go_wp2
    go_end0
    rw [F.out]
    exact ⟨rfl, rfl⟩

theorem env_holds : env.Holds Try.prog where
  wide := by kernel_rfl
  arr t n h := by
    simp only [env, lkN_cons] at h
    split at h
    · rename_i e; subst e; cases h; exact ⟨81, by kernel_rfl, by kernel_rfl⟩
    · split at h
      · rename_i e; subst e; cases h; exact ⟨81, by kernel_rfl, by kernel_rfl⟩
      · split at h
        · rename_i e; subst e; cases h; exact ⟨5, by kernel_rfl, by kernel_rfl⟩
        · split at h
          · rename_i e; subst e; cases h; exact ⟨81, by kernel_rfl, by kernel_rfl⟩
          · cases h
  ints t k h := by
    simp only [env, lkN_cons] at h
    split at h
    · rename_i e; subst e; cases h; exact ⟨by kernel_rfl, by kernel_rfl⟩
    · split at h
      · rename_i e; subst e; cases h; exact ⟨by kernel_rfl, by kernel_rfl⟩
      · split at h
        · rename_i e; subst e; cases h; exact ⟨by kernel_rfl, by kernel_rfl⟩
        · cases h
  mul := ⟨fun x y w => enters Try.func102 (by kernel_rfl) (by kernel_rfl) _ w, fun x y w hx hy => mul64_any x y hx hy w⟩
  add x y c w hc := add64_run x y c w hc
  sub x y c w hc := sub64_run x y c w hc
  cmov := ⟨fun v c x y w => enters Try.func104 (by kernel_rfl) (by kernel_rfl) _ w, fun b o c x y v w hv hc hx hy => cmov_any b o c x y v w hv hc hx hy⟩
end Go.Proofs.Ytjdjhccefnffmaa
namespace Go.Proofs.Ytjdjhccefnffmaa
namespace EC
/-- a to the power of e, modulo m, by squaring; k bounds the bits of e. -/
def powm (m : Nat) : Nat → Nat → Nat → Nat
  | 0, _, _ => 1 % m
  | k + 1, a, e => if e % 2 = 1 then a * powm m k (a * a % m) (e / 2) % m else powm m k (a * a % m) (e / 2)

theorem powm_eq (m k : Nat) : ∀ a e, e < 2 ^ k → powm m k a e = a ^ e % m := by
  induction k with
  | zero => intro a e he; have : e = 0 := by simpa using he
            subst this; rfl
  | succ k ih =>
    intro a e he
    have h2 : e / 2 < 2 ^ k := by rw [Nat.pow_succ] at he; omega
    unfold powm
    rw [ih (a * a % m) (e / 2) h2, ← Nat.pow_mod, ← Nat.pow_two, ← Nat.pow_mul]
    have he2 := Nat.div_add_mod e 2
    split
    · rename_i h1
      rw [Nat.mul_mod_mod, ← Nat.pow_succ']
      congr 2; omega
    · congr 2; omega

/-- Pascal's numbers. -/
def ch : Nat → Nat → Nat
  | _, 0 => 1
  | 0, _ + 1 => 0
  | n + 1, k + 1 => ch n k + ch n (k + 1)

theorem ch_gt : ∀ n k, n < k → ch n k = 0 := by
  intro n
  induction n with
  | zero => intro k hk; cases k with | zero => omega | succ k => rfl
  | succ n ih => intro k hk; cases k with
    | zero => omega
    | succ k => unfold ch; rw [ih k (by omega), ih (k + 1) (by omega)]

theorem ch_self : ∀ n, ch n n = 1 := by
  intro n; induction n with
  | zero => rfl
  | succ n ih => unfold ch; rw [ih, ch_gt n (n + 1) (by omega)]

theorem ch_mul : ∀ n k, (k + 1) * ch (n + 1) (k + 1) = (n + 1) * ch n k := by
  intro n
  induction n with
  | zero => intro k; cases k with
    | zero => rfl
    | succ k => simp [ch]
  | succ n ih =>
    intro k
    cases k with
    | zero =>
      have h0 := ih 0
      have e1 : ch (n + 1 + 1) (0 + 1) = ch (n + 1) 0 + ch (n + 1) (0 + 1) := rfl
      have e2 : ch (n + 1) 0 = 1 := by cases n <;> rfl
      have e3 : ch n 0 = 1 := by cases n <;> rfl
      rw [e1, e2]; rw [e3] at h0; omega
    | succ k =>
      have h1 := ih (k + 1)
      have h2 := ih k
      have e1 : ch (n + 1 + 1) (k + 1 + 1) = ch (n + 1) (k + 1) + ch (n + 1) (k + 1 + 1) := rfl
      have e2 : ch (n + 1) (k + 1) = ch n k + ch n (k + 1) := rfl
      rw [e1, Nat.mul_add, h1, Nat.add_mul, h2, e2, Nat.one_mul, ← e2, e2]
      simp only [Nat.mul_add, Nat.add_mul, Nat.one_mul]; omega

/-- The sum of the first m terms of (a + 1)^n. -/
def bin (n a : Nat) : Nat → Nat
  | 0 => 0
  | m + 1 => bin n a m + ch n m * a ^ m

theorem bin_succ (n a : Nat) : ∀ m, bin (n + 1) a (m + 1) = a * bin n a m + bin n a (m + 1) := by
  intro m
  induction m with
  | zero => simp [bin]; cases n <;> rfl
  | succ m ih =>
    have e1 : bin (n + 1) a (m + 1 + 1) = bin (n + 1) a (m + 1) + ch (n + 1) (m + 1) * a ^ (m + 1) := rfl
    have e2 : bin n a (m + 1 + 1) = bin n a (m + 1) + ch n (m + 1) * a ^ (m + 1) := rfl
    have e3 : bin n a (m + 1) = bin n a m + ch n m * a ^ m := rfl
    have e4 : ch (n + 1) (m + 1) = ch n m + ch n (m + 1) := rfl
    have e5 : a * (ch n m * a ^ m) = ch n m * a ^ (m + 1) := by rw [Nat.pow_succ, Nat.mul_left_comm, Nat.mul_comm a]
    have e6 : a * bin n a (m + 1) = a * bin n a m + ch n m * a ^ (m + 1) := by rw [e3, Nat.mul_add, e5]
    rw [e1, ih, e4, Nat.add_mul, e2, e6]; omega

theorem bin_pow (a n : Nat) : ∀ m, n < m → bin n a m = (a + 1) ^ n := by
  induction n with
  | zero =>
    intro m hm
    induction m with
    | zero => omega
    | succ m ih => cases m with
      | zero => simp [bin, ch]
      | succ m => have := ih (by omega); simp only [bin] at this ⊢; rw [this]; simp [ch]
  | succ n ih =>
    intro m hm
    cases m with
    | zero => omega
    | succ m => rw [bin_succ, ih m (by omega), ih (m + 1) (by omega), Nat.pow_succ, Nat.mul_add, Nat.mul_one, Nat.mul_comm]

/-- A prime number: at least 2, and it divides a factor of each product that it divides. -/
def Pr (p : Nat) : Prop := 2 ≤ p ∧ ∀ a b, p ∣ a * b → p ∣ a ∨ p ∣ b

theorem Pr.ch {p : Nat} (hp : Pr p) (k : Nat) (h0 : 0 < k) (hk : k < p) : p ∣ ch p k := by
  obtain ⟨n, rfl⟩ : ∃ n, p = n + 1 := ⟨p - 1, by omega⟩
  obtain ⟨j, rfl⟩ : ∃ j, k = j + 1 := ⟨k - 1, by omega⟩
  have h := ch_mul n j
  have hd : n + 1 ∣ (j + 1) * EC.ch (n + 1) (j + 1) := ⟨_, h⟩
  rcases hp.2 _ _ hd with h | h
  · have := Nat.le_of_dvd (by omega) h; omega
  · exact h

theorem Pr.bin {p : Nat} (hp : Pr p) (a : Nat) : ∀ m, m < p → ∃ q, bin p a (m + 1) = 1 + p * q := by
  intro m
  induction m with
  | zero => intro _; refine ⟨0, ?_⟩; simp [EC.bin]; cases p <;> rfl
  | succ m ih =>
    intro hm
    obtain ⟨q, hq⟩ := ih (by omega)
    obtain ⟨c, hc⟩ := hp.ch (m + 1) (by omega) hm
    refine ⟨q + c * a ^ (m + 1), ?_⟩
    have e : EC.bin p a (m + 1 + 1) = EC.bin p a (m + 1) + EC.ch p (m + 1) * a ^ (m + 1) := rfl
    rw [e, hq, hc, Nat.mul_add, Nat.mul_assoc]; omega

theorem Pr.step {p : Nat} (hp : Pr p) (a : Nat) : (a + 1) ^ p % p = (a ^ p + 1) % p := by
  obtain ⟨q, hq⟩ := hp.bin a (p - 1) (by have := hp.1; omega)
  have e : p - 1 + 1 = p := by have := hp.1; omega
  rw [e] at hq
  have e2 : EC.bin p a (p + 1) = EC.bin p a p + EC.ch p p * a ^ p := rfl
  rw [← bin_pow a p (p + 1) (by omega), e2, hq, ch_self, Nat.one_mul]
  have : 1 + p * q + a ^ p = a ^ p + 1 + p * q := by omega
  rw [this, Nat.add_mul_mod_self_left]

theorem Pr.fermat {p : Nat} (hp : Pr p) (a : Nat) : a ^ p % p = a % p := by
  induction a with
  | zero => rw [Nat.zero_pow (by have := hp.1; omega)]
  | succ a ih => rw [hp.step, Nat.add_mod, ih, ← Nat.add_mod]

theorem mod_one_of_dvd {p x : Nat} (hp : 2 ≤ p) (hx : 1 ≤ x) (h : p ∣ x - 1) : x % p = 1 := by
  obtain ⟨c, hc⟩ := h
  have : x = 1 + p * c := by omega
  rw [this, Nat.add_mul_mod_self_left, Nat.mod_eq_of_lt (by omega)]

theorem dvd_of_mod_one {p x : Nat} (hp : 2 ≤ p) (h : x % p = 1) : p ∣ x - 1 :=
  Nat.dvd_of_mod_eq_zero (Nat.sub_mod_eq_zero_of_mod_eq (by rw [h, Nat.mod_eq_of_lt (by omega)]))

/-- Fermat's theorem: a to the power of p - 1 is 1. -/
theorem Pr.unit {p : Nat} (hp : Pr p) (a : Nat) (ha : ¬ p ∣ a) : a ^ (p - 1) % p = 1 := by
  have h := hp.fermat a
  have h2 := hp.1
  have ha0 : 0 < a := by rcases Nat.eq_zero_or_pos a with h | h; exact absurd (h ▸ Nat.dvd_zero p) ha; exact h
  have e : a ^ p = a * a ^ (p - 1) := by
    obtain ⟨n, rfl⟩ : ∃ n, p = n + 1 := ⟨p - 1, by omega⟩
    rw [Nat.pow_succ, Nat.mul_comm]; rfl
  have h1 : 1 ≤ a ^ (p - 1) := Nat.pow_pos ha0
  have hd : p ∣ a * (a ^ (p - 1) - 1) := by
    rw [Nat.mul_sub, ← e, Nat.mul_one]
    exact Nat.dvd_of_mod_eq_zero (Nat.sub_mod_eq_zero_of_mod_eq h)
  rcases hp.2 _ _ hd with h | h
  · exact absurd h ha
  · exact mod_one_of_dvd h2 h1 h

theorem pow_mul_one {r a x : Nat} (hr : 2 ≤ r) (h : a ^ x % r = 1) (k : Nat) : a ^ (x * k) % r = 1 := by
  rw [Nat.pow_mul, Nat.pow_mod, h, Nat.one_pow, Nat.mod_eq_of_lt (by omega)]

theorem pow_gcd {r a : Nat} (hr : 2 ≤ r) (x y : Nat) : a ^ x % r = 1 → a ^ y % r = 1 → a ^ Nat.gcd x y % r = 1 := by
  induction x, y using Nat.gcd.induction with
  | H0 n => intro _ h; rwa [Nat.gcd_zero_left]
  | H1 m n hm ih =>
    intro h1 h2
    rw [Nat.gcd_rec]
    refine ih ?_ h1
    have e := Nat.div_add_mod n m
    rw [← e, Nat.pow_add, Nat.mul_mod, pow_mul_one hr h1, Nat.one_mul, Nat.mod_mod] at h2
    exact h2

/-- Nothing but 1 and itself divides a prime. -/
theorem Pr.of_div {p : Nat} (h2 : 2 ≤ p) (h : ∀ d, d ∣ p → d = 1 ∨ d = p) : Pr p := by
  refine ⟨h2, fun a b hab => ?_⟩
  rcases h (Nat.gcd p a) (Nat.gcd_dvd_left p a) with hg | hg
  · exact .inr (Nat.Coprime.dvd_of_dvd_mul_left hg hab)
  · exact .inl (hg ▸ Nat.gcd_dvd_right p a)

theorem Pr.div {p d : Nat} (hp : Pr p) (h : d ∣ p) : d = 1 ∨ d = p := by
  obtain ⟨c, hc⟩ := h
  have h2 := hp.1
  rcases hp.2 d c ⟨1, by rw [Nat.mul_one]; exact hc.symm⟩ with h | h
  · exact .inr (Nat.dvd_antisymm ⟨c, hc⟩ h)
  · left
    have : c = p := Nat.dvd_antisymm ⟨d, by rw [Nat.mul_comm]; exact hc⟩ h
    rw [this] at hc
    exact Nat.eq_of_mul_eq_mul_right (by omega : 0 < p) (by omega)

theorem least_div (n : Nat) : ∀ k, (∀ d, 2 ≤ d → d < k → ¬ d ∣ n) ∨ ∃ r, 2 ≤ r ∧ r ∣ n ∧ ∀ d, 2 ≤ d → d < r → ¬ d ∣ n := by
  intro k
  induction k with
  | zero => left; intro d _ h; omega
  | succ k ih =>
    rcases ih with h | h
    · by_cases hk : 2 ≤ k ∧ k ∣ n
      · exact .inr ⟨k, hk.1, hk.2, h⟩
      · left
        intro d h2 hd hdn
        rcases Nat.lt_or_ge d k with h' | h'
        · exact h d h2 h' hdn
        · have : d = k := by omega
          exact hk ⟨this ▸ h2, this ▸ hdn⟩
    · exact .inr h

/-- A number from 2 on has a prime in it, which is itself or whose square is no more. -/
theorem prime_in (n : Nat) (hn : 2 ≤ n) : ∃ r, Pr r ∧ r ∣ n ∧ (r = n ∨ r * r ≤ n) := by
  rcases least_div n (n + 1) with h | ⟨r, h2, hr, hl⟩
  · exact absurd (Nat.dvd_refl n) (h n hn (by omega))
  · have hp : Pr r := Pr.of_div h2 fun d hd => by
      rcases Nat.lt_or_ge d 2 with h | h
      · left
        rcases Nat.eq_zero_or_pos d with h0 | h0
        · subst h0; have := Nat.eq_zero_of_zero_dvd hd; omega
        · omega
      · right
        have := Nat.le_of_dvd (by omega) hd
        rcases Nat.lt_or_ge d r with h' | h'
        · exact absurd (Nat.dvd_trans hd hr) (hl d h h')
        · omega
    refine ⟨r, hp, hr, ?_⟩
    obtain ⟨c, hc⟩ := hr
    rcases Nat.lt_or_ge c 2 with h | h
    · left
      have : c = 1 := by
        rcases Nat.eq_zero_or_pos c with h0 | h0
        · subst h0; omega
        · omega
      subst this; omega
    · right
      rcases Nat.lt_or_ge c r with h' | h'
      · exact absurd ⟨r, by rw [Nat.mul_comm]; exact hc⟩ (hl c h h')
      · rw [hc]; exact Nat.mul_le_mul_left r h'

/-- Pocklington's law: what a prime in N must meet, if a to the power of N - 1 is 1 and of (N - 1) / q it is not. -/
theorem pock {N q m a : Nat} (k : Nat) (hN : 2 ≤ N) (hq : Pr q) (hm : N - 1 = q * m) (hk : N < 2 ^ k) (h1 : powm N k a (N - 1) = 1)
    (h2 : Nat.gcd (powm N k a m + N - 1) N = 1) : ∀ r, Pr r → r ∣ N → q ∣ r - 1 := by
  intro r hr hrN
  have hq1 := hq.1
  have hml : m ≤ N - 1 := by rw [hm]; exact Nat.le_mul_of_pos_left m (by omega)
  rw [powm_eq N k a (N - 1) (by omega)] at h1
  rw [powm_eq N k a m (by omega)] at h2
  have hr2 := hr.1
  have hra : ¬ r ∣ a := by
    intro h
    have h3 : a ^ (N - 1) % r = 1 := by
      have := congrArg (· % r) h1
      simp only [Nat.mod_mod_of_dvd _ hrN] at this
      rw [this, Nat.mod_eq_of_lt (by omega)]
    have h4 : r ∣ a ^ (N - 1) := by
      obtain ⟨n, hn⟩ : ∃ n, N - 1 = n + 1 := ⟨N - 2, by omega⟩
      rw [hn, Nat.pow_succ]; exact Nat.dvd_trans h (Nat.dvd_mul_left _ _)
    rw [Nat.mod_eq_zero_of_dvd h4] at h3
    omega
  have e1 : a ^ (N - 1) % r = 1 := by
    have := congrArg (· % r) h1
    simp only [Nat.mod_mod_of_dvd _ hrN] at this
    rw [this, Nat.mod_eq_of_lt (by omega)]
  have e2 := hr.unit a hra
  have e3 := pow_gcd hr2 (r - 1) (N - 1) e2 e1
  by_cases hc : q ∣ r - 1
  · exact hc
  · exfalso
    have hcop : Nat.Coprime q (r - 1) := by
      rcases hq.div (Nat.gcd_dvd_left q (r - 1)) with h | h
      · exact h
      · exact absurd (h ▸ Nat.gcd_dvd_right q (r - 1)) hc
    have hg : Nat.gcd (r - 1) (N - 1) ∣ m := by
      rw [hm]
      have hd := Nat.gcd_dvd_right (r - 1) (q * m)
      refine Nat.Coprime.dvd_of_dvd_mul_left ?_ hd
      exact Nat.Coprime.coprime_dvd_left (Nat.gcd_dvd_left _ _) hcop.symm
    obtain ⟨c, hc⟩ := hg
    have e4 : a ^ m % r = 1 := by rw [hc]; exact pow_mul_one hr2 e3 c
    have e5 : r ∣ a ^ m % N + N - 1 := by
      have : (a ^ m % N + N) % r = 1 := by
        rw [Nat.add_mod, Nat.mod_mod_of_dvd _ hrN, e4, Nat.mod_eq_zero_of_dvd hrN, Nat.add_zero, Nat.mod_eq_of_lt (by omega)]
      exact dvd_of_mod_one hr2 this
    have := Nat.dvd_gcd e5 hrN
    rw [h2] at this
    have := Nat.le_of_dvd (by omega) this
    omega

/-- N is prime, if each prime in it is greater than s, and N is less than (s + 1)^2. -/
theorem Pr.of_great {N : Nat} (s : Nat) (hN : 2 ≤ N) (h : ∀ r, Pr r → r ∣ N → s < r) (hs : N < (s + 1) * (s + 1)) : Pr N := by
  obtain ⟨r, hr, hrN, h1 | h1⟩ := prime_in N hN
  · exact h1 ▸ hr
  · have := h r hr hrN
    have := Nat.mul_le_mul this this
    simp only [Nat.succ_eq_add_one] at this
    omega

theorem Pr.of_pock {N q m a : Nat} (k : Nat) (hN : 2 ≤ N) (hq : Pr q) (hm : N - 1 = q * m) (hk : N < 2 ^ k) (h1 : powm N k a (N - 1) = 1)
    (h2 : Nat.gcd (powm N k a m + N - 1) N = 1) (hs : N < (q + 1) * (q + 1)) : Pr N :=
  Pr.of_great q hN (fun r hr hrN => by
    have h := pock k hN hq hm hk h1 h2 r hr hrN
    have h2 := hr.1
    have := Nat.le_of_dvd (by omega) h
    omega) hs

theorem Pr.of_pock2 {N q m a q' m' a' : Nat} (k : Nat) (hN : 2 ≤ N) (hq : Pr q) (hm : N - 1 = q * m) (hk : N < 2 ^ k) (h1 : powm N k a (N - 1) = 1)
    (h2 : Nat.gcd (powm N k a m + N - 1) N = 1) (hq' : Pr q') (hm' : N - 1 = q' * m') (h1' : powm N k a' (N - 1) = 1)
    (h2' : Nat.gcd (powm N k a' m' + N - 1) N = 1) (hne : Nat.gcd q q' = 1) (hs : N < (q * q' + 1) * (q * q' + 1)) : Pr N :=
  Pr.of_great (q * q') hN (fun r hr hrN => by
    have h := pock k hN hq hm hk h1 h2 r hr hrN
    have h' := pock k hN hq' hm' hk h1' h2' r hr hrN
    have h2 := hr.1
    have := Nat.le_of_dvd (by omega) (Nat.Coprime.mul_dvd_of_dvd_of_dvd hne h h')
    omega) hs

/-- Does none of d, d + 1, .. (f of them) divide n? -/
def clear (n : Nat) : Nat → Nat → Bool
  | 0, _ => true
  | f + 1, d => n % d != 0 && clear n f (d + 1)

theorem clear_spec (n : Nat) : ∀ f d, clear n f d = true → ∀ e, d ≤ e → e < d + f → ¬ e ∣ n := by
  intro f
  induction f with
  | zero => intro d _ e h1 h2; omega
  | succ f ih =>
    intro d h e h1 h2 hd
    simp only [clear, Bool.and_eq_true, bne_iff_ne, ne_eq] at h
    rcases Nat.lt_or_ge d e with h' | h'
    · exact ih (d + 1) h.2 e h' (by omega) hd
    · have : e = d := by omega
      subst this
      exact h.1 (Nat.mod_eq_zero_of_dvd hd)

theorem Pr.of_clear {N : Nat} (s : Nat) (hN : 2 ≤ N) (h : clear N s 2 = true) (hs : N < (s + 2) * (s + 2)) : Pr N :=
  Pr.of_great (s + 1) hN (fun r hr hrN => by
    rcases Nat.lt_or_ge (s + 1) r with h' | h'
    · exact h'
    · exact absurd hrN (clear_spec N s 2 h r hr.1 (by omega))) hs

theorem pr20_5 : Pr 704251 := Pr.of_clear 838 (by decide) (by decide +kernel) (by decide)
theorem pr17_6 : Pr 78283 := Pr.of_clear 278 (by decide) (by decide +kernel) (by decide)
theorem pr56_4 : Pr 46076956964474543 := Pr.of_pock2 (q := 704251) (m := 65426896042) (a := 2) (q' := 78283) (m' := 588594675274) (a' := 2) 56 (by decide) pr20_5 (by decide) (by decide) (by decide +kernel) (by decide +kernel) pr17_6 (by decide) (by decide +kernel) (by decide +kernel) (by decide) (by decide)
theorem pr12_9 : Pr 3677 := Pr.of_clear 59 (by decide) (by decide +kernel) (by decide)
theorem pr8_10 : Pr 197 := Pr.of_clear 13 (by decide) (by decide +kernel) (by decide)
theorem pr36_8 : Pr 66417393611 := Pr.of_pock2 (q := 3677) (m := 18062930) (a := 2) (q' := 197) (m' := 337144130) (a' := 2) 36 (by decide) pr12_9 (by decide) (by decide) (by decide +kernel) (by decide +kernel) pr8_10 (by decide) (by decide +kernel) (by decide +kernel) (by decide) (by decide)
theorem pr44_7 : Pr 11290956913871 := Pr.of_pock (q := 66417393611) (m := 170) (a := 2) 44 (by decide) pr36_8 (by decide) (by decide) (by decide +kernel) (by decide +kernel) (by decide)
theorem pr150_3 : Pr 774023187263532362759620327192479577272145303 := Pr.of_pock2 (q := 46076956964474543) (m := 16798487535978261528513091914) (a := 2) (q' := 11290956913871) (m' := 68552487904071337216976429044362) (a' := 2) 150 (by decide) pr56_4 (by decide) (by decide) (by decide +kernel) (by decide +kernel) pr44_7 (by decide) (by decide +kernel) (by decide +kernel) (by decide) (by decide)
theorem pr160_2 : Pr 835945042244614951780389953367877943453916927241 := Pr.of_pock (q := 774023187263532362759620327192479577272145303) (m := 1080) (a := 2) 160 (by decide) pr150_3 (by decide) (by decide) (by decide +kernel) (by decide +kernel) (by decide)
theorem prime_p : Pr 115792089210356248762697446949407573530086143415290314195533631308867097853951 := Pr.of_pock (q := 835945042244614951780389953367877943453916927241) (m := 138516389665330497628477975950) (a := 2) 256 (by decide) pr160_2 (by decide) (by decide) (by decide +kernel) (by decide +kernel) (by decide)
theorem pr28_14 : Pr 191039911 := Pr.of_clear 13820 (by decide) (by decide +kernel) (by decide)
theorem pr12_15 : Pr 3023 := Pr.of_clear 53 (by decide) (by decide +kernel) (by decide)
theorem pr58_13 : Pr 208150935158385979 := Pr.of_pock2 (q := 191039911) (m := 1089567798) (a := 2) (q' := 3023) (m' := 68855750962086) (a' := 2) 58 (by decide) pr28_14 (by decide) (by decide) (by decide +kernel) (by decide +kernel) pr12_15 (by decide) (by decide +kernel) (by decide +kernel) (by decide) (by decide)
theorem pr92_12 : Pr 2624747550333869278416773953 := Pr.of_pock (q := 208150935158385979) (m := 12609828288) (a := 2) 92 (by decide) pr58_13 (by decide) (by decide) (by decide +kernel) (by decide +kernel) (by decide)
theorem pr22_17 : Pr 3969899 := Pr.of_clear 1991 (by decide) (by decide +kernel) (by decide)
theorem pr40_16 : Pr 1002328039319 := Pr.of_pock (q := 3969899) (m := 252482) (a := 2) 40 (by decide) pr22_17 (by decide) (by decide) (by decide +kernel) (by decide +kernel) (by decide)
theorem prime_n : Pr 115792089210356248762697446949407573529996955224135760342422259061068512044369 := Pr.of_pock2 (q := 2624747550333869278416773953) (m := 44115514726598157485257412756682202504057278751056) (a := 2) (q' := 1002328039319) (m' := 115523146782392231311324540489179156958562150085032625197564538672) (a' := 2) 256 (by decide) pr92_12 (by decide) (by decide) (by decide +kernel) (by decide +kernel) pr40_16 (by decide) (by decide +kernel) (by decide +kernel) (by decide) (by decide)
end EC
end Go.Proofs.Ytjdjhccefnffmaa
