import Derived.Test.Qxb6616212aRowW
import Derived.Laws.Externs
import Derived.Deep.RegionWith
namespace Go.Proofs.Qxb6616212a
open Go.RowKit

/-! ### math/bits -/
def subEntry : Array Value → Sem Value := fun args => do
  let (x, y, b) ← Extern.MathBitsCarry.three "Sub64" args
  pure (Extern.MathBitsCarry.pair ((x + Extern.MathBitsCarry.m64 - y - b) % Extern.MathBitsCarry.m64) (if x < y + b then 1 else 0))

theorem sub64_run (x y : Nat) (w : World) : (callFunc 56 #[.int .u64 x, .int .u64 y, .int .u64 0]).run Try.prog w =
    .ok (.value (.tuple #[.int .u64 (((x + 18446744073709551616 - y) % 18446744073709551616 : Nat) : Int), .int .u64 ((if x < y then 1 else 0 : Nat) : Int)])) w := by
  rw [run_callFunc_extern Try.func56 (by kernel_rfl) (by kernel_rfl) (by kernel_rfl) (e := subEntry) (by kernel_rfl)]
  rfl

theorem maskN (a : Nat) (ha : a < 18446744073709551616) : bits .and .u64 (a : Int) 4294967295 = ((a % 4294967296 : Nat) : Int) := by
  have h := bits_and_u64_nat a 4294967295 ha (by omega)
  have e : a &&& 4294967295 = a % 4294967296 := Nat.and_two_pow_sub_one_eq_mod a 32
  rw [e] at h
  exact h
theorem divN (a : Nat) : (a : Int) / 4294967296 = ((a / 4294967296 : Nat) : Int) := by omega
theorem mulN (a b : Nat) : (a : Int) * (b : Int) = ((a * b : Nat) : Int) := (Int.natCast_mul a b).symm
theorem addN (a b : Nat) : (a : Int) + (b : Int) = ((a + b : Nat) : Int) := (Int.natCast_add a b).symm
theorem wrapN (a : Nat) (ha : a < 18446744073709551616) : IntKind.u64.wrap (a : Int) = (a : Int) := by rw [IntKind.wrap_u64]; omega
theorem wrapM (a : Nat) : IntKind.u64.wrap (a : Int) = ((a % 18446744073709551616 : Nat) : Int) := by rw [IntKind.wrap_u64]; omega

set_option maxHeartbeats 1000000 in
set_option maxRecDepth 100000 in
theorem mul64_any (x y : Nat) (hx : x < 18446744073709551616) (hy : y < 18446744073709551616) (w : World) :
    Calls Try.prog 46 #[.int .u64 x, .int .u64 y] w fun e w' => e = .returned (.tuple #[.int .u64 ((x * y / 18446744073709551616 : Nat) : Int), .int .u64 ((x * y % 18446744073709551616 : Nat) : Int)]) ∧ w = w' := by
  obtain ⟨bd, bt, bw, hhi⟩ := Lib.mul64_hi x y hx hy
  have ba := Lib.half_mul_le (a := x / 4294967296) (b := y / 4294967296) (by omega) (by omega)
  have bb := Lib.half_mul_le (a := x / 4294967296) (b := y % 4294967296) (by omega) (by omega)
  have bc := Lib.half_mul_le (a := x % 4294967296) (b := y / 4294967296) (by omega) (by omega)
  have ba' : x / 4294967296 * (y / 4294967296) < 18446744073709551616 := by omega
  have bb' : x / 4294967296 * (y % 4294967296) < 18446744073709551616 := by omega
  have bc' : x % 4294967296 * (y / 4294967296) < 18446744073709551616 := by omega
  have bh1 : x / 4294967296 * (y / 4294967296) + (x / 4294967296 * (y % 4294967296) + x % 4294967296 * (y % 4294967296) / 4294967296) / 4294967296 < 18446744073709551616 := by omega
  have bh : x / 4294967296 * (y / 4294967296) + (x / 4294967296 * (y % 4294967296) + x % 4294967296 * (y % 4294967296) / 4294967296) / 4294967296 + ((x / 4294967296 * (y % 4294967296) + x % 4294967296 * (y % 4294967296) / 4294967296) % 4294967296 + x % 4294967296 * (y / 4294967296)) / 4294967296 < 18446744073709551616 := by omega
  go_enter Try.func46, Try.ntmps46
  go_wp2
  simp only [maskN x hx, maskN y hy, divN, mulN, addN, wrapN _ bd, wrapN _ bb', wrapN _ bt, maskN _ bt, wrapN _ bc', wrapN _ bw, wrapN _ ba', wrapN _ bh1, wrapN _ bh, wrapM (x * y)]
  rw [hhi]
  go_ret2
  exact ⟨rfl, rfl⟩

/-! ### reduceBelow -/
def redB (a b : Nat) : Nat := if b ≤ a then a - b else a

theorem and_zero_u64 (b : Nat) (hb : b < 18446744073709551616) : bits .and .u64 (b : Int) 0 = 0 := by
  have h := bits_and_u64_nat b 0 hb (by omega)
  simpa using h
theorem and_all_u64 (b : Nat) (hb : b < 18446744073709551616) : bits .and .u64 (b : Int) 18446744073709551615 = (b : Int) := by
  have h := bits_and_u64_nat b 18446744073709551615 hb (by omega)
  have e : b &&& 18446744073709551615 = b % 18446744073709551616 := Nat.and_two_pow_sub_one_eq_mod b 64
  rw [e, Nat.mod_eq_of_lt hb] at h
  exact h

set_option maxHeartbeats 1000000 in
set_option maxRecDepth 100000 in
theorem redB_any (a b : Nat) (ha : a < 18446744073709551616) (hb : b < 18446744073709551616) (w : World) :
    Calls Try.prog 55 #[.int .u64 a, .int .u64 b] w fun e w' => e = .returned (.int .u64 (redB a b : Nat)) ∧ w = w' := by
  have hs := sub64_run a b
  have a0 := and_zero_u64 b hb
  have a1 := and_all_u64 b hb
  by_cases h : b ≤ a
  · rw [show redB a b = a - b by simp [redB, h]]
    rw [show (a + 18446744073709551616 - b) % 18446744073709551616 = a - b by omega, if_neg (by omega)] at hs
    go_enter Try.func55, Try.ntmps55
    go_wp2_with fail
    go_ret
    exact ⟨rfl, rfl⟩
  · rw [show redB a b = a by simp [redB, h]]
    rw [show (a + 18446744073709551616 - b) % 18446744073709551616 = a + 18446744073709551616 - b by omega, if_pos (by omega)] at hs
    obtain ⟨d, hd⟩ : ∃ d, d = a + 18446744073709551616 - b := ⟨_, rfl⟩
    rw [← hd] at hs
    have hw : IntKind.u64.wrap ((d : Int) + (b : Int)) = (a : Int) := by rw [IntKind.wrap_u64]; omega
    have hdl : d < 18446744073709551616 := by omega
    have hn1 : IntKind.u64.wrap (-1) = 18446744073709551615 := by rw [IntKind.wrap_u64]; rfl
    clear hd
    go_enter Try.func55, Try.ntmps55
    go_wp2_with fail
    go_ret
    exact ⟨rfl, rfl⟩

/-! ### Montgomery's product -/
def montL (a b p inv : Nat) : Nat := a * b / 18446744073709551616 + p - (a * b % 18446744073709551616 * inv % 18446744073709551616) * p / 18446744073709551616

set_option maxHeartbeats 1000000 in
set_option maxRecDepth 100000 in
theorem montL_any (a b p inv : Nat) (ha : a < 18446744073709551616) (hb : b < 18446744073709551616) (hp : p < 4611686018427387904) (_hi : inv < 18446744073709551616) (hab : a * b < p * 18446744073709551616) (w : World) :
    Calls Try.prog 49 #[.int .u64 a, .int .u64 b, .int .u64 p, .int .u64 inv] w fun e w' => e = .returned (.int .u64 (montL a b p inv : Nat)) ∧ w = w' := by
  have m1 := mul64_any a b ha hb w
  have hhi : a * b / 18446744073709551616 < p := (Nat.div_lt_iff_lt_mul (by decide)).2 hab
  obtain ⟨lo, hlo⟩ : ∃ lo, lo = a * b % 18446744073709551616 := ⟨_, rfl⟩
  obtain ⟨hi', hhi'⟩ : ∃ x, x = a * b / 18446744073709551616 := ⟨_, rfl⟩
  have hlol : lo < 18446744073709551616 := by rw [hlo]; exact Nat.mod_lt _ (by decide)
  obtain ⟨q, hq, qa, qb⟩ := mul_wrap lo inv
  have m2 := mul64_any q p qb (by omega) w
  have hqp : q * p / 18446744073709551616 < p ∨ p = 0 := by
    rcases Nat.eq_zero_or_pos p with h | h
    · exact Or.inr h
    · exact Or.inl ((Nat.div_lt_iff_lt_mul (by decide)).2 (by rw [Nat.mul_comm]; exact Nat.mul_lt_mul_of_pos_left qb h))
  obtain ⟨qh, hqh⟩ : ∃ x, x = q * p / 18446744073709551616 := ⟨_, rfl⟩
  obtain ⟨ql, hql⟩ : ∃ x, x = q * p % 18446744073709551616 := ⟨_, rfl⟩
  have hres : montL a b p inv = hi' + p - qh := by rw [montL, hqh, hq, hlo, hhi']
  rw [hres]
  rw [← hlo, ← hhi'] at m1
  rw [← hqh, ← hql] at m2
  rw [← hhi'] at hhi
  rw [← hqh] at hqp
  have hqhp : qh < p := by omega
  have hw : IntKind.u64.wrap (IntKind.u64.wrap ((hi' : Int) - (qh : Int)) + (p : Int)) = ((hi' + p - qh : Nat) : Int) := by
    rw [IntKind.wrap_u64, IntKind.wrap_u64]; omega
  clear hres hlo hhi' hqh hql hq hqp
  go_enter Try.func49, Try.ntmps49
  go_wp2_with fail
  refine m1.mono ?_
  rintro e wx ⟨rfl, rfl⟩
  clear m1
  go_wp2_with fail
  refine m2.mono ?_
  rintro e wx ⟨rfl, rfl⟩
  clear m2
  go_wp2_with fail
  go_ret
  exact ⟨rfl, rfl⟩

theorem montL_lt (a b p inv : Nat) (hp : 0 < p) (hab : a * b < p * 18446744073709551616) : montL a b p inv < 2 * p := by
  have hhi : a * b / 18446744073709551616 < p := (Nat.div_lt_iff_lt_mul (by decide)).2 hab
  unfold montL; omega

/-- x and y are the same modulo p. -/
def Eqm (p : Nat) (x y : Int) : Prop := ∃ t : Int, x = y + t * p

theorem Eqm.refl (p : Nat) (x : Int) : Eqm p x x := ⟨0, by simp⟩
theorem Eqm.of_eq {p : Nat} {x y : Int} (h : x = y) : Eqm p x y := ⟨0, by simp [h]⟩
theorem Eqm.symm {p : Nat} {x y : Int} (h : Eqm p x y) : Eqm p y x := by
  obtain ⟨t, h⟩ := h; exact ⟨-t, by rw [h, Int.neg_mul]; omega⟩
theorem Eqm.trans {p : Nat} {x y z : Int} (h : Eqm p x y) (k : Eqm p y z) : Eqm p x z := by
  obtain ⟨t, h⟩ := h; obtain ⟨s, k⟩ := k; exact ⟨s + t, by rw [h, k, Int.add_mul]; omega⟩
theorem Eqm.add {p : Nat} {x y x' y' : Int} (h : Eqm p x x') (k : Eqm p y y') : Eqm p (x + y) (x' + y') := by
  obtain ⟨t, h⟩ := h; obtain ⟨s, k⟩ := k; exact ⟨t + s, by rw [h, k, Int.add_mul]; omega⟩
theorem Eqm.neg {p : Nat} {x x' : Int} (h : Eqm p x x') : Eqm p (-x) (-x') := by
  obtain ⟨t, h⟩ := h; exact ⟨-t, by rw [h, Int.neg_mul]; omega⟩
theorem Eqm.sub {p : Nat} {x y x' y' : Int} (h : Eqm p x x') (k : Eqm p y y') : Eqm p (x - y) (x' - y') := by
  rw [Int.sub_eq_add_neg, Int.sub_eq_add_neg]; exact h.add k.neg
theorem Eqm.mul {p : Nat} {x y x' y' : Int} (h : Eqm p x x') (k : Eqm p y y') : Eqm p (x * y) (x' * y') := by
  obtain ⟨t, rfl⟩ := h; obtain ⟨s, rfl⟩ := k
  refine ⟨x' * s + t * y' + t * p * s, ?_⟩
  rw [Int.add_mul, Int.mul_add, Int.mul_add, Int.add_mul, Int.add_mul]
  have e1 : x' * (s * (p : Int)) = x' * s * p := (Int.mul_assoc _ _ _).symm
  have e2 : t * (p : Int) * y' = t * y' * p := Int.mul_right_comm _ _ _
  have e3 : t * (p : Int) * (s * p) = t * p * s * p := (Int.mul_assoc _ _ _).symm
  rw [e1, e2, e3]; omega
theorem Eqm.self_zero (p : Nat) : Eqm p (p : Int) 0 := ⟨1, by simp⟩
theorem Eqm.mul_self (p : Nat) (x : Int) : Eqm p (x * p) 0 := ⟨x, by simp⟩
theorem Eqm.of_mod {p a : Nat} : Eqm p ((a % p : Nat) : Int) (a : Int) := by
  refine ⟨-((a / p : Nat) : Int), ?_⟩
  have := Nat.div_add_mod a p
  have h2 : (a : Int) = (p : Int) * ((a / p : Nat) : Int) + ((a % p : Nat) : Int) := by rw [← Int.natCast_mul, ← Int.natCast_add, this]
  rw [Int.neg_mul, h2, Int.mul_comm]; omega
theorem Eqm.eq_of_lt {p a b : Nat} (h : Eqm p (a : Int) (b : Int)) (ha : a < p) (hb : b < p) : a = b := by
  obtain ⟨t, h⟩ := h
  have : (a : Int) % p = (b : Int) % p := by rw [h, Int.add_mul_emod_self_right]
  rw [Int.emod_eq_of_lt (by omega) (by omega), Int.emod_eq_of_lt (by omega) (by omega)] at this
  omega

theorem redB_eqm (a p : Nat) : Eqm p (redB a p : Nat) (a : Int) := by
  unfold redB
  by_cases h : p ≤ a
  · rw [if_pos h]; exact ⟨-1, by omega⟩
  · rw [if_neg h]; exact Eqm.refl _ _
theorem redB_eqm2 (a p : Nat) : Eqm p (redB a (2 * p) : Nat) (a : Int) := by
  unfold redB
  by_cases h : 2 * p ≤ a
  · rw [if_pos h]; exact ⟨-2, by omega⟩
  · rw [if_neg h]; exact Eqm.refl _ _
theorem redB_lt (a b : Nat) (h : a < 2 * b) : redB a b < b := by
  unfold redB; split <;> omega

/-- Montgomery: 2^64 times the product's reduction is the product, modulo p. -/
theorem montL_eqm (a b p inv : Nat) (hab : a * b < p * 18446744073709551616) (hinv : inv * p % 18446744073709551616 = 1) : Eqm p ((montL a b p inv : Nat) * 18446744073709551616 : Int) ((a : Int) * (b : Int)) := by
  have hhi : a * b / 18446744073709551616 < p := (Nat.div_lt_iff_lt_mul (by decide)).2 hab
  have hd := Nat.div_add_mod (a * b) 18446744073709551616
  obtain ⟨lo, hlo⟩ : ∃ lo, lo = a * b % 18446744073709551616 := ⟨_, rfl⟩
  obtain ⟨hi, hhi'⟩ : ∃ x, x = a * b / 18446744073709551616 := ⟨_, rfl⟩
  obtain ⟨q, hq⟩ : ∃ q, q = lo * inv % 18446744073709551616 := ⟨_, rfl⟩
  have hlol : lo < 18446744073709551616 := by rw [hlo]; exact Nat.mod_lt _ (by decide)
  have hql : q < 18446744073709551616 := by rw [hq]; exact Nat.mod_lt _ (by decide)
  have hqp : q * p % 18446744073709551616 = lo := by
    rw [hq, Nat.mul_mod, Nat.mod_mod, ← Nat.mul_mod, Nat.mul_assoc, Nat.mul_mod, hinv, Nat.mul_one, Nat.mod_mod, Nat.mod_eq_of_lt hlol]
  have hd2 := Nat.div_add_mod (q * p) 18446744073709551616
  rw [hqp] at hd2
  have hm : montL a b p inv = hi + p - q * p / 18446744073709551616 := by rw [montL, hq, hlo, hhi']
  rw [← hlo, ← hhi'] at hd
  rw [← hhi'] at hhi
  obtain ⟨qh, hqh⟩ : ∃ x, x = q * p / 18446744073709551616 := ⟨_, rfl⟩
  rw [← hqh] at hd2 hm
  have hp0 : 0 < p := by omega
  have hqhp : qh < p := by rw [hqh]; exact (Nat.div_lt_iff_lt_mul (by decide)).2 (by rw [Nat.mul_comm]; exact Nat.mul_lt_mul_of_pos_left hql hp0)
  refine ⟨18446744073709551616 - (q : Int), ?_⟩
  rw [hm]
  have h1 : ((hi + p - qh : Nat) : Int) = (hi : Int) + p - qh := by omega
  have h2 : (18446744073709551616 : Int) * hi + lo = (a : Int) * b := by rw [← Int.natCast_mul, ← hd]; omega
  have h3 : (18446744073709551616 : Int) * qh + lo = (q : Int) * p := by rw [← Int.natCast_mul, ← hd2]; omega
  rw [h1, ← h2, Int.sub_mul 18446744073709551616 (q : Int) (p : Int), ← h3]
  omega

end Go.Proofs.Qxb6616212a
