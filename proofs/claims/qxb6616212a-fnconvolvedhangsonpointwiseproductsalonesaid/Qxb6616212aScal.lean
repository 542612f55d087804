import Derived.Test.Qxb6616212aProg
import Derived.WalkKit
import Derived.WalkLawsBesides
import Derived.Below
import Derived.Laws.Bits64b
import Derived.Lib.Mul64
namespace Go.Proofs.Qxb6616212a
open Go.RowKit

def Hid (p : Prop) : Prop := p
theorem hidd {p : Prop} (h : p) : Hid p := h
theorem Hid.out {p : Prop} (h : Hid p) : p := h

set_option maxRecDepth 100000 in
theorem addMod_any (x y p : Nat) (hp : p < 4611686018427387904) (hx : x < p) (hy : y < p) (w : World) :
    Calls Try.prog 18 #[.int .u64 x, .int .u64 y, .int .u64 p] w fun e w' => e = .returned (.int .u64 ((x + y) % p : Nat)) ∧ w = w' := by
  by_cases h : p ≤ x + y
  · have e : (x + y) % p = x + y - p := by rw [Nat.mod_eq_sub_mod h, Nat.mod_eq_of_lt (by omega)]
    rw [e]
    go_enter Try.func18, Try.ntmps18
    go_wp2
    go_ret
    exact ⟨by go_num, rfl⟩
  · have e : (x + y) % p = x + y := Nat.mod_eq_of_lt (by omega)
    rw [e]
    go_enter Try.func18, Try.ntmps18
    go_wp2
    go_ret
    exact ⟨by go_num, rfl⟩

/-- bit j of b. -/
theorem bit_eq (b j : Nat) (hb : b < 18446744073709551616) : bits .and .u64 ((b : Int) / 2 ^ j) 1 = ((b / 2 ^ j % 2 : Nat) : Int) := by
  have e : (b : Int) / 2 ^ j = ((b / 2 ^ j : Nat) : Int) := by
    rw [Int.natCast_ediv, Int.natCast_pow]; rfl
  have hl : b / 2 ^ j < 18446744073709551616 := Nat.lt_of_le_of_lt (Nat.div_le_self _ _) hb
  rw [e]
  have h := bits_and_u64_nat (b / 2 ^ j) 1 hl (by omega)
  rw [Nat.and_one_is_mod] at h
  exact h

theorem half_step (b j : Nat) : b / 2 ^ j = 2 * (b / 2 ^ (j + 1)) + b / 2 ^ j % 2 := by
  rw [Nat.pow_succ, ← Nat.div_div_eq_div_mul]
  omega

theorem mul_step (a b p j z : Nat) (hz : z = a * (b / 2 ^ (j + 1)) % p) : a * (b / 2 ^ j) % p = (z + z + a * (b / 2 ^ j % 2)) % p := by
  have e : a * (b / 2 ^ j) = a * (b / 2 ^ (j + 1)) + a * (b / 2 ^ (j + 1)) + a * (b / 2 ^ j % 2) := by
    have h := half_step b j
    have h2 : a * (b / 2 ^ j) = a * (2 * (b / 2 ^ (j + 1)) + b / 2 ^ j % 2) := congrArg (a * ·) h
    rw [h2, Nat.mul_add, Nat.mul_left_comm]; omega
  rw [e, hz]
  simp [Nat.add_mod]

set_option maxRecDepth 100000 in
set_option maxHeartbeats 1000000 in
theorem mulMod_any (a b p : Nat) (hp : p < 4611686018427387904) (ha : a < p) (hb : b < 18446744073709551616) (w : World) :
    Calls Try.prog 19 #[.int .u64 a, .int .u64 b, .int .u64 p] w fun e w' => e = .returned (.int .u64 (a * b % p : Nat)) ∧ w = w' := by
  go_enter Try.func19, Try.ntmps19
  go_wp2
  go_loop [7, 8] (fun r i => ∃ (k z : Nat), k ≤ 64 ∧ i = .int .i64 ((k : Int) - 1) ∧ r = .int .u64 z ∧ z < p ∧ Hid (z = a * (b / 2 ^ k) % p)) (fun _ i => (intOf i + 1).toNat)
  case atStart => exact ⟨64, 0, by omega, rfl, rfl, by omega, by show _ = _; rw [Nat.div_eq_of_lt (by simpa using hb)]; simp⟩
  case round =>
    obtain ⟨k, z, hk, rfl, rfl, hz, HZ⟩ := hrel
    by_cases hk0 : k = 0
    · subst hk0
      go_wp2
      go_ret
      refine ⟨?_, rfl⟩
      rw [HZ.out]; simp
    · obtain ⟨j, rfl⟩ : ∃ j, k = j + 1 := ⟨k - 1, by omega⟩
      have e1 : ((j + 1 : Nat) : Int) - 1 = j := by omega
      rw [e1]
      have HS := hidd (mul_step a b p j z HZ.out)
      have hbe := bit_eq b j hb
      have hb2 : b / 2 ^ j % 2 = 0 ∨ b / 2 ^ j % 2 = 1 := by omega
      clear HZ e1 hk0
      rcases hb2 with hb2 | hb2
      · rw [hb2] at hbe HS
        have hbf : (bits .and .u64 ((b : Int) / 2 ^ j) 1 == 1) = false := by rw [hbe]; rfl
        clear hbe hb2
        by_cases h2 : p ≤ z + z
        · have e2 : Hid (a * (b / 2 ^ j) % p = z + z - p) := by show _ = _; rw [HS.out, Nat.mul_zero, Nat.add_zero, Nat.mod_eq_sub_mod h2, Nat.mod_eq_of_lt (by omega)]
          clear HS
          go_wp2
          go_round
          case rel => exact ⟨j, z + z - p, by omega, rfl, by go_num, by omega, e2.out.symm⟩
          case measure => simp [intOf]
        · have e2 : Hid (a * (b / 2 ^ j) % p = z + z) := by show _ = _; rw [HS.out, Nat.mul_zero, Nat.add_zero, Nat.mod_eq_of_lt (by omega)]
          clear HS
          go_wp2
          go_round
          case rel => exact ⟨j, z + z, by omega, rfl, by go_num, by omega, e2.out.symm⟩
          case measure => simp [intOf]
      · rw [hb2] at hbe HS
        have hbf : (bits .and .u64 ((b : Int) / 2 ^ j) 1 == 1) = true := by rw [hbe]; rfl
        clear hbe hb2
        by_cases h2 : p ≤ z + z
        · by_cases h3 : p ≤ z + z - p + a
          · have e2 : Hid (a * (b / 2 ^ j) % p = z + z - p + a - p) := by
              show _ = _
              rw [HS.out, Nat.mul_one, show z + z + a = (z + z - p + a - p) + p + p by omega, Nat.add_mod_right, Nat.add_mod_right, Nat.mod_eq_of_lt (by omega)]
            clear HS
            go_wp2
            go_round
            case rel => exact ⟨j, z + z - p + a - p, by omega, rfl, by go_num, by omega, e2.out.symm⟩
            case measure => simp [intOf]
          · have e2 : Hid (a * (b / 2 ^ j) % p = z + z - p + a) := by
              show _ = _
              rw [HS.out, Nat.mul_one, show z + z + a = (z + z - p + a) + p by omega, Nat.add_mod_right, Nat.mod_eq_of_lt (by omega)]
            clear HS
            go_wp2
            go_round
            case rel => exact ⟨j, z + z - p + a, by omega, rfl, by go_num, by omega, e2.out.symm⟩
            case measure => simp [intOf]
        · by_cases h3 : p ≤ z + z + a
          · have e2 : Hid (a * (b / 2 ^ j) % p = z + z + a - p) := by
              show _ = _
              rw [HS.out, Nat.mul_one, Nat.mod_eq_sub_mod h3, Nat.mod_eq_of_lt (by omega)]
            clear HS
            go_wp2
            go_round
            case rel => exact ⟨j, z + z + a - p, by omega, rfl, by go_num, by omega, e2.out.symm⟩
            case measure => simp [intOf]
          · have e2 : Hid (a * (b / 2 ^ j) % p = z + z + a) := by
              show _ = _
              rw [HS.out, Nat.mul_one, Nat.mod_eq_of_lt (by omega)]
            clear HS
            go_wp2
            go_round
            case rel => exact ⟨j, z + z + a, by omega, rfl, by go_num, by omega, e2.out.symm⟩
            case measure => simp [intOf]

theorem pow_step (x e p j z : Nat) (hz : z = x ^ (e / 2 ^ (j + 1)) % p) : x ^ (e / 2 ^ j) % p = (z * z % p * x ^ (e / 2 ^ j % 2)) % p := by
  have h : x ^ (e / 2 ^ j) = x ^ (e / 2 ^ (j + 1)) * x ^ (e / 2 ^ (j + 1)) * x ^ (e / 2 ^ j % 2) := by
    have h2 : x ^ (e / 2 ^ j) = x ^ (2 * (e / 2 ^ (j + 1)) + e / 2 ^ j % 2) := congrArg (x ^ ·) (half_step e j)
    rw [h2, Nat.pow_add, Nat.two_mul, Nat.pow_add]
  rw [h, hz, Nat.mul_mod (x ^ (e / 2 ^ (j + 1)) * x ^ (e / 2 ^ (j + 1)))]
  simp [Nat.mul_mod]

set_option maxRecDepth 100000 in
set_option maxHeartbeats 1000000 in
theorem powMod_any (x e p : Nat) (hp : p < 4611686018427387904) (h1 : 1 < p) (hx : x < p) (he : e < 18446744073709551616) (w : World) :
    Calls Try.prog 20 #[.int .u64 x, .int .u64 e, .int .u64 p] w fun r w' => r = .returned (.int .u64 (x ^ e % p : Nat)) ∧ w = w' := by
  have hp0 : p ≠ 0 := by omega
  have hone : (1 : Int).tmod (p : Int) = 1 := Int.tmod_eq_of_lt (by omega) (by omega)
  go_enter Try.func20, Try.ntmps20
  go_wp2
  go_loop [7, 8] (fun r i => ∃ (k z : Nat), k ≤ 64 ∧ i = .int .i64 ((k : Int) - 1) ∧ r = .int .u64 z ∧ z < p ∧ Hid (z = x ^ (e / 2 ^ k) % p)) (fun _ i => (intOf i + 1).toNat)
  case atStart => exact ⟨64, 1, by omega, rfl, by simp, by omega, by show _ = _; rw [Nat.div_eq_of_lt (by simpa using he), Nat.pow_zero, Nat.mod_eq_of_lt h1]⟩
  case round =>
    obtain ⟨k, z, hk, rfl, rfl, hz, HZ⟩ := hrel
    by_cases hk0 : k = 0
    · subst hk0
      go_wp2
      go_ret
      refine ⟨?_, rfl⟩
      rw [HZ.out]; simp
    · obtain ⟨j, rfl⟩ : ∃ j, k = j + 1 := ⟨k - 1, by omega⟩
      have e1 : ((j + 1 : Nat) : Int) - 1 = j := by omega
      rw [e1]
      have HS := hidd (pow_step x e p j z HZ.out)
      have hbe := bit_eq e j he
      have hb2 : e / 2 ^ j % 2 = 0 ∨ e / 2 ^ j % 2 = 1 := by omega
      have m1 := mulMod_any z z p hp hz (by omega)
      obtain ⟨z2, hz2⟩ : ∃ z2, z2 = z * z % p := ⟨_, rfl⟩
      have hz2p : z2 < p := by rw [hz2]; exact Nat.mod_lt _ (by omega)
      rw [← hz2] at m1 HS
      have m2 := mulMod_any z2 x p hp hz2p (by omega)
      clear HZ e1 hk0 hz2
      rcases hb2 with hb2 | hb2
      · rw [hb2] at hbe HS
        have hbf : (bits .and .u64 ((e : Int) / 2 ^ j) 1 == 1) = false := by rw [hbe]; rfl
        clear hbe hb2
        have e2 : Hid (x ^ (e / 2 ^ j) % p = z2) := by show _ = _; rw [HS.out, Nat.pow_zero, Nat.mul_one, Nat.mod_eq_of_lt hz2p]
        clear HS
        go_wp2_with fail
        refine (m1 _).mono ?_
        rintro r wx ⟨rfl, rfl⟩
        go_wp2_with fail
        go_round
        case rel => exact ⟨j, z2, by omega, rfl, rfl, hz2p, e2.out.symm⟩
        case measure => simp [intOf]
      · rw [hb2] at hbe HS
        have hbf : (bits .and .u64 ((e : Int) / 2 ^ j) 1 == 1) = true := by rw [hbe]; rfl
        clear hbe hb2
        have e2 : Hid (x ^ (e / 2 ^ j) % p = z2 * x % p) := by show _ = _; rw [HS.out, Nat.pow_one]
        clear HS
        obtain ⟨z3, hz3⟩ : ∃ z3, z3 = z2 * x % p := ⟨_, rfl⟩
        have hz3p : z3 < p := by rw [hz3]; exact Nat.mod_lt _ (by omega)
        rw [← hz3] at m2 e2
        clear hz3
        go_wp2_with fail
        refine (m1 _).mono ?_
        rintro r wx ⟨rfl, rfl⟩
        go_wp2_with fail
        refine (m2 _).mono ?_
        rintro r wx ⟨rfl, rfl⟩
        go_wp2_with fail
        go_round
        case rel => exact ⟨j, z3, by omega, rfl, rfl, hz3p, e2.out.symm⟩
        case measure => simp [intOf]

end Go.Proofs.Qxb6616212a
