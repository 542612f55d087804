import Derived.Test.Qxb6616212aPrime
namespace Go.Proofs.Qxb6616212a
open Go.RowKit

/-- a quotient of naturals as the walk sees it. -/
theorem quo_nat (a b : Nat) : ∃ y : Nat, y = a / b ∧ (a : Int) / (b : Int) = (y : Int) ∧ (a : Int).tdiv (b : Int) = (y : Int) :=
  ⟨a / b, rfl, by rw [Int.natCast_ediv], by rw [Int.tdiv_eq_ediv_of_nonneg (by omega), Int.natCast_ediv]⟩
theorem rem_nat (a b : Nat) : ∃ y : Nat, y = a % b ∧ (a : Int) % (b : Int) = (y : Int) ∧ (a : Int).tmod (b : Int) = (y : Int) :=
  ⟨a % b, rfl, by rw [Int.natCast_emod], by rw [Int.tmod_eq_emod_of_nonneg (by omega), Int.natCast_emod]⟩

def AnyPost (w : World) (e : Ending) (w' : World) : Prop := ∃ r, e = .returned (.bool r) ∧ w = w'

set_option maxRecDepth 100000 in
set_option maxHeartbeats 4000000 in
theorem primitive_any (g E : Nat) (hp : E + 1 < 4611686018427387904) (hE : 12884901888 ≤ E) (hg : g < E + 1) (w : World) :
    Calls Try.prog 36 #[.int .u64 g, .int .u64 ((E : Int) + 1)] w (AnyPost w) := by
  have P := fun e he => powMod_any g e (E + 1) hp (by omega) hg he
  obtain ⟨y2, hy2, q2a, q2b⟩ := quo_nat E 2
  obtain ⟨y3, hy3, q3a, q3b⟩ := quo_nat E 3
  obtain ⟨k0, hk0, k0a, k0b⟩ := quo_nat E 12884901888
  have hk1 : 1 ≤ k0 ∧ k0 ≤ 1073741824 := by rw [hk0]; omega
  have P2 := P y2 (by omega)
  have P3 := P y3 (by omega)
  obtain ⟨x2, hx2⟩ : ∃ x, x = g ^ y2 % (E + 1) := ⟨_, rfl⟩
  obtain ⟨x3, hx3⟩ : ∃ x, x = g ^ y3 % (E + 1) := ⟨_, rfl⟩
  rw [← hx2] at P2
  rw [← hx3] at P3
  clear hy2 hy3 hk0 hx2 hx3
  simp only [Int.natCast_add, Int.cast_ofNat_Int] at P P2 P3 q2a q2b q3a q3b k0a k0b
  obtain ⟨hk1, hk2⟩ := hk1
  cases c2 : ((x2 : Int) == 1) with
  | true =>
    go_enter Try.func36, Try.ntmps36
    go_wp2_with fail
    refine (P2 _).mono ?_
    rintro r wx ⟨rfl, rfl⟩
    go_wp2_with fail
    go_ret
    exact ⟨false, rfl, rfl⟩
  | false =>
  cases c3 : ((x3 : Int) == 1) with
  | true =>
    go_enter Try.func36, Try.ntmps36
    go_wp2_with fail
    refine (P2 _).mono ?_
    rintro r wx ⟨rfl, rfl⟩
    go_wp2_with fail
    refine (P3 _).mono ?_
    rintro r wx ⟨rfl, rfl⟩
    go_wp2_with fail
    go_ret
    exact ⟨false, rfl, rfl⟩
  | false =>
    go_enter Try.func36, Try.ntmps36
    go_wp2_with fail
    refine (P2 _).mono ?_
    rintro r wx ⟨rfl, rfl⟩
    go_wp2_with fail
    refine (P3 _).mono ?_
    rintro r wx ⟨rfl, rfl⟩
    go_wp2_with fail
    clear P2 P3 c2 c3 q2a q2b q3a q3b
    go_loop [6, 7] (fun k q => ∃ (K Q : Nat), k = .int .u64 K ∧ q = .int .u64 Q ∧ 1 ≤ K ∧ K ≤ 1073741824 ∧ 2 ≤ Q ∧ Q ≤ 32769) (fun _ q => 40000 - (intOf q).toNat)
    case atStart => exact ⟨k0, 2, rfl, rfl, hk1, hk2, by omega, by omega⟩
    case round =>
      obtain ⟨K, Q, rfl, rfl, hK1, hK2, hQ1, hQ2⟩ := hrel
      clear k0a k0b hk1 hk2
      obtain ⟨M, hM⟩ : ∃ M : Nat, M = Q * Q := ⟨_, rfl⟩
      have hMi : (Q : Int) * (Q : Int) = (M : Int) := by rw [hM, Int.natCast_mul]
      have hM2 : M ≤ 32769 * 32769 := by rw [hM]; exact Nat.mul_le_mul hQ2 hQ2
      by_cases hle : M ≤ K
      · have hQ3 : Q ≤ 32768 := by
          rcases Nat.lt_or_ge Q 32769 with h | h
          · omega
          · have : 32769 * 32769 ≤ M := by rw [hM]; exact Nat.mul_le_mul h h
            omega
        clear hM
        have hQ0 : Q ≠ 0 := by omega
        obtain ⟨r, hr, ra, rb⟩ := rem_nat K Q
        by_cases hr0 : r = 0
        · subst hr0
          clear hr
          obtain ⟨y, hy, ya, yb⟩ := quo_nat E Q
          have hyb : y ≤ E := by rw [hy]; exact Nat.div_le_self _ _
          have Py := P y (by omega)
          obtain ⟨x, hx⟩ : ∃ x, x = g ^ y % (E + 1) := ⟨_, rfl⟩
          rw [← hx] at Py
          clear hx hy
          cases c2 : ((x : Int) == 1) with
          | true =>
            go_wp2_with fail
            refine (Py _).mono ?_
            rintro r wx ⟨rfl, rfl⟩
            go_wp2_with fail
            go_ret
            exact ⟨false, rfl, rfl⟩
          | false =>
            go_wp2_with fail
            refine (Py _).mono ?_
            rintro r wx ⟨rfl, rfl⟩
            go_wp2_with fail
            clear Py c2 ya yb ra rb hle hMi hM2
            go_loop [6] (fun k => ∃ K : Nat, k = .int .u64 K ∧ 1 ≤ K ∧ K ≤ 1073741824) (fun k => (intOf k).toNat)
            case atStart => exact ⟨K, rfl, hK1, hK2⟩
            case round =>
              obtain ⟨K', rfl, hK1', hK2'⟩ := hrel
              clear hK1 hK2
              obtain ⟨r, hr, ra, rb⟩ := rem_nat K' Q
              by_cases hr0 : r = 0
              · subst hr0
                obtain ⟨y, hy, ya, yb⟩ := quo_nat K' Q
                have hy1 : 1 ≤ y := by
                  rw [hy]; exact Nat.div_pos (Nat.le_of_dvd hK1' (Nat.dvd_of_mod_eq_zero hr.symm)) (by omega)
                have hy2 : y < K' := by rw [hy]; exact Nat.div_lt_self hK1' (by omega)
                clear hy hr
                go_wp2_with fail
                go_round
                case rel => exact ⟨y, rfl, hy1, by omega⟩
                case measure => simp [intOf]; omega
              · have hrf : ((r : Int) == 0) = false := by simp; omega
                clear hr
                go_wp2_with fail
                go_round
                case rel => exact ⟨K', Q + 1, rfl, by go_num, hK1', hK2', by omega, by omega⟩
                case measure => simp [intOf]; omega
        · have hrf : ((r : Int) == 0) = false := by simp; omega
          clear hr
          go_wp2_with fail
          go_round
          case rel => exact ⟨K, Q + 1, rfl, by go_num, hK1, hK2, by omega, by omega⟩
          case measure => simp [intOf]; omega
      · clear hM
        by_cases hK : 1 < K
        · obtain ⟨y, hy, ya, yb⟩ := quo_nat E K
          have hK0 : K ≠ 0 := by omega
          have hyb : y ≤ E := by rw [hy]; exact Nat.div_le_self _ _
          have Py := P y (by omega)
          obtain ⟨x, hx⟩ : ∃ x, x = g ^ y % (E + 1) := ⟨_, rfl⟩
          rw [← hx] at Py
          clear hx hy
          cases c2 : ((x : Int) == 1) with
          | true =>
            go_wp2_with fail
            refine (Py _).mono ?_
            rintro r wx ⟨rfl, rfl⟩
            go_wp2_with fail
            go_ret
            exact ⟨false, rfl, rfl⟩
          | false =>
            go_wp2_with fail
            refine (Py _).mono ?_
            rintro r wx ⟨rfl, rfl⟩
            go_wp2_with fail
            go_ret
            exact ⟨true, rfl, rfl⟩
        · go_wp2_with fail
          go_ret
          exact ⟨true, rfl, rfl⟩

end Go.Proofs.Qxb6616212a
