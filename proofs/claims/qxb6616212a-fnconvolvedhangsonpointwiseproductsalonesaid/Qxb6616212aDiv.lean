import Derived.Test.Qxb6616212aMeth
import Derived.Test.Qxb6616212aLen
namespace Go.Proofs.Qxb6616212a
open Go.RowKit

/-! ### two halves by two: the plain law -/
theorem trial_start (u d N : Nat) (hN : 9223372036854775808 ≤ N) (hu : u < N) (hd : d < 4294967296) :
    (u * 4294967296 + d) / N ≤ u / (N / 4294967296) ∧ u / (N / 4294967296) ≤ 4294967297 := by
  have hN1 : 2147483648 ≤ N / 4294967296 := by omega
  obtain ⟨N1, h1⟩ : ∃ x, x = N / 4294967296 := ⟨_, rfl⟩
  obtain ⟨T, hT⟩ : ∃ x, x = (u * 4294967296 + d) / N := ⟨_, rfl⟩
  have hTN : T * N ≤ u * 4294967296 + d := by rw [hT]; exact Nat.div_mul_le_self _ _
  rw [← h1, ← hT]
  rw [← h1] at hN1
  have hNN : N1 * 4294967296 ≤ N := by omega
  have hTN1 : T * N1 * 4294967296 ≤ u * 4294967296 + d := by
    rw [Nat.mul_assoc]; exact Nat.le_trans (Nat.mul_le_mul_left _ hNN) hTN
  constructor
  · rw [Nat.le_div_iff_mul_le (by omega)]; omega
  · have : u / N1 < 4294967298 := by
      rw [Nat.div_lt_iff_lt_mul (by omega)]
      omega
    omega

theorem quot_lt (u d N : Nat) (hu : u < N) (hd : d < 4294967296) : (u * 4294967296 + d) / N < 4294967296 := by
  rw [Nat.div_lt_iff_lt_mul (by omega)]; omega

theorem trial_down (u d N Q R : Nat) (hQR : Q * (N / 4294967296) + R = u) (h : Q * (N % 4294967296) > 4294967296 * R + d) : (u * 4294967296 + d) / N < Q := by
  have e : Q * N = Q * (N / 4294967296) * 4294967296 + Q * (N % 4294967296) := by
    rw [Nat.mul_assoc, ← Nat.mul_add]; congr 1; omega
  have hpos : 0 < N := by
    rcases Nat.eq_zero_or_pos N with h0 | h0
    · subst h0; simp at h
    · exact h0
  rw [Nat.div_lt_iff_lt_mul hpos, e, ← hQR, Nat.add_mul]
  omega

theorem trial_end (u d N Q R : Nat) (hN : 0 < N) (hQR : Q * (N / 4294967296) + R = u) (h : Q * (N % 4294967296) ≤ 4294967296 * R + d) (hT : (u * 4294967296 + d) / N ≤ Q) : Q = (u * 4294967296 + d) / N := by
  have e : Q * N = Q * (N / 4294967296) * 4294967296 + Q * (N % 4294967296) := by
    rw [Nat.mul_assoc, ← Nat.mul_add]; congr 1; omega
  refine Nat.le_antisymm ?_ hT
  rw [Nat.le_div_iff_mul_le hN, e, ← hQR, Nat.add_mul]
  omega

theorem wrap3 (a b c : Int) : IntKind.u64.wrap (IntKind.u64.wrap (IntKind.u64.wrap a + b) - IntKind.u64.wrap c) = (a + b - c) % 18446744073709551616 := by
  simp only [IntKind.wrap_u64]; omega

/-- what is left of U behind T times N. -/
theorem left_eq (u d N T : Nat) (hN : N < 18446744073709551616) (hN0 : 0 < N) (hT : T = (u * 4294967296 + d) / N) :
    IntKind.u64.wrap (IntKind.u64.wrap (IntKind.u64.wrap ((u : Int) * 4294967296) + (d : Int)) - IntKind.u64.wrap ((T : Int) * (N : Int))) = (((u * 4294967296 + d) % N : Nat) : Int) := by
  rw [wrap3]
  have h := Nat.div_add_mod (u * 4294967296 + d) N
  rw [← hT] at h
  have hlt := Nat.mod_lt (u * 4294967296 + d) hN0
  have e : (u : Int) * 4294967296 + (d : Int) - (T : Int) * (N : Int) = (((u * 4294967296 + d) % N : Nat) : Int) := by
    rw [← Int.natCast_mul T N, Nat.mul_comm T N]; omega
  rw [e]; omega

/-- the numbers of Div64 behind its normalising shift. -/
theorem norm_in (hi lo y s : Nat) (hs2 : 2 ≤ s) (hs63 : s ≤ 63) (hhi : hi < y) (hlo : lo < 18446744073709551616) (hN : y * 2 ^ s < 18446744073709551616) :
    ∃ u1 d1 d0 H B l : Nat, IntKind.u64.wrap ((hi : Int) * 2 ^ s) = (H : Int) ∧ (lo : Int) / 2 ^ (64 - s) = (B : Int) ∧ bits .or .u64 (H : Int) (B : Int) = (u1 : Int) ∧
      IntKind.u64.wrap ((lo : Int) * 2 ^ s) = (l : Int) ∧ (l : Int) / 4294967296 = (d1 : Int) ∧ bits .and .u64 (l : Int) 4294967295 = (d0 : Int) ∧
      H < 18446744073709551616 ∧ B < 18446744073709551616 ∧ l < 18446744073709551616 ∧ u1 < y * 2 ^ s ∧ d1 < 4294967296 ∧ d0 < 4294967296 ∧
      (u1 * 4294967296 + d1) * 4294967296 + d0 = (hi * 18446744073709551616 + lo) * 2 ^ s := by
  have hp : 0 < 2 ^ s := Nat.two_pow_pos _
  have hpp : 2 ^ s * 2 ^ (64 - s) = 18446744073709551616 := by rw [← Nat.pow_add, show s + (64 - s) = 64 by omega]
  have hH : hi * 2 ^ s < 18446744073709551616 := Nat.lt_trans (Nat.mul_lt_mul_of_pos_right hhi hp) hN
  have hB : lo / 2 ^ (64 - s) < 2 ^ s := by rw [Nat.div_lt_iff_lt_mul (Nat.two_pow_pos _), hpp]; exact hlo
  have hB64 : lo / 2 ^ (64 - s) < 18446744073709551616 := Nat.lt_of_le_of_lt (Nat.div_le_self _ _) hlo
  have hor : hi * 2 ^ s ||| lo / 2 ^ (64 - s) = hi * 2 ^ s + lo / 2 ^ (64 - s) := by
    have := Nat.shiftLeft_add_eq_or_of_lt hB hi
    rw [Nat.shiftLeft_eq] at this
    exact this.symm
  have hl : lo * 2 ^ s = lo / 2 ^ (64 - s) * 18446744073709551616 + lo * 2 ^ s % 18446744073709551616 := by
    have e1 : lo * 2 ^ s / 18446744073709551616 = lo / 2 ^ (64 - s) := by
      rw [← hpp, Nat.mul_comm (2 ^ s) (2 ^ (64 - s)), Nat.mul_div_mul_right _ _ hp]
    have e2 := Nat.div_add_mod (lo * 2 ^ s) 18446744073709551616
    rw [e1] at e2; omega
  obtain ⟨l, hle⟩ : ∃ l, l = lo * 2 ^ s % 18446744073709551616 := ⟨_, rfl⟩
  have hll : l < 18446744073709551616 := by rw [hle]; exact Nat.mod_lt _ (by decide)
  refine ⟨hi * 2 ^ s + lo / 2 ^ (64 - s), l / 4294967296, l % 4294967296, hi * 2 ^ s, lo / 2 ^ (64 - s), l, ?_, ?_, ?_, ?_, ?_, ?_, hH, hB64, hll, ?_, ?_, ?_, ?_⟩
  · rw [← wrapN (hi * 2 ^ s) hH, Int.natCast_mul, Int.natCast_pow]; rfl
  · rw [Int.natCast_ediv, Int.natCast_pow]; rfl
  · rw [← hor]; exact bits_or_u64_nat _ _ hH hB64
  · rw [hle, ← wrapM (lo * 2 ^ s), Int.natCast_mul, Int.natCast_pow]; rfl
  · omega
  · exact maskN l hll
  · have : hi * 2 ^ s + 2 ^ s ≤ y * 2 ^ s := by rw [← Nat.succ_mul]; exact Nat.mul_le_mul_right _ hhi
    omega
  · omega
  · omega
  · rw [Nat.add_mul (hi * 18446744073709551616) lo, hl, ← hle, Nat.mul_right_comm hi]
    have := Nat.div_add_mod l 4294967296
    omega

theorem norm_out (hi lo y s u1 d1 d0 : Nat) (h : (u1 * 4294967296 + d1) * 4294967296 + d0 = (hi * 18446744073709551616 + lo) * 2 ^ s) :
    (((((u1 * 4294967296 + d1) % (y * 2 ^ s)) * 4294967296 + d0) % (y * 2 ^ s) : Nat) : Int) / 2 ^ s = (((hi * 18446744073709551616 + lo) % y : Nat) : Int) := by
  have hp : 0 < 2 ^ s := Nat.two_pow_pos _
  have e : (((u1 * 4294967296 + d1) % (y * 2 ^ s)) * 4294967296 + d0) % (y * 2 ^ s) = ((hi * 18446744073709551616 + lo) % y) * 2 ^ s := by
    rw [← Nat.mul_mod_mul_right (2 ^ s) (hi * 18446744073709551616 + lo) y, ← h, Nat.add_mod, Nat.mul_mod, Nat.mod_mod, ← Nat.mul_mod, ← Nat.add_mod]
  have e3 : ((2 ^ s : Nat) : Int) = 2 ^ s := by rw [Int.natCast_pow]; rfl
  rw [e, ← e3, ← Int.natCast_ediv, Nat.mul_div_cancel _ hp]

set_option maxHeartbeats 4000000 in
set_option maxRecDepth 100000 in
theorem div64_any (hi lo y : Nat) (hy0 : 0 < y) (hy : y < 4611686018427387904) (hhi : hi < y) (hlo : lo < 18446744073709551616) (w : World) :
    Calls Try.prog 62 #[.int .u64 hi, .int .u64 lo, .int .u64 y] w fun e w' => (∃ q : Int, e = .returned (.tuple #[.int .u64 q, .int .u64 (((hi * 18446744073709551616 + lo) % y : Nat) : Int)])) ∧ ∃ n, w' = w.drewN n := by
  have y0f : ((y : Int) == 0) = false := by simp; omega
  by_cases h0 : hi = 0
  · subst h0
    obtain ⟨r, hr, ra, rb⟩ := rem_nat lo y
    obtain ⟨q, hq, qa, qb⟩ := quo_nat lo y
    have hrl : r < y := by rw [hr]; exact Nat.mod_lt _ hy0
    have hql : q ≤ lo := by rw [hq]; exact Nat.div_le_self _ _
    rw [Nat.zero_mul, Nat.zero_add, ← hr]
    clear hr hq
    have hy00 : y ≠ 0 := by omega
    go_enter Try.func62, Try.ntmps62
    go_wp2_with fail
    go_quiet (fail)
    go_wp2_with fail
    go_ret2
    exact ⟨⟨_, rfl⟩, nq, rfl⟩
  · have h0f : ((hi : Int) == 0) = false := by simp; omega
    obtain ⟨s, hs2, hs63, hse, hNlo, hNhi⟩ := lz_shift y hy0 hy
    have hlz := bits_LeadingZeros64 (y : Int) w (by omega) (by omega)
    rw [Int.toNat_natCast, hse] at hlz
    obtain ⟨u1, d1, d0, H, B, l, hHa, hBa, hUa, hla, hl1, hl0, hHb, hBb, hlb, hub, hd1, hd0, hall⟩ := norm_in hi lo y s hs2 hs63 hhi hlo hNhi
    obtain ⟨N, hN⟩ : ∃ N, N = y * 2 ^ s := ⟨_, rfl⟩
    have hNa : IntKind.u64.wrap ((y : Int) * 2 ^ s) = (N : Int) := by
      rw [hN, ← wrapN (y * 2 ^ s) hNhi, Int.natCast_mul, Int.natCast_pow]; rfl
    rw [← hN] at hNlo hNhi hub
    have hN64 := hNhi
    have hN0 : 0 < N := by omega
    obtain ⟨N1, hN1e, N1a, N1b⟩ := quo_nat N 4294967296
    obtain ⟨N0, hN0e⟩ : ∃ x, x = N % 4294967296 := ⟨_, rfl⟩
    have hN0a : bits .and .u64 (N : Int) 4294967295 = (N0 : Int) := by rw [hN0e]; exact maskN N hNhi
    have hN1l : 2147483648 ≤ N1 ∧ N1 < 4294967296 := by omega
    obtain ⟨hN1l, hN1h⟩ := hN1l
    have hN0l : N0 < 4294967296 := by omega
    have hN1ne : N1 ≠ 0 := by omega
    have HN1 := hidd hN1e
    have HN0 := hidd hN0e
    clear hN1e hN0e
    have HTail : Hid (∀ V, V = (u1 * 4294967296 + d1) % N → ((((V * 4294967296 + d0) % N : Nat) : Int) / 2 ^ s = (((hi * 18446744073709551616 + lo) % y : Nat) : Int))) := by
      intro V hV
      rw [hV, hN]
      exact norm_out hi lo y s u1 d1 d0 hall
    clear hN hall
    have hu1 := hub
    simp only [Int.cast_ofNat_Int] at N1a N1b
    obtain ⟨S1, hS1e, S1a, S1b⟩ := quo_nat u1 N1
    obtain ⟨P1, hP1⟩ : ∃ x, x = S1 * N1 := ⟨_, rfl⟩
    have hP1i : (S1 : Int) * (N1 : Int) = (P1 : Int) := by rw [hP1, Int.natCast_mul]
    have hP1l : P1 ≤ u1 := by rw [hP1, hS1e]; exact Nat.div_mul_le_self _ _
    obtain ⟨E1, hE1⟩ : ∃ x, x = u1 - P1 := ⟨_, rfl⟩
    have HE1 : Hid (S1 * (N / 4294967296) + E1 = u1) := by show _ = _; rw [← HN1.out, ← hP1, hE1]; omega
    have hE1l : E1 < 4294967296 := by
      have h5 : u1 - P1 = u1 % N1 := by rw [hP1, hS1e]; have := Nat.div_add_mod u1 N1; rw [Nat.mul_comm] at this; omega
      have h6 := Nat.mod_lt u1 (show N1 > 0 by omega)
      omega
    have hE1i : (u1 : Int) - (P1 : Int) = (E1 : Int) := by omega
    have hS1 := trial_start u1 d1 N hNlo hu1 hd1
    rw [← HN1.out, ← hS1e] at hS1
    clear hP1 hS1e hE1

    go_enter Try.func62, Try.ntmps62
    go_wp2_with fail
    refine hlz.mono ?_
    rintro e wx ⟨rfl, rfl⟩
    clear hlz
    go_wp2_with fail
    go_loop [15, 16] (fun q r => ∃ (Q R : Nat), q = .int .u64 Q ∧ r = .int .u64 R ∧ R < 4294967296 ∧ Q ≤ 4294967297 ∧ Hid (Q * (N / 4294967296) + R = u1) ∧ Hid ((u1 * 4294967296 + d1) / N ≤ Q)) (fun q _ => (intOf q).toNat)
    case atStart => exact ⟨S1, E1, rfl, by go_num, hE1l, hS1.2, HE1, hS1.1⟩
    case round =>
      obtain ⟨Q1, R1, rfl, rfl, hR1, hQ1, HQR1, HT1⟩ := hrel
      have hTl := quot_lt u1 d1 N hu1 hd1
      by_cases h1 : 4294967296 ≤ Q1
      · have hdd1 : decide ((4294967296 : Int) ≤ (Q1 : Int)) = true := by simp; omega
        have HT' : Hid ((u1 * 4294967296 + d1) / N ≤ Q1 - 1) := by show _ ≤ _; omega
        have HQR' : Hid ((Q1 - 1) * (N / 4294967296) + (R1 + N1) = u1) := by
          show _ = _
          have hN1e := HN1.out
          have := HQR1.out
          have e : Q1 * (N / 4294967296) = (Q1 - 1) * (N / 4294967296) + N / 4294967296 := by
            conv => lhs; rw [show Q1 = (Q1 - 1) + 1 by omega]
            rw [Nat.add_mul, Nat.one_mul]
          omega
        clear hTl
        by_cases h2 : 4294967296 ≤ R1 + N1
        · have hdd2 : decide ((4294967296 : Int) ≤ (R1 : Int) + (N1 : Int)) = true := by simp; omega
          have HQ : Q1 - 1 = (u1 * 4294967296 + d1) / N := by
            refine trial_end u1 d1 N (Q1 - 1) (R1 + N1) hN0 HQR'.out ?_ HT'.out
            have : (Q1 - 1) * (N % 4294967296) ≤ 4294967296 * 4294967295 := Nat.mul_le_mul (by omega) (by omega)
            omega
          obtain ⟨q', hq'⟩ : ∃ q', q' = Q1 - 1 := ⟨_, rfl⟩
          rw [← hq'] at HQ
          have hqi : (Q1 : Int) - 1 = (q' : Int) := by omega
          have hqb : q' ≤ 4294967296 := by omega
          clear hq' HT' HQR'
          have hl1 := left_eq u1 d1 N q' hN64 hN0 HQ
          clear HQ
          obtain ⟨V, hV⟩ : ∃ V, V = (u1 * 4294967296 + d1) % N := ⟨_, rfl⟩
          rw [← hV] at hl1
          have hu2 : V < N := by rw [hV]; exact Nat.mod_lt _ hN0
          have HFin : Hid ((((V * 4294967296 + d0) % N : Nat) : Int) / 2 ^ s = (((hi * 18446744073709551616 + lo) % y : Nat) : Int)) := HTail.out V hV
          clear hV
          have hd2 := hd0
          obtain ⟨S2, hS2e, S2a, S2b⟩ := quo_nat V N1
          obtain ⟨P2, hP2⟩ : ∃ x, x = S2 * N1 := ⟨_, rfl⟩
          have hP2i : (S2 : Int) * (N1 : Int) = (P2 : Int) := by rw [hP2, Int.natCast_mul]
          have hP2l : P2 ≤ V := by rw [hP2, hS2e]; exact Nat.div_mul_le_self _ _
          obtain ⟨E2, hE2⟩ : ∃ x, x = V - P2 := ⟨_, rfl⟩
          have HE2 : Hid (S2 * (N / 4294967296) + E2 = V) := by show _ = _; rw [← HN1.out, ← hP2, hE2]; omega
          have hE2l : E2 < 4294967296 := by
            have h5 : V - P2 = V % N1 := by rw [hP2, hS2e]; have := Nat.div_add_mod V N1; rw [Nat.mul_comm] at this; omega
            have h6 := Nat.mod_lt V (show N1 > 0 by omega)
            omega
          have hE2i : (V : Int) - (P2 : Int) = (E2 : Int) := by omega
          have hS2 := trial_start V d0 N hNlo hu2 hd2
          rw [← HN1.out, ← hS2e] at hS2
          clear hP2 hS2e hE2
          go_wp2_with fail
          go_loop [18, 16] (fun q r => ∃ (Q R : Nat), q = .int .u64 Q ∧ r = .int .u64 R ∧ R < 4294967296 ∧ Q ≤ 4294967297 ∧ Hid (Q * (N / 4294967296) + R = V) ∧ Hid ((V * 4294967296 + d0) / N ≤ Q)) (fun q _ => (intOf q).toNat)
          case atStart => exact ⟨S2, E2, rfl, by go_num, hE2l, hS2.2, HE2, hS2.1⟩
          case round =>
            obtain ⟨Q2, R2, rfl, rfl, hR2, hQ2, HQR2, HT2⟩ := hrel
            have hTl := quot_lt V d0 N hu2 hd0
            by_cases h1 : 4294967296 ≤ Q2
            · have hdd1 : decide ((4294967296 : Int) ≤ (Q2 : Int)) = true := by simp; omega
              have HT' : Hid ((V * 4294967296 + d0) / N ≤ Q2 - 1) := by show _ ≤ _; omega
              have HQR' : Hid ((Q2 - 1) * (N / 4294967296) + (R2 + N1) = V) := by
                show _ = _
                have hN1e := HN1.out
                have := HQR2.out
                have e : Q2 * (N / 4294967296) = (Q2 - 1) * (N / 4294967296) + N / 4294967296 := by
                  conv => lhs; rw [show Q2 = (Q2 - 1) + 1 by omega]
                  rw [Nat.add_mul, Nat.one_mul]
                omega
              clear hTl
              by_cases h2 : 4294967296 ≤ R2 + N1
              · have hdd2 : decide ((4294967296 : Int) ≤ (R2 : Int) + (N1 : Int)) = true := by simp; omega
                have HQ : Q2 - 1 = (V * 4294967296 + d0) / N := by
                  refine trial_end V d0 N (Q2 - 1) (R2 + N1) hN0 HQR'.out ?_ HT'.out
                  have : (Q2 - 1) * (N % 4294967296) ≤ 4294967296 * 4294967295 := Nat.mul_le_mul (by omega) (by omega)
                  omega
                obtain ⟨q', hq'⟩ : ∃ q', q' = Q2 - 1 := ⟨_, rfl⟩
                rw [← hq'] at HQ
                have hqi : (Q2 : Int) - 1 = (q' : Int) := by omega
                have hqb : q' ≤ 4294967296 := by omega
                clear hq' HT' HQR'
                have hl2 := left_eq V d0 N q' hN64 hN0 HQ
                clear HQ
                obtain ⟨Z, hZ⟩ : ∃ Z, Z = (V * 4294967296 + d0) % N := ⟨_, rfl⟩
                rw [← hZ] at hl2
                have hz2 : (Z : Int) / 2 ^ s = (((hi * 18446744073709551616 + lo) % y : Nat) : Int) := by rw [hZ]; exact HFin.out
                clear hZ
                go_wp2_with fail
                go_ret2
                exact ⟨⟨_, rfl⟩, 0, rfl⟩
              · have hdd2 : decide ((4294967296 : Int) ≤ (R2 : Int) + (N1 : Int)) = false := by simp; omega
                go_wp2_with fail
                go_round
                case rel => exact ⟨Q2 - 1, R2 + N1, by go_num, by go_num, by omega, by omega, HQR', HT'⟩
                case measure => simp [intOf]; omega
            · have hdd1 : decide ((4294967296 : Int) ≤ (Q2 : Int)) = false := by simp; omega
              obtain ⟨X, hX⟩ : ∃ X, X = Q2 * N0 := ⟨_, rfl⟩
              have hXi : (Q2 : Int) * (N0 : Int) = (X : Int) := by rw [hX, Int.natCast_mul]
              have hXb : X ≤ 4294967295 * 4294967295 := by rw [hX]; exact Nat.mul_le_mul (by omega) (by omega)
              by_cases h3 : 4294967296 * R2 + d0 < X
              · have hdd3 : decide (4294967296 * (R2 : Int) + (d0 : Int) < (X : Int)) = true := by simp; omega
                have hlt := trial_down V d0 N Q2 R2 HQR2.out (by rw [← HN0.out, ← hX]; exact h3)
                have HT' : Hid ((V * 4294967296 + d0) / N ≤ Q2 - 1) := Nat.le_sub_one_of_lt hlt
                have hq1 : 1 ≤ Q2 := Nat.lt_of_le_of_lt (Nat.zero_le _) hlt
                have HQR' : Hid ((Q2 - 1) * (N / 4294967296) + (R2 + N1) = V) := by
                  show _ = _
                  have hN1e := HN1.out
                  have := HQR2.out
                  have e : Q2 * (N / 4294967296) = (Q2 - 1) * (N / 4294967296) + N / 4294967296 := by
                    conv => lhs; rw [show Q2 = (Q2 - 1) + 1 by omega]
                    rw [Nat.add_mul, Nat.one_mul]
                  omega
                clear hTl hlt hX
                by_cases h2 : 4294967296 ≤ R2 + N1
                · have hdd2 : decide ((4294967296 : Int) ≤ (R2 : Int) + (N1 : Int)) = true := by simp; omega
                  have HQ : Q2 - 1 = (V * 4294967296 + d0) / N := by
                    refine trial_end V d0 N (Q2 - 1) (R2 + N1) hN0 HQR'.out ?_ HT'.out
                    have : (Q2 - 1) * (N % 4294967296) ≤ 4294967296 * 4294967295 := Nat.mul_le_mul (by omega) (by omega)
                    omega
                  obtain ⟨q', hq'⟩ : ∃ q', q' = Q2 - 1 := ⟨_, rfl⟩
                  rw [← hq'] at HQ
                  have hqi : (Q2 : Int) - 1 = (q' : Int) := by omega
                  have hqb : q' ≤ 4294967296 := by omega
                  clear hq' HT' HQR'
                  have hl2 := left_eq V d0 N q' hN64 hN0 HQ
                  clear HQ
                  obtain ⟨Z, hZ⟩ : ∃ Z, Z = (V * 4294967296 + d0) % N := ⟨_, rfl⟩
                  rw [← hZ] at hl2
                  have hz2 : (Z : Int) / 2 ^ s = (((hi * 18446744073709551616 + lo) % y : Nat) : Int) := by rw [hZ]; exact HFin.out
                  clear hZ
                  go_wp2_with fail
                  go_ret2
                  exact ⟨⟨_, rfl⟩, 0, rfl⟩
                · have hdd2 : decide ((4294967296 : Int) ≤ (R2 : Int) + (N1 : Int)) = false := by simp; omega
                  go_wp2_with fail
                  go_round
                  case rel => exact ⟨Q2 - 1, R2 + N1, by go_num, by go_num, by omega, by omega, HQR', HT'⟩
                  case measure => simp [intOf]; omega
              · have hdd3 : decide (4294967296 * (R2 : Int) + (d0 : Int) < (X : Int)) = false := by simp; omega
                have HQ : Q2 = (V * 4294967296 + d0) / N := trial_end V d0 N Q2 R2 hN0 HQR2.out (by rw [← HN0.out, ← hX]; omega) HT2.out
                have hqb : Q2 ≤ 4294967296 := by omega
                clear hTl hX
                have hl2 := left_eq V d0 N Q2 hN64 hN0 HQ
                clear HQ
                obtain ⟨Z, hZ⟩ : ∃ Z, Z = (V * 4294967296 + d0) % N := ⟨_, rfl⟩
                rw [← hZ] at hl2
                have hz2 : (Z : Int) / 2 ^ s = (((hi * 18446744073709551616 + lo) % y : Nat) : Int) := by rw [hZ]; exact HFin.out
                clear hZ
                go_wp2_with fail
                go_ret2
                exact ⟨⟨_, rfl⟩, 0, rfl⟩
        · have hdd2 : decide ((4294967296 : Int) ≤ (R1 : Int) + (N1 : Int)) = false := by simp; omega
          go_wp2_with fail
          go_round
          case rel => exact ⟨Q1 - 1, R1 + N1, by go_num, by go_num, by omega, by omega, HQR', HT'⟩
          case measure => simp [intOf]; omega
      · have hdd1 : decide ((4294967296 : Int) ≤ (Q1 : Int)) = false := by simp; omega
        obtain ⟨X, hX⟩ : ∃ X, X = Q1 * N0 := ⟨_, rfl⟩
        have hXi : (Q1 : Int) * (N0 : Int) = (X : Int) := by rw [hX, Int.natCast_mul]
        have hXb : X ≤ 4294967295 * 4294967295 := by rw [hX]; exact Nat.mul_le_mul (by omega) (by omega)
        by_cases h3 : 4294967296 * R1 + d1 < X
        · have hdd3 : decide (4294967296 * (R1 : Int) + (d1 : Int) < (X : Int)) = true := by simp; omega
          have hlt := trial_down u1 d1 N Q1 R1 HQR1.out (by rw [← HN0.out, ← hX]; exact h3)
          have HT' : Hid ((u1 * 4294967296 + d1) / N ≤ Q1 - 1) := Nat.le_sub_one_of_lt hlt
          have hq1 : 1 ≤ Q1 := Nat.lt_of_le_of_lt (Nat.zero_le _) hlt
          have HQR' : Hid ((Q1 - 1) * (N / 4294967296) + (R1 + N1) = u1) := by
            show _ = _
            have hN1e := HN1.out
            have := HQR1.out
            have e : Q1 * (N / 4294967296) = (Q1 - 1) * (N / 4294967296) + N / 4294967296 := by
              conv => lhs; rw [show Q1 = (Q1 - 1) + 1 by omega]
              rw [Nat.add_mul, Nat.one_mul]
            omega
          clear hTl hlt hX
          by_cases h2 : 4294967296 ≤ R1 + N1
          · have hdd2 : decide ((4294967296 : Int) ≤ (R1 : Int) + (N1 : Int)) = true := by simp; omega
            have HQ : Q1 - 1 = (u1 * 4294967296 + d1) / N := by
              refine trial_end u1 d1 N (Q1 - 1) (R1 + N1) hN0 HQR'.out ?_ HT'.out
              have : (Q1 - 1) * (N % 4294967296) ≤ 4294967296 * 4294967295 := Nat.mul_le_mul (by omega) (by omega)
              omega
            obtain ⟨q', hq'⟩ : ∃ q', q' = Q1 - 1 := ⟨_, rfl⟩
            rw [← hq'] at HQ
            have hqi : (Q1 : Int) - 1 = (q' : Int) := by omega
            have hqb : q' ≤ 4294967296 := by omega
            clear hq' HT' HQR'
            have hl1 := left_eq u1 d1 N q' hN64 hN0 HQ
            clear HQ
            obtain ⟨V, hV⟩ : ∃ V, V = (u1 * 4294967296 + d1) % N := ⟨_, rfl⟩
            rw [← hV] at hl1
            have hu2 : V < N := by rw [hV]; exact Nat.mod_lt _ hN0
            have HFin : Hid ((((V * 4294967296 + d0) % N : Nat) : Int) / 2 ^ s = (((hi * 18446744073709551616 + lo) % y : Nat) : Int)) := HTail.out V hV
            clear hV
            have hd2 := hd0
            obtain ⟨S2, hS2e, S2a, S2b⟩ := quo_nat V N1
            obtain ⟨P2, hP2⟩ : ∃ x, x = S2 * N1 := ⟨_, rfl⟩
            have hP2i : (S2 : Int) * (N1 : Int) = (P2 : Int) := by rw [hP2, Int.natCast_mul]
            have hP2l : P2 ≤ V := by rw [hP2, hS2e]; exact Nat.div_mul_le_self _ _
            obtain ⟨E2, hE2⟩ : ∃ x, x = V - P2 := ⟨_, rfl⟩
            have HE2 : Hid (S2 * (N / 4294967296) + E2 = V) := by show _ = _; rw [← HN1.out, ← hP2, hE2]; omega
            have hE2l : E2 < 4294967296 := by
              have h5 : V - P2 = V % N1 := by rw [hP2, hS2e]; have := Nat.div_add_mod V N1; rw [Nat.mul_comm] at this; omega
              have h6 := Nat.mod_lt V (show N1 > 0 by omega)
              omega
            have hE2i : (V : Int) - (P2 : Int) = (E2 : Int) := by omega
            have hS2 := trial_start V d0 N hNlo hu2 hd2
            rw [← HN1.out, ← hS2e] at hS2
            clear hP2 hS2e hE2
            go_wp2_with fail
            go_loop [18, 16] (fun q r => ∃ (Q R : Nat), q = .int .u64 Q ∧ r = .int .u64 R ∧ R < 4294967296 ∧ Q ≤ 4294967297 ∧ Hid (Q * (N / 4294967296) + R = V) ∧ Hid ((V * 4294967296 + d0) / N ≤ Q)) (fun q _ => (intOf q).toNat)
            case atStart => exact ⟨S2, E2, rfl, by go_num, hE2l, hS2.2, HE2, hS2.1⟩
            case round =>
              obtain ⟨Q2, R2, rfl, rfl, hR2, hQ2, HQR2, HT2⟩ := hrel
              have hTl := quot_lt V d0 N hu2 hd0
              by_cases h1 : 4294967296 ≤ Q2
              · have hdd1 : decide ((4294967296 : Int) ≤ (Q2 : Int)) = true := by simp; omega
                have HT' : Hid ((V * 4294967296 + d0) / N ≤ Q2 - 1) := by show _ ≤ _; omega
                have HQR' : Hid ((Q2 - 1) * (N / 4294967296) + (R2 + N1) = V) := by
                  show _ = _
                  have hN1e := HN1.out
                  have := HQR2.out
                  have e : Q2 * (N / 4294967296) = (Q2 - 1) * (N / 4294967296) + N / 4294967296 := by
                    conv => lhs; rw [show Q2 = (Q2 - 1) + 1 by omega]
                    rw [Nat.add_mul, Nat.one_mul]
                  omega
                clear hTl
                by_cases h2 : 4294967296 ≤ R2 + N1
                · have hdd2 : decide ((4294967296 : Int) ≤ (R2 : Int) + (N1 : Int)) = true := by simp; omega
                  have HQ : Q2 - 1 = (V * 4294967296 + d0) / N := by
                    refine trial_end V d0 N (Q2 - 1) (R2 + N1) hN0 HQR'.out ?_ HT'.out
                    have : (Q2 - 1) * (N % 4294967296) ≤ 4294967296 * 4294967295 := Nat.mul_le_mul (by omega) (by omega)
                    omega
                  obtain ⟨q', hq'⟩ : ∃ q', q' = Q2 - 1 := ⟨_, rfl⟩
                  rw [← hq'] at HQ
                  have hqi : (Q2 : Int) - 1 = (q' : Int) := by omega
                  have hqb : q' ≤ 4294967296 := by omega
                  clear hq' HT' HQR'
                  have hl2 := left_eq V d0 N q' hN64 hN0 HQ
                  clear HQ
                  obtain ⟨Z, hZ⟩ : ∃ Z, Z = (V * 4294967296 + d0) % N := ⟨_, rfl⟩
                  rw [← hZ] at hl2
                  have hz2 : (Z : Int) / 2 ^ s = (((hi * 18446744073709551616 + lo) % y : Nat) : Int) := by rw [hZ]; exact HFin.out
                  clear hZ
                  go_wp2_with fail
                  go_ret2
                  exact ⟨⟨_, rfl⟩, 0, rfl⟩
                · have hdd2 : decide ((4294967296 : Int) ≤ (R2 : Int) + (N1 : Int)) = false := by simp; omega
                  go_wp2_with fail
                  go_round
                  case rel => exact ⟨Q2 - 1, R2 + N1, by go_num, by go_num, by omega, by omega, HQR', HT'⟩
                  case measure => simp [intOf]; omega
              · have hdd1 : decide ((4294967296 : Int) ≤ (Q2 : Int)) = false := by simp; omega
                obtain ⟨X, hX⟩ : ∃ X, X = Q2 * N0 := ⟨_, rfl⟩
                have hXi : (Q2 : Int) * (N0 : Int) = (X : Int) := by rw [hX, Int.natCast_mul]
                have hXb : X ≤ 4294967295 * 4294967295 := by rw [hX]; exact Nat.mul_le_mul (by omega) (by omega)
                by_cases h3 : 4294967296 * R2 + d0 < X
                · have hdd3 : decide (4294967296 * (R2 : Int) + (d0 : Int) < (X : Int)) = true := by simp; omega
                  have hlt := trial_down V d0 N Q2 R2 HQR2.out (by rw [← HN0.out, ← hX]; exact h3)
                  have HT' : Hid ((V * 4294967296 + d0) / N ≤ Q2 - 1) := Nat.le_sub_one_of_lt hlt
                  have hq1 : 1 ≤ Q2 := Nat.lt_of_le_of_lt (Nat.zero_le _) hlt
                  have HQR' : Hid ((Q2 - 1) * (N / 4294967296) + (R2 + N1) = V) := by
                    show _ = _
                    have hN1e := HN1.out
                    have := HQR2.out
                    have e : Q2 * (N / 4294967296) = (Q2 - 1) * (N / 4294967296) + N / 4294967296 := by
                      conv => lhs; rw [show Q2 = (Q2 - 1) + 1 by omega]
                      rw [Nat.add_mul, Nat.one_mul]
                    omega
                  clear hTl hlt hX
                  by_cases h2 : 4294967296 ≤ R2 + N1
                  · have hdd2 : decide ((4294967296 : Int) ≤ (R2 : Int) + (N1 : Int)) = true := by simp; omega
                    have HQ : Q2 - 1 = (V * 4294967296 + d0) / N := by
                      refine trial_end V d0 N (Q2 - 1) (R2 + N1) hN0 HQR'.out ?_ HT'.out
                      have : (Q2 - 1) * (N % 4294967296) ≤ 4294967296 * 4294967295 := Nat.mul_le_mul (by omega) (by omega)
                      omega
                    obtain ⟨q', hq'⟩ : ∃ q', q' = Q2 - 1 := ⟨_, rfl⟩
                    rw [← hq'] at HQ
                    have hqi : (Q2 : Int) - 1 = (q' : Int) := by omega
                    have hqb : q' ≤ 4294967296 := by omega
                    clear hq' HT' HQR'
                    have hl2 := left_eq V d0 N q' hN64 hN0 HQ
                    clear HQ
                    obtain ⟨Z, hZ⟩ : ∃ Z, Z = (V * 4294967296 + d0) % N := ⟨_, rfl⟩
                    rw [← hZ] at hl2
                    have hz2 : (Z : Int) / 2 ^ s = (((hi * 18446744073709551616 + lo) % y : Nat) : Int) := by rw [hZ]; exact HFin.out
                    clear hZ
                    go_wp2_with fail
                    go_ret2
                    exact ⟨⟨_, rfl⟩, 0, rfl⟩
                  · have hdd2 : decide ((4294967296 : Int) ≤ (R2 : Int) + (N1 : Int)) = false := by simp; omega
                    go_wp2_with fail
                    go_round
                    case rel => exact ⟨Q2 - 1, R2 + N1, by go_num, by go_num, by omega, by omega, HQR', HT'⟩
                    case measure => simp [intOf]; omega
                · have hdd3 : decide (4294967296 * (R2 : Int) + (d0 : Int) < (X : Int)) = false := by simp; omega
                  have HQ : Q2 = (V * 4294967296 + d0) / N := trial_end V d0 N Q2 R2 hN0 HQR2.out (by rw [← HN0.out, ← hX]; omega) HT2.out
                  have hqb : Q2 ≤ 4294967296 := by omega
                  clear hTl hX
                  have hl2 := left_eq V d0 N Q2 hN64 hN0 HQ
                  clear HQ
                  obtain ⟨Z, hZ⟩ : ∃ Z, Z = (V * 4294967296 + d0) % N := ⟨_, rfl⟩
                  rw [← hZ] at hl2
                  have hz2 : (Z : Int) / 2 ^ s = (((hi * 18446744073709551616 + lo) % y : Nat) : Int) := by rw [hZ]; exact HFin.out
                  clear hZ
                  go_wp2_with fail
                  go_ret2
                  exact ⟨⟨_, rfl⟩, 0, rfl⟩
          · have hdd2 : decide ((4294967296 : Int) ≤ (R1 : Int) + (N1 : Int)) = false := by simp; omega
            go_wp2_with fail
            go_round
            case rel => exact ⟨Q1 - 1, R1 + N1, by go_num, by go_num, by omega, by omega, HQR', HT'⟩
            case measure => simp [intOf]; omega
        · have hdd3 : decide (4294967296 * (R1 : Int) + (d1 : Int) < (X : Int)) = false := by simp; omega
          have HQ : Q1 = (u1 * 4294967296 + d1) / N := trial_end u1 d1 N Q1 R1 hN0 HQR1.out (by rw [← HN0.out, ← hX]; omega) HT1.out
          have hqb : Q1 ≤ 4294967296 := by omega
          clear hTl hX
          have hl1 := left_eq u1 d1 N Q1 hN64 hN0 HQ
          clear HQ
          obtain ⟨V, hV⟩ : ∃ V, V = (u1 * 4294967296 + d1) % N := ⟨_, rfl⟩
          rw [← hV] at hl1
          have hu2 : V < N := by rw [hV]; exact Nat.mod_lt _ hN0
          have HFin : Hid ((((V * 4294967296 + d0) % N : Nat) : Int) / 2 ^ s = (((hi * 18446744073709551616 + lo) % y : Nat) : Int)) := HTail.out V hV
          clear hV
          have hd2 := hd0
          obtain ⟨S2, hS2e, S2a, S2b⟩ := quo_nat V N1
          obtain ⟨P2, hP2⟩ : ∃ x, x = S2 * N1 := ⟨_, rfl⟩
          have hP2i : (S2 : Int) * (N1 : Int) = (P2 : Int) := by rw [hP2, Int.natCast_mul]
          have hP2l : P2 ≤ V := by rw [hP2, hS2e]; exact Nat.div_mul_le_self _ _
          obtain ⟨E2, hE2⟩ : ∃ x, x = V - P2 := ⟨_, rfl⟩
          have HE2 : Hid (S2 * (N / 4294967296) + E2 = V) := by show _ = _; rw [← HN1.out, ← hP2, hE2]; omega
          have hE2l : E2 < 4294967296 := by
            have h5 : V - P2 = V % N1 := by rw [hP2, hS2e]; have := Nat.div_add_mod V N1; rw [Nat.mul_comm] at this; omega
            have h6 := Nat.mod_lt V (show N1 > 0 by omega)
            omega
          have hE2i : (V : Int) - (P2 : Int) = (E2 : Int) := by omega
          have hS2 := trial_start V d0 N hNlo hu2 hd2
          rw [← HN1.out, ← hS2e] at hS2
          clear hP2 hS2e hE2
          go_wp2_with fail
          go_loop [18, 16] (fun q r => ∃ (Q R : Nat), q = .int .u64 Q ∧ r = .int .u64 R ∧ R < 4294967296 ∧ Q ≤ 4294967297 ∧ Hid (Q * (N / 4294967296) + R = V) ∧ Hid ((V * 4294967296 + d0) / N ≤ Q)) (fun q _ => (intOf q).toNat)
          case atStart => exact ⟨S2, E2, rfl, by go_num, hE2l, hS2.2, HE2, hS2.1⟩
          case round =>
            obtain ⟨Q2, R2, rfl, rfl, hR2, hQ2, HQR2, HT2⟩ := hrel
            have hTl := quot_lt V d0 N hu2 hd0
            by_cases h1 : 4294967296 ≤ Q2
            · have hdd1 : decide ((4294967296 : Int) ≤ (Q2 : Int)) = true := by simp; omega
              have HT' : Hid ((V * 4294967296 + d0) / N ≤ Q2 - 1) := by show _ ≤ _; omega
              have HQR' : Hid ((Q2 - 1) * (N / 4294967296) + (R2 + N1) = V) := by
                show _ = _
                have hN1e := HN1.out
                have := HQR2.out
                have e : Q2 * (N / 4294967296) = (Q2 - 1) * (N / 4294967296) + N / 4294967296 := by
                  conv => lhs; rw [show Q2 = (Q2 - 1) + 1 by omega]
                  rw [Nat.add_mul, Nat.one_mul]
                omega
              clear hTl
              by_cases h2 : 4294967296 ≤ R2 + N1
              · have hdd2 : decide ((4294967296 : Int) ≤ (R2 : Int) + (N1 : Int)) = true := by simp; omega
                have HQ : Q2 - 1 = (V * 4294967296 + d0) / N := by
                  refine trial_end V d0 N (Q2 - 1) (R2 + N1) hN0 HQR'.out ?_ HT'.out
                  have : (Q2 - 1) * (N % 4294967296) ≤ 4294967296 * 4294967295 := Nat.mul_le_mul (by omega) (by omega)
                  omega
                obtain ⟨q', hq'⟩ : ∃ q', q' = Q2 - 1 := ⟨_, rfl⟩
                rw [← hq'] at HQ
                have hqi : (Q2 : Int) - 1 = (q' : Int) := by omega
                have hqb : q' ≤ 4294967296 := by omega
                clear hq' HT' HQR'
                have hl2 := left_eq V d0 N q' hN64 hN0 HQ
                clear HQ
                obtain ⟨Z, hZ⟩ : ∃ Z, Z = (V * 4294967296 + d0) % N := ⟨_, rfl⟩
                rw [← hZ] at hl2
                have hz2 : (Z : Int) / 2 ^ s = (((hi * 18446744073709551616 + lo) % y : Nat) : Int) := by rw [hZ]; exact HFin.out
                clear hZ
                go_wp2_with fail
                go_ret2
                exact ⟨⟨_, rfl⟩, 0, rfl⟩
              · have hdd2 : decide ((4294967296 : Int) ≤ (R2 : Int) + (N1 : Int)) = false := by simp; omega
                go_wp2_with fail
                go_round
                case rel => exact ⟨Q2 - 1, R2 + N1, by go_num, by go_num, by omega, by omega, HQR', HT'⟩
                case measure => simp [intOf]; omega
            · have hdd1 : decide ((4294967296 : Int) ≤ (Q2 : Int)) = false := by simp; omega
              obtain ⟨X, hX⟩ : ∃ X, X = Q2 * N0 := ⟨_, rfl⟩
              have hXi : (Q2 : Int) * (N0 : Int) = (X : Int) := by rw [hX, Int.natCast_mul]
              have hXb : X ≤ 4294967295 * 4294967295 := by rw [hX]; exact Nat.mul_le_mul (by omega) (by omega)
              by_cases h3 : 4294967296 * R2 + d0 < X
              · have hdd3 : decide (4294967296 * (R2 : Int) + (d0 : Int) < (X : Int)) = true := by simp; omega
                have hlt := trial_down V d0 N Q2 R2 HQR2.out (by rw [← HN0.out, ← hX]; exact h3)
                have HT' : Hid ((V * 4294967296 + d0) / N ≤ Q2 - 1) := Nat.le_sub_one_of_lt hlt
                have hq1 : 1 ≤ Q2 := Nat.lt_of_le_of_lt (Nat.zero_le _) hlt
                have HQR' : Hid ((Q2 - 1) * (N / 4294967296) + (R2 + N1) = V) := by
                  show _ = _
                  have hN1e := HN1.out
                  have := HQR2.out
                  have e : Q2 * (N / 4294967296) = (Q2 - 1) * (N / 4294967296) + N / 4294967296 := by
                    conv => lhs; rw [show Q2 = (Q2 - 1) + 1 by omega]
                    rw [Nat.add_mul, Nat.one_mul]
                  omega
                clear hTl hlt hX
                by_cases h2 : 4294967296 ≤ R2 + N1
                · have hdd2 : decide ((4294967296 : Int) ≤ (R2 : Int) + (N1 : Int)) = true := by simp; omega
                  have HQ : Q2 - 1 = (V * 4294967296 + d0) / N := by
                    refine trial_end V d0 N (Q2 - 1) (R2 + N1) hN0 HQR'.out ?_ HT'.out
                    have : (Q2 - 1) * (N % 4294967296) ≤ 4294967296 * 4294967295 := Nat.mul_le_mul (by omega) (by omega)
                    omega
                  obtain ⟨q', hq'⟩ : ∃ q', q' = Q2 - 1 := ⟨_, rfl⟩
                  rw [← hq'] at HQ
                  have hqi : (Q2 : Int) - 1 = (q' : Int) := by omega
                  have hqb : q' ≤ 4294967296 := by omega
                  clear hq' HT' HQR'
                  have hl2 := left_eq V d0 N q' hN64 hN0 HQ
                  clear HQ
                  obtain ⟨Z, hZ⟩ : ∃ Z, Z = (V * 4294967296 + d0) % N := ⟨_, rfl⟩
                  rw [← hZ] at hl2
                  have hz2 : (Z : Int) / 2 ^ s = (((hi * 18446744073709551616 + lo) % y : Nat) : Int) := by rw [hZ]; exact HFin.out
                  clear hZ
                  go_wp2_with fail
                  go_ret2
                  exact ⟨⟨_, rfl⟩, 0, rfl⟩
                · have hdd2 : decide ((4294967296 : Int) ≤ (R2 : Int) + (N1 : Int)) = false := by simp; omega
                  go_wp2_with fail
                  go_round
                  case rel => exact ⟨Q2 - 1, R2 + N1, by go_num, by go_num, by omega, by omega, HQR', HT'⟩
                  case measure => simp [intOf]; omega
              · have hdd3 : decide (4294967296 * (R2 : Int) + (d0 : Int) < (X : Int)) = false := by simp; omega
                have HQ : Q2 = (V * 4294967296 + d0) / N := trial_end V d0 N Q2 R2 hN0 HQR2.out (by rw [← HN0.out, ← hX]; omega) HT2.out
                have hqb : Q2 ≤ 4294967296 := by omega
                clear hTl hX
                have hl2 := left_eq V d0 N Q2 hN64 hN0 HQ
                clear HQ
                obtain ⟨Z, hZ⟩ : ∃ Z, Z = (V * 4294967296 + d0) % N := ⟨_, rfl⟩
                rw [← hZ] at hl2
                have hz2 : (Z : Int) / 2 ^ s = (((hi * 18446744073709551616 + lo) % y : Nat) : Int) := by rw [hZ]; exact HFin.out
                clear hZ
                go_wp2_with fail
                go_ret2
                exact ⟨⟨_, rfl⟩, 0, rfl⟩

end Go.Proofs.Qxb6616212a
