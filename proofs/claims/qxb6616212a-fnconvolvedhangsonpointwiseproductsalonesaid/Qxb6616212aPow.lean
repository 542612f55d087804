import Derived.Test.Qxb6616212aDiv
namespace Go.Proofs.Qxb6616212a
open Go.RowKit

theorem drewN_drewN (w : World) (a b : Nat) : ∃ c, (w.drewN a).drewN b = w.drewN c := ⟨a + b, by
  simp only [World.drewN]; first | rfl | (congr 1; omega)⟩

set_option maxHeartbeats 1000000 in
set_option maxRecDepth 100000 in
theorem mulSlow_any (M : Nat) (m : Md) (hg : Good m) (a b : Nat) (ha : a < m.p) (hb : b < m.p) (w : World) (hM : ModAt w M m) :
    Calls Try.prog 58 #[.pointer (some ⟨M, 0, none⟩), .int .u64 a, .int .u64 b] w fun e w' => e = .returned (.int .u64 (a * b % m.p : Nat)) ∧ ∃ q, w' = w.drewN q := by
  have c0 := hM.c0
  have hlt := hg.lt
  have hbig := hg.big
  have m1 := mul64_any a b (by omega) (by omega) w
  have hab : a * b < m.p * 18446744073709551616 := lt_p64 m hg a b (by omega) (by omega)
  have hhi : a * b / 18446744073709551616 < m.p := (Nat.div_lt_iff_lt_mul (by decide)).2 hab
  have hd := Nat.div_add_mod (a * b) 18446744073709551616
  have m2 := div64_any (a * b / 18446744073709551616) (a * b % 18446744073709551616) m.p (by omega) hlt hhi (Nat.mod_lt _ (by decide)) w
  rw [show a * b / 18446744073709551616 * 18446744073709551616 + a * b % 18446744073709551616 = a * b by omega] at m2
  obtain ⟨r, hr⟩ : ∃ r, r = a * b % m.p := ⟨_, rfl⟩
  obtain ⟨hi, hhi'⟩ : ∃ x, x = a * b / 18446744073709551616 := ⟨_, rfl⟩
  obtain ⟨lo, hlo⟩ : ∃ x, x = a * b % 18446744073709551616 := ⟨_, rfl⟩
  rw [← hhi', ← hlo] at m1
  rw [← hhi', ← hlo, ← hr] at m2
  rw [← hr]
  clear hhi' hlo hr hd hhi hab hM
  go_enter Try.func58, Try.ntmps58
  go_wp2_with fail
  refine m1.mono ?_
  rintro e wx ⟨rfl, rfl⟩
  clear m1
  go_wp2_with fail
  refine m2.mono ?_
  rintro e wx ⟨⟨q, rfl⟩, n, rfl⟩
  clear m2
  go_wp2_with fail
  go_ret
  exact ⟨rfl, n, rfl⟩

theorem pow_round (z a e p : Nat) : z * a ^ e % p = (z * a ^ (e % 2) % p) * ((a * a % p) ^ (e / 2)) % p := by
  have h : a ^ e = a ^ (e % 2) * (a * a) ^ (e / 2) := by
    have e1 : e = e % 2 + 2 * (e / 2) := by omega
    conv => lhs; rw [e1]
    rw [Nat.pow_add, Nat.pow_mul, Nat.pow_two]
  rw [h, ← Nat.mul_assoc, Nat.mul_mod, Nat.pow_mod (a * a), Nat.mul_mod (z * a ^ (e % 2) % p) ((a * a % p) ^ (e / 2)) p, Nat.mod_mod]

set_option maxHeartbeats 1000000 in
set_option maxRecDepth 100000 in
theorem powSlow_any (M : Nat) (m : Md) (hg : Good m) (a e : Nat) (ha : a < m.p) (he : e < 18446744073709551616) (w : World) (hM : ModAt w M m) :
    Calls Try.prog 48 #[.pointer (some ⟨M, 0, none⟩), .int .u64 a, .int .u64 e] w fun r w' => r = .returned (.int .u64 (a ^ e % m.p : Nat)) ∧ ∃ q, w' = w.drewN q := by
  have hlt := hg.lt
  have hbig := hg.big
  obtain ⟨G, hG⟩ : ∃ G, G = a ^ e % m.p := ⟨_, rfl⟩
  rw [← hG]
  have HG := hidd hG
  clear hG
  go_enter Try.func48, Try.ntmps48
  go_wp2_with fail
  go_loopw [1, 2, 7] (fun ta te tz wr => ∃ (A E Z q : Nat), ta = .int .u64 A ∧ te = .int .u64 E ∧ tz = .int .u64 Z ∧ A < m.p ∧ E < 18446744073709551616 ∧ Z < m.p ∧ Hid (Z * A ^ E % m.p = G) ∧ wr = w.drewN q) (fun _ te _ _ => (intOf te).toNat)
  case atStart => exact ⟨a, e, 1, 0, rfl, rfl, rfl, ha, he, by omega, by show _ = _; rw [Nat.one_mul, HG.out], rfl⟩
  case round =>
    obtain ⟨A, E, Z, q, rfl, rfl, rfl, hA, hE, hZ, HZ, rfl⟩ := hrel
    by_cases h0 : E = 0
    · have H0 := hidd h0
      have hdz : decide (0 < E) = false := by simp; omega
      clear h0
      go_wp2_with fail
      go_ret
      refine ⟨?_, q, rfl⟩
      have := HZ.out
      rw [H0.out, Nat.pow_zero, Nat.mul_one, Nat.mod_eq_of_lt hZ] at this
      rw [this]; rfl
    · have hdz : decide (0 < E) = true := by simp; omega
      have hbe := bit_eq E 0 hE
      simp only [Nat.pow_zero, Nat.div_one, Int.pow_zero, Int.ediv_one] at hbe
      have hr := pow_round Z A E m.p
      have hA2 : A * A % m.p < m.p := Nat.mod_lt _ (by omega)
      have hE2 : E / 2 < 18446744073709551616 := by omega
      have hEi : (E : Int) / 2 = ((E / 2 : Nat) : Int) := by omega
      have m2 := fun q => mulSlow_any M m hg A A hA hA (w.drewN q) (hM.same rfl)
      rcases (by omega : E % 2 = 0 ∨ E % 2 = 1) with hb | hb
      · rw [hb] at hbe hr
        have hbf : (bits .and .u64 (E : Int) 1 == 1) = false := by rw [hbe]; rfl
        rw [Nat.pow_zero, Nat.mul_one, Nat.mod_eq_of_lt hZ] at hr
        have HR : Hid (Z * (A * A % m.p) ^ (E / 2) % m.p = G) := by show _ = _; rw [← hr]; exact HZ.out
        clear hbe hr hb HZ
        obtain ⟨A2, hA2e⟩ : ∃ x, x = A * A % m.p := ⟨_, rfl⟩
        obtain ⟨E2, hE2e⟩ : ∃ x, x = E / 2 := ⟨_, rfl⟩
        have hE2l : E2 < E := by omega
        rw [← hA2e] at HR m2 hA2
        rw [← hE2e] at HR hEi hE2
        clear hA2e hE2e
        go_wp2_with fail
        refine (m2 q).mono ?_
        rintro r wx ⟨rfl, q2, rfl⟩
        obtain ⟨q3, hq3⟩ := drewN_drewN w q q2
        rw [hq3]
        go_wp2_with fail
        go_roundw
        case rel => exact ⟨A2, E2, Z, q3, rfl, rfl, rfl, hA2, hE2, hZ, HR, rfl⟩
        case measure => simp [intOf]; omega
      · rw [hb] at hbe hr
        have hbf : (bits .and .u64 (E : Int) 1 == 1) = true := by rw [hbe]; rfl
        rw [Nat.pow_one] at hr
        have HR : Hid (Z * A % m.p * (A * A % m.p) ^ (E / 2) % m.p = G) := by show _ = _; rw [← hr]; exact HZ.out
        have m1 := mulSlow_any M m hg Z A hZ hA (w.drewN q) (hM.same rfl)
        have hZ2 : Z * A % m.p < m.p := Nat.mod_lt _ (by omega)
        clear hbe hr hb HZ
        obtain ⟨A2, hA2e⟩ : ∃ x, x = A * A % m.p := ⟨_, rfl⟩
        obtain ⟨Z2, hZ2e⟩ : ∃ x, x = Z * A % m.p := ⟨_, rfl⟩
        obtain ⟨E2, hE2e⟩ : ∃ x, x = E / 2 := ⟨_, rfl⟩
        have hE2l : E2 < E := by omega
        rw [← hA2e, ← hZ2e, ← hE2e] at HR
        rw [← hA2e] at m2 hA2
        rw [← hZ2e] at m1 hZ2
        rw [← hE2e] at hEi hE2
        clear hA2e hE2e hZ2e
        go_wp2_with fail
        refine m1.mono ?_
        rintro r wx ⟨rfl, q2, rfl⟩
        obtain ⟨q3, hq3⟩ := drewN_drewN w q q2
        rw [hq3]
        clear hq3 m1
        go_wp2_with fail
        refine (m2 q3).mono ?_
        rintro r wx ⟨rfl, q4, rfl⟩
        obtain ⟨q5, hq5⟩ := drewN_drewN w q3 q4
        rw [hq5]
        go_wp2_with fail
        go_roundw
        case rel => exact ⟨A2, E2, Z2, q5, rfl, rfl, rfl, hA2, hE2, hZ2, HR, rfl⟩
        case measure => simp [intOf]; omega

set_option maxHeartbeats 1000000 in
set_option maxRecDepth 100000 in
theorem invSlow_any (M : Nat) (m : Md) (hg : Good m) (a : Nat) (ha : a < m.p) (w : World) (hM : ModAt w M m) :
    Calls Try.prog 38 #[.pointer (some ⟨M, 0, none⟩), .int .u64 a] w fun r w' => r = .returned (.int .u64 (a ^ (m.p - 2) % m.p : Nat)) ∧ ∃ q, w' = w.drewN q := by
  have c0 := hM.c0
  have hlt := hg.lt
  have hbig := hg.big
  have h1 := powSlow_any M m hg a (m.p - 2) ha (by omega) w hM
  have e : ((m.p - 2 : Nat) : Int) = (m.p : Int) - 2 := by omega
  rw [e] at h1
  go_enter Try.func38, Try.ntmps38
  go_wp2_with fail
  refine h1.mono ?_
  rintro r wx ⟨rfl, q, rfl⟩
  go_wp2_with fail
  go_ret
  exact ⟨rfl, q, rfl⟩

end Go.Proofs.Qxb6616212a
