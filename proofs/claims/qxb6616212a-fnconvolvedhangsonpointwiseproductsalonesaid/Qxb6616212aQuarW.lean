import Derived.Test.Qxb6616212aQuar
namespace Go.Proofs.Qxb6616212a
open Go.RowKit

set_option maxHeartbeats 4000000 in
set_option maxRecDepth 100000 in
theorem quar_any (M : Nat) (m : Md) (hg : Good m) (A s n B cap w4 : Nat) (x : Nat → Nat) (hA : s + 4 * B ≤ n) (_hn : n ≤ 65536) (hcap : 4 * B ≤ cap) (hcap2 : cap ≤ 65536) (hw4 : w4 ≤ m.p)
    (w : World) (hM : ModAt w M m) (rA : Row w A n x) (hx : Lo (2 * m.p) n x) (h0 : 0 < B) :
    Calls Try.prog 52 #[.pointer (some ⟨M, 0, none⟩), .slice (some ⟨A, s, none⟩) ((4 * B : Nat)) cap, .int .u64 w4] w fun e w' => e = .returned (.tuple #[]) ∧ Row w' A n (qtTo m w4 s x B) ∧ Kept (fun b => b = A) w w' := by
  have hlt := hg.lt
  have hbig := hg.big
  have c0 := hM.c0
  have cinv := hM.c2
  obtain ⟨P2, hP2⟩ : ∃ P2, P2 = 2 * m.p := ⟨_, rfl⟩
  have e2p : IntKind.u64.wrap (2 * (m.p : Int)) = (P2 : Int) := by rw [IntKind.wrap_u64]; omega
  have HP2 := hidd hP2
  have hP2a : P2 < 9223372036854775808 := by omega
  clear hP2
  go_enter Try.func52, Try.ntmps52
  go_wp2_with fail
  go_quiet (fail)
  go_wp2_with fail
  clear c0 cinv e2p
  go_loopw [1] (fun ta wr => ∃ (k c l : Nat) (ao : Option Addr), k ≤ B ∧ Hid (l = 4 * (B - k)) ∧ ta = .slice ao l c ∧ (k < B → ao = some ⟨A, s + 4 * k, none⟩ ∧ l ≤ c ∧ c ≤ 65536) ∧ Row wr A n (qtTo m w4 s x k) ∧ Kept (fun b => b = A) w wr) (fun ta _ => match ta with | .slice _ l _ => l | _ => 0)
  case atStart => exact ⟨0, cap, 4 * B, _, by omega, rfl, rfl, fun _ => ⟨rfl, by omega, by omega⟩, rA.drewN _, (Kept.refl _ w).drewNR _⟩
  case round =>
    obtain ⟨k, c, l, ao, hk, HL, rfl, hao, rk, kr⟩ := hrel
    by_cases hlk : k < B
    · obtain ⟨rfl, hc1, hc2⟩ := hao hlk
      clear hao
      have hl4 : 4 ≤ l := by rw [HL.out]; omega
      have ca := rk.cell (s + 4 * k) (by omega)
      have cb := rk.cell (s + 4 * k + 1) (by omega)
      have cc := rk.cell (s + 4 * k + 2) (by omega)
      have cd := rk.cell (s + 4 * k + 3) (by omega)
      rw [qtTo_rest m w4 s x k _ (by omega)] at ca cb cc cd
      have la := hx (s + 4 * k) (by omega)
      have lb := hx (s + 4 * k + 1) (by omega)
      have lc := hx (s + 4 * k + 2) (by omega)
      have ld := hx (s + 4 * k + 3) (by omega)
      have HST : Hid (upd (upd (upd (upd (qtTo m w4 s x k) (s + 4 * k) (q0 m (x (s + 4 * k)) (x (s + 4 * k + 1)) (x (s + 4 * k + 2)) (x (s + 4 * k + 3))))
      (s + 4 * k + 2) (q2 m (x (s + 4 * k)) (x (s + 4 * k + 1)) (x (s + 4 * k + 2)) (x (s + 4 * k + 3))))
      (s + 4 * k + 1) (q1 m w4 (x (s + 4 * k)) (x (s + 4 * k + 1)) (x (s + 4 * k + 2)) (x (s + 4 * k + 3))))
      (s + 4 * k + 3) (q3 m w4 (x (s + 4 * k)) (x (s + 4 * k + 1)) (x (s + 4 * k + 2)) (x (s + 4 * k + 3))) = qtTo m w4 s x (k + 1)) := rfl
      obtain ⟨a, ha⟩ : ∃ a, a = x (s + 4 * k) := ⟨_, rfl⟩
      obtain ⟨b, hb⟩ : ∃ a, a = x (s + 4 * k + 1) := ⟨_, rfl⟩
      obtain ⟨g, hgg⟩ : ∃ a, a = x (s + 4 * k + 2) := ⟨_, rfl⟩
      obtain ⟨d, hd⟩ : ∃ a, a = x (s + 4 * k + 3) := ⟨_, rfl⟩
      rw [← ha] at ca la HST
      rw [← hb] at cb lb HST
      rw [← hgg] at cc lc HST
      rw [← hd] at cd ld HST
      clear ha hb hgg hd
      have hab := lt_p64 m hg (g + 2 * m.p - d) w4 (by omega) hw4
      have R4 := montL_any (g + 2 * m.p - d) w4 m.p m.inv (by omega) (by omega) hlt hg.invlt hab
      have L4 := montL_lt (g + 2 * m.p - d) w4 m.p m.inv (by omega) hab
      unfold q0 q1 q2 q3 at HST
      rw [← HP2.out] at la lb lc ld R4 L4 HST
      have R1 := redB_any (a + b) P2 (by omega) (by omega)
      have R2 := redB_any (a + P2 - b) P2 (by omega) (by omega)
      have R3 := redB_any (g + d) P2 (by omega) (by omega)
      have L1 := redB_lt (a + b) P2 (by omega)
      have L2 := redB_lt (a + P2 - b) P2 (by omega)
      have L3 := redB_lt (g + d) P2 (by omega)
      obtain ⟨S1, hS1⟩ : ∃ S, S = a + b := ⟨_, rfl⟩
      obtain ⟨S2, hS2⟩ : ∃ S, S = g + d := ⟨_, rfl⟩
      obtain ⟨T1, hT1⟩ : ∃ S, S = a + P2 := ⟨_, rfl⟩
      obtain ⟨T2, hT2⟩ : ∃ S, S = g + P2 := ⟨_, rfl⟩
      obtain ⟨D1, hD1⟩ : ∃ S, S = a + P2 - b := ⟨_, rfl⟩
      obtain ⟨D2, hD2⟩ : ∃ S, S = g + P2 - d := ⟨_, rfl⟩
      rw [← hS1] at R1 L1 HST
      rw [← hS2] at R3 L3 HST
      rw [← hD1] at R2 L2 HST
      rw [← hD2] at R4 L4 HST
      have w1 : IntKind.u64.wrap ((a : Int) + b) = (S1 : Int) := by rw [IntKind.wrap_u64]; omega
      have w2 : IntKind.u64.wrap ((g : Int) + d) = (S2 : Int) := by rw [IntKind.wrap_u64]; omega
      have w3 : IntKind.u64.wrap ((a : Int) + P2) = (T1 : Int) := by rw [IntKind.wrap_u64]; omega
      have w5 : IntKind.u64.wrap ((g : Int) + P2) = (T2 : Int) := by rw [IntKind.wrap_u64]; omega
      have w6 : IntKind.u64.wrap ((T1 : Int) - b) = (D1 : Int) := by rw [IntKind.wrap_u64]; omega
      have w7 : IntKind.u64.wrap ((T2 : Int) - d) = (D2 : Int) := by rw [IntKind.wrap_u64]; omega
      obtain ⟨r1, hr1⟩ : ∃ r, r = redB S1 P2 := ⟨_, rfl⟩
      obtain ⟨r2, hr2⟩ : ∃ r, r = redB D1 P2 := ⟨_, rfl⟩
      obtain ⟨r3, hr3⟩ : ∃ r, r = redB S2 P2 := ⟨_, rfl⟩
      obtain ⟨r4, hr4⟩ : ∃ r, r = montL D2 w4 m.p m.inv := ⟨_, rfl⟩
      rw [← hr1] at R1 L1 HST
      rw [← hr2] at R2 L2 HST
      rw [← hr3] at R3 L3 HST
      rw [← hr4] at R4 L4 HST
      clear hr1 hr2 hr3 hr4 hS1 hS2 hT1 hT2 hD1 hD2 hab la lb lc ld
      have U1 := redB_any (r1 + r3) P2 (by omega) (by omega)
      have U2 := redB_any (r1 + P2 - r3) P2 (by omega) (by omega)
      have U3 := redB_any (r2 + r4) P2 (by omega) (by omega)
      have U4 := redB_any (r2 + P2 - r4) P2 (by omega) (by omega)
      have e1 : ((r1 + r3 : Nat) : Int) = (r1 : Int) + r3 := by omega
      have e2 : ((r1 + P2 - r3 : Nat) : Int) = (r1 : Int) + P2 - r3 := by omega
      have e3 : ((r2 + r4 : Nat) : Int) = (r2 : Int) + r4 := by omega
      have e4 : ((r2 + P2 - r4 : Nat) : Int) = (r2 : Int) + P2 - r4 := by omega
      rw [e1] at U1
      rw [e2] at U2
      rw [e3] at U3
      rw [e4] at U4
      obtain ⟨z0, hz0⟩ : ∃ r, r = redB (r1 + r3) P2 := ⟨_, rfl⟩
      obtain ⟨z2, hz2⟩ : ∃ r, r = redB (r1 + P2 - r3) P2 := ⟨_, rfl⟩
      obtain ⟨z1, hz1⟩ : ∃ r, r = redB (r2 + r4) P2 := ⟨_, rfl⟩
      obtain ⟨z3, hz3⟩ : ∃ r, r = redB (r2 + P2 - r4) P2 := ⟨_, rfl⟩
      rw [← hz0] at U1 HST
      rw [← hz2] at U2 HST
      rw [← hz1] at U3 HST
      rw [← hz3] at U4 HST
      clear hz0 hz1 hz2 hz3 e1 e2 e3 e4
      go_wp2_with fail
      go_quiet (first | (go_at_call_of 55 (Value.int IntKind.u64 (S1:Int)); exact Calls.quiet_of_same ((R1 _).mono fun _ _ h => ⟨h.1, h.2.symm⟩)) | (go_at_call_of 55 (Value.int IntKind.u64 (D1:Int)); exact Calls.quiet_of_same ((R2 _).mono fun _ _ h => ⟨h.1, h.2.symm⟩)))
      have rk' := rk.drewN nq
      have kr' := kr.drewNR nq
      have cc' : (wr.drewN nq).cell? ⟨A, s + 4 * k + 2, none⟩ = some (.int .u64 g) := cc
      have cd' : (wr.drewN nq).cell? ⟨A, s + 4 * k + 3, none⟩ = some (.int .u64 d) := cd
      obtain ⟨wq, hwq⟩ : ∃ v, v = wr.drewN nq := ⟨_, rfl⟩
      rw [← hwq] at rk' kr' cc' cd' ⊢
      clear hwq ca cb cc cd rk kr R1 R2 w1 w3 w6
      go_wp2_with fail
      go_quiet (first | (go_at_call 55; exact Calls.quiet_of_same ((R3 _).mono fun _ _ h => ⟨h.1, h.2.symm⟩)) | (go_at_call 49; exact Calls.quiet_of_same ((R4 _).mono fun _ _ h => ⟨h.1, h.2.symm⟩)))
      have rk0 := rk'.drewN nq
      have k0 := kr'.drewNR nq
      clear rk' kr' cc' cd' R3 R4 w2 w5 w7
      have c1 := rk0.cell (s + 4 * k) (by omega)
      have f1 := rk0.frozen (s + 4 * k)
      have rk1 := rk0.set (s + 4 * k) z0
      have c2 := rk1.cell (s + 4 * k + 2) (by omega)
      have f2 := rk1.frozen (s + 4 * k + 2)
      have rk2 := rk1.set (s + 4 * k + 2) z2
      have c3 := rk2.cell (s + 4 * k + 1) (by omega)
      have f3 := rk2.frozen (s + 4 * k + 1)
      have rk3 := rk2.set (s + 4 * k + 1) z1
      have c4 := rk3.cell (s + 4 * k + 3) (by omega)
      have f4 := rk3.frozen (s + 4 * k + 3)
      have rk4 := rk3.set (s + 4 * k + 3) z3
      have k4 := setKept (setKept (setKept (setKept k0 (s + 4 * k) (.int .u64 z0)) (s + 4 * k + 2) (.int .u64 z2)) (s + 4 * k + 1) (.int .u64 z1)) (s + 4 * k + 3) (.int .u64 z3)
      go_wp2_with fail
      refine (U1 _).mono ?_
      rintro e wx ⟨rfl, rfl⟩
      go_wp2_with fail
      refine (U2 _).mono ?_
      rintro e wx ⟨rfl, rfl⟩
      go_wp2_with fail
      refine (U3 _).mono ?_
      rintro e wx ⟨rfl, rfl⟩
      go_wp2_with fail
      refine (U4 _).mono ?_
      rintro e wx ⟨rfl, rfl⟩
      go_wp2_with fail
      go_roundw
      case rel => exact ⟨k + 1, _, l - 4, _, by omega, (by show _ = _; rw [HL.out]; omega), rfl, fun hk1 => ⟨by rw [if_neg (by have := HL.out; omega), show s + 4 * (k + 1) = s + 4 * k + 4 by omega], by omega, by omega⟩, by rw [← HST.out]; exact rk4, k4⟩
      case measure => simp; omega
    · have e : k = B := by omega
      subst e
      have hl0 : l = 0 := by rw [HL.out]; omega
      subst hl0
      go_wp2_with fail
      go_end0
      exact ⟨rfl, rk, kr⟩

end Go.Proofs.Qxb6616212a
