import Derived.Test.Qxb6616212aCong
namespace Go.Proofs.Qxb6616212a
open Go.RowKit

/-- the state of thirdsTime at k. -/
def TS (p hf k : Nat) (x y : Nat → Nat) (G : Nat → Int) : Prop :=
  (∀ i, i < k → Eqm p (y i) (G i) ∧ Eqm p (y (hf + i)) (G (hf + i)) ∧ Eqm p (y (2 * hf + i)) (G (2 * hf + i))) ∧
  (∀ i, k ≤ i → i < hf → y i = x i ∧ y (hf + i) = x (hf + i) ∧ y (2 * hf + i) = x (2 * hf + i))

theorem TS.start (p hf : Nat) (x : Nat → Nat) (G : Nat → Int) : TS p hf 0 x x G := ⟨fun _ h => by omega, fun _ _ _ => ⟨rfl, rfl, rfl⟩⟩
theorem TS.step {p hf k : Nat} {x y : Nat → Nat} {G : Nat → Int} (h : TS p hf k x y G) (hk : k < hf) (a b c : Nat) (ea : Eqm p a (G k)) (eb : Eqm p b (G (hf + k))) (ec : Eqm p c (G (2 * hf + k))) :
    TS p hf (k + 1) x (upd (upd (upd y k a) (hf + k) b) (2 * hf + k) c) G := by
  constructor
  · intro i hi
    by_cases e : i = k
    · subst e
      refine ⟨?_, ?_, ?_⟩
      · rw [upd_other _ _ _ _ (by omega), upd_other _ _ _ _ (by omega), upd_same]; exact ea
      · rw [upd_other _ _ _ _ (by omega), upd_same]; exact eb
      · rw [upd_same]; exact ec
    · obtain ⟨h0, h1, h2⟩ := h.1 i (by omega)
      refine ⟨?_, ?_, ?_⟩ <;> rw [upd_other _ _ _ _ (by omega), upd_other _ _ _ _ (by omega), upd_other _ _ _ _ (by omega)] <;> assumption
  · intro i hi hlt
    obtain ⟨h0, h1, h2⟩ := h.2 i (by omega) hlt
    refine ⟨?_, ?_, ?_⟩ <;> rw [upd_other _ _ _ _ (by omega), upd_other _ _ _ _ (by omega), upd_other _ _ _ _ (by omega)] <;> assumption
theorem TS.stop {p hf n : Nat} {x y : Nat → Nat} {G : Nat → Int} (h : TS p hf hf x y G) (hn : n ≤ 3 * hf) (i : Nat) (hi : i < n) : Eqm p (y i) (G i) := by
  by_cases h1 : i < hf
  · exact (h.1 i h1).1
  · by_cases h2 : i < 2 * hf
    · have := (h.1 (i - hf) (by omega)).2.1
      rwa [show hf + (i - hf) = i by omega] at this
    · have := (h.1 (i - 2 * hf) (by omega)).2.2
      rwa [show 2 * hf + (i - 2 * hf) = i by omega] at this

section
variable (c : Int) (T : Nat → Int) (hf : Nat) (g0 g1 g2 : Nat → Int) (k : Nat) (hk : k < hf)
include hk
theorem th_at0 : th c T hf g0 g1 g2 k = g0 k + g1 k * T (hf + k) + g2 k * (T (hf + k) * T (hf + k)) := by unfold th; rw [if_pos hk]
theorem th_at1 : th c T hf g0 g1 g2 (hf + k) = g0 k - g2 k * (T (hf + k) * T (hf + k)) + (g1 k * T (hf + k) - g2 k * (T (hf + k) * T (hf + k))) * c := by
  unfold th; rw [if_neg (by omega), if_pos (by omega), Nat.add_sub_cancel_left]
theorem th_at2 : th c T hf g0 g1 g2 (2 * hf + k) = g0 k - g1 k * T (hf + k) - (g1 k * T (hf + k) - g2 k * (T (hf + k) * T (hf + k))) * c := by
  unfold th; rw [if_neg (by omega), if_neg (by omega), show 2 * hf + k - (hf + hf) = k by omega, show 2 * hf + k - hf = hf + k by omega]
end

set_option maxHeartbeats 4000000 in
set_option maxRecDepth 100000 in
theorem time_any (M : Nat) (m : Md) (hg : Good m) (A I n hf : Nat) (x W : Nat → Nat) (g0 g1 g2 : Nat → Int) (h0 : 0 < hf) (hn1 : 3 * hf ≤ n) (hn2 : n ≤ 3 * hf) (hn : n ≤ 65536)
    (hAI : A ≠ I) (w : World) (hM : ModAt w M m) (rA : Row w A n x) (rI : Row w I (2 * hf) W) (hx : Lo (2 * m.p) n x) (hW : Le m.p (2 * hf) W)
    (e0 : ∀ i, i < hf → Eqm m.p (x i) (g0 i)) (e1 : ∀ i, i < hf → Eqm m.p (x (hf + i)) (g1 i)) (e2 : ∀ i, i < hf → Eqm m.p (x (2 * hf + i)) (g2 i)) :
    Calls Try.prog 43 #[.pointer (some ⟨M, 0, none⟩), .slice (some ⟨A, 0, none⟩) n n, .slice (some ⟨I, hf, none⟩) hf hf] w fun e w' => e = .returned (.tuple #[]) ∧ ∃ y, Row w' A n y ∧ Lo (2 * m.p) n y ∧
      (∀ i, i < n → Eqm m.p (y i) (th (tw m m.ci) (fun i => tw m (W i)) hf g0 g1 g2 i)) ∧ Kept (fun b => b = A) w w' := by
  have hlt := hg.lt
  have hbig := hg.big
  have hcil := hg.ci
  have c0 := hM.c0
  have cinv := hM.c2
  have cci := hM.c5
  obtain ⟨P2, hP2⟩ : ∃ P2, P2 = 2 * m.p := ⟨_, rfl⟩
  have e2p : IntKind.u64.wrap (2 * (m.p : Int)) = (P2 : Int) := by rw [IntKind.wrap_u64]; omega
  have HP2 := hidd hP2
  have hP2a : P2 < 9223372036854775808 := by omega
  obtain ⟨T, hTe⟩ : ∃ T, T = fun i => tw m (W i) := ⟨_, rfl⟩
  rw [← hTe]
  have HT : Hid (∀ i, tw m (W i) = T i) := fun i => by rw [hTe]
  obtain ⟨G, hG⟩ : ∃ G, G = th (tw m m.ci) T hf g0 g1 g2 := ⟨_, rfl⟩
  have HG := hidd hG
  rw [← hG]
  have E0 := hidd e0
  have E1 := hidd e1
  have E2 := hidd e2
  clear hP2 hTe hG e0 e1 e2
  have d3 : (n : Int).tdiv 3 = (hf : Int) := by rw [Int.tdiv_eq_ediv_of_nonneg (by omega)]; omega
  have s2 : IntKind.i64.wrap (2 * (hf : Int)) = 2 * (hf : Int) := by rw [IntKind.wrap_i64]; omega
  have s3 : IntKind.i64.wrap (3 * (hf : Int)) = 3 * (hf : Int) := by rw [IntKind.wrap_i64]; omega
  have ne1 : ¬ n = hf := by omega
  have ne2 : ¬ n = 2 * hf := by omega
  go_enter Try.func43, Try.ntmps43
  go_wp2_with fail
  go_quiet (fail)
  go_wp2_with fail
  go_quiet (fail)
  go_wp2_with fail
  clear c0 cinv cci e2p d3 s2 s3
  go_loopw [60] (fun tk wr => ∃ (k : Nat) (y : Nat → Nat), k ≤ hf ∧ tk = .int .i64 k ∧ Row wr A n y ∧ Lo (2 * m.p) n y ∧ Hid (TS m.p hf k x y G) ∧ Kept (fun b => b = A) w wr) (fun tk _ => hf - (intOf tk).toNat)
  case atStart => exact ⟨0, x, by omega, rfl, rA.drewN _, hx, TS.start m.p hf x G, (Kept.refl _ w).drewNR _⟩
  case round =>
    obtain ⟨k, y, hk, rfl, rk, lk, HS, kr⟩ := hrel
    by_cases hlk : k < hf
    · have ca := rk.cell k (by omega)
      have cb := rk.cell (hf + k) (by omega)
      have cc := rk.cell (2 * hf + k) (by omega)
      have cw := (rI.kept kr (fun e => hAI e.symm)).cell (hf + k) (by omega)
      obtain ⟨s0, s1, s2⟩ := HS.out.2 k (Nat.le_refl k) hlk
      have q0 := E0.out k hlk
      have q1 := E1.out k hlk
      have q2 := E2.out k hlk
      rw [← s0] at q0
      rw [← s1] at q1
      rw [← s2] at q2
      have la := lk k (by omega)
      have lb := lk (hf + k) (by omega)
      have lc := lk (2 * hf + k) (by omega)
      have lw := hW (hf + k) (by omega)
      have qw := tw_eqm m hg (W (hf + k))
      rw [HT.out (hf + k)] at qw
      clear s0 s1 s2
      obtain ⟨a, ha⟩ : ∃ a, a = y k := ⟨_, rfl⟩
      obtain ⟨b, hb⟩ : ∃ a, a = y (hf + k) := ⟨_, rfl⟩
      obtain ⟨c, hc⟩ : ∃ a, a = y (2 * hf + k) := ⟨_, rfl⟩
      obtain ⟨v, hv⟩ : ∃ a, a = W (hf + k) := ⟨_, rfl⟩
      rw [← ha] at ca la q0
      rw [← hb] at cb lb q1
      rw [← hc] at cc lc q2
      rw [← hv] at cw lw qw
      clear ha hb hc hv
      -- the square of the twiddle
      have bv := lt_p64 m hg v v (by omega) lw
      have R1 := montL_any v v m.p m.inv (by omega) (by omega) hlt hg.invlt bv
      have L1 := montL_lt v v m.p m.inv (by omega) bv
      have Q1 := montL_R m hg v v bv
      obtain ⟨v1, hv1⟩ : ∃ a, a = montL v v m.p m.inv := ⟨_, rfl⟩
      rw [← hv1] at R1 L1 Q1
      clear hv1 bv
      have R2 := redB_any v1 m.p (by omega) (by omega)
      have L2 := redB_lt v1 m.p L1
      have Q2 := redB_eqm v1 m.p
      obtain ⟨v2, hv2⟩ : ∃ a, a = redB v1 m.p := ⟨_, rfl⟩
      rw [← hv2] at R2 L2 Q2
      clear hv2
      -- y1 and y2
      have b1 := lt_p64 m hg b v (by omega) lw
      have R3 := montL_any b v m.p m.inv (by omega) (by omega) hlt hg.invlt b1
      have L3 := montL_lt b v m.p m.inv (by omega) b1
      have Q3 := montL_R m hg b v b1
      obtain ⟨y1, hy1⟩ : ∃ a, a = montL b v m.p m.inv := ⟨_, rfl⟩
      rw [← hy1] at R3 L3 Q3
      clear hy1 b1
      have b2 := lt_p64 m hg c v2 (by omega) (by omega)
      have R4 := montL_any c v2 m.p m.inv (by omega) (by omega) hlt hg.invlt b2
      have L4 := montL_lt c v2 m.p m.inv (by omega) b2
      have Q4 := montL_R m hg c v2 b2
      obtain ⟨y2, hy2⟩ : ∃ a, a = montL c v2 m.p m.inv := ⟨_, rfl⟩
      rw [← hy2] at R4 L4 Q4
      clear hy2 b2
      have b3 := lt_p64 m hg (y1 + 2 * m.p - y2) m.ci (by omega) (by omega)
      have R5 := montL_any (y1 + 2 * m.p - y2) m.ci m.p m.inv (by omega) (by omega) hlt hg.invlt b3
      have L5 := montL_lt (y1 + 2 * m.p - y2) m.ci m.p m.inv (by omega) b3
      -- modulo p
      have N1 : Eqm m.p y1 (g1 k * T (hf + k)) := by
        rw [Int.mul_assoc] at Q3; exact Q3.trans (q1.mul qw)
      have N2 : Eqm m.p y2 (g2 k * (T (hf + k) * T (hf + k))) := by
        rw [Int.mul_assoc] at Q4
        refine Q4.trans (q2.mul ?_)
        have h1 : Eqm m.p ((v2 : Int) * Rin m) ((v : Int) * v * Rin m * Rin m) := (Q2.trans Q1).mul (Eqm.refl _ _)
        have h2 : (v : Int) * v * Rin m * Rin m = ((v : Int) * Rin m) * ((v : Int) * Rin m) := by
          rw [Int.mul_assoc (v : Int) v (Rin m), Int.mul_assoc (v : Int) _ (Rin m), Int.mul_comm ((v : Int) * Rin m) (Rin m), ← Int.mul_assoc (v : Int) (Rin m)]
        rw [h2] at h1
        exact h1.trans (qw.mul qw)
      have N5 := montL_tw m hg (y1 + 2 * m.p - y2) m.ci (g1 k * T (hf + k) - g2 k * (T (hf + k) * T (hf + k))) b3 (N1.nsub L4 N2)
      have M0 : Eqm m.p (redB (redB (a + y1) (2 * m.p) + y2) (2 * m.p) : Nat) (G k) := by
        rw [HG.out, th_at0 _ _ _ _ _ _ k hlk]; exact ((q0.nadd N1).red.nadd N2).red
      have M1 : Eqm m.p (redB (redB (a + 2 * m.p - y2) (2 * m.p) + montL (y1 + 2 * m.p - y2) m.ci m.p m.inv) (2 * m.p) : Nat) (G (hf + k)) := by
        rw [HG.out, th_at1 _ _ _ _ _ _ k hlk]; exact ((q0.nsub L4 N2).red.nadd N5).red
      have M2 : Eqm m.p (redB (redB (a + 2 * m.p - y1) (2 * m.p) + 2 * m.p - montL (y1 + 2 * m.p - y2) m.ci m.p m.inv) (2 * m.p) : Nat) (G (2 * hf + k)) := by
        rw [HG.out, th_at2 _ _ _ _ _ _ k hlk]; exact (Eqm.nsub L5 (q0.nsub L3 N1).red N5).red
      clear N1 N2 N5 Q1 Q2 Q3 Q4 q0 q1 q2 qw b3
      rw [← HP2.out] at L1 L3 L4 L5 R5 M0 M1 M2 la lb lc
      obtain ⟨ee, hee⟩ : ∃ a, a = montL (y1 + P2 - y2) m.ci m.p m.inv := ⟨_, rfl⟩
      rw [← hee] at R5 L5 M1 M2
      clear hee
      have U0 := redB_any (a + y1) P2 (by omega) (by omega)
      have B0 := redB_lt (a + y1) P2 (by omega)
      have U2 := redB_any (a + P2 - y2) P2 (by omega) (by omega)
      have B2 := redB_lt (a + P2 - y2) P2 (by omega)
      have U4 := redB_any (a + P2 - y1) P2 (by omega) (by omega)
      have B4 := redB_lt (a + P2 - y1) P2 (by omega)
      obtain ⟨r0, hr0⟩ : ∃ a', a' = redB (a + y1) P2 := ⟨_, rfl⟩
      obtain ⟨r2, hr2⟩ : ∃ a', a' = redB (a + P2 - y2) P2 := ⟨_, rfl⟩
      obtain ⟨r4, hr4⟩ : ∃ a', a' = redB (a + P2 - y1) P2 := ⟨_, rfl⟩
      rw [← hr0] at U0 B0 M0
      rw [← hr2] at U2 B2 M1
      rw [← hr4] at U4 B4 M2
      clear hr0 hr2 hr4
      have U1 := redB_any (r0 + y2) P2 (by omega) (by omega)
      have U3 := redB_any (r2 + ee) P2 (by omega) (by omega)
      have U5 := redB_any (r4 + P2 - ee) P2 (by omega) (by omega)
      have B1 := redB_lt (r0 + y2) P2 (by omega)
      have B3 := redB_lt (r2 + ee) P2 (by omega)
      have B5 := redB_lt (r4 + P2 - ee) P2 (by omega)
      obtain ⟨z0, hz0⟩ : ∃ a', a' = redB (r0 + y2) P2 := ⟨_, rfl⟩
      obtain ⟨z1, hz1⟩ : ∃ a', a' = redB (r2 + ee) P2 := ⟨_, rfl⟩
      obtain ⟨z2, hz2⟩ : ∃ a', a' = redB (r4 + P2 - ee) P2 := ⟨_, rfl⟩
      rw [← hz0] at U1 B1 M0
      rw [← hz1] at U3 B3 M1
      rw [← hz2] at U5 B5 M2
      clear hz0 hz1 hz2
      have HS1 := hidd (HS.out.step hlk z0 z1 z2 M0 M1 M2)
      clear HS M0 M1 M2
      have d5 : ((y1 + P2 - y2 : Nat) : Int) = (y1 : Int) + P2 - y2 := by omega
      have d0 : ((a + y1 : Nat) : Int) = (a : Int) + y1 := by omega
      have d1 : ((r0 + y2 : Nat) : Int) = (r0 : Int) + y2 := by omega
      have d2 : ((a + P2 - y2 : Nat) : Int) = (a : Int) + P2 - y2 := by omega
      have d3 : ((r2 + ee : Nat) : Int) = (r2 : Int) + ee := by omega
      have d4 : ((a + P2 - y1 : Nat) : Int) = (a : Int) + P2 - y1 := by omega
      have d6 : ((r4 + P2 - ee : Nat) : Int) = (r4 : Int) + P2 - ee := by omega
      rw [d5] at R5
      rw [d0] at U0
      rw [d1] at U1
      rw [d2] at U2
      rw [d3] at U3
      rw [d4] at U4
      rw [d6] at U5
      clear d5 d0 d1 d2 d3 d4 d6
      go_wp2_with fail
      refine (R1 _).mono ?_
      rintro e wx ⟨rfl, rfl⟩
      go_wp2_with fail
      refine (R2 _).mono ?_
      rintro e wx ⟨rfl, rfl⟩
      go_wp2_with fail
      go_quiet (first | (go_at_call_of 49 (Value.int IntKind.u64 (b:Int)); exact Calls.quiet_of_same ((R3 _).mono fun _ _ h => ⟨h.1, h.2.symm⟩)) | (go_at_call_of 49 (Value.int IntKind.u64 (c:Int)); exact Calls.quiet_of_same ((R4 _).mono fun _ _ h => ⟨h.1, h.2.symm⟩)))
      have rk0 := rk.drewN nq
      have k0 := kr.drewNR nq
      obtain ⟨wq, hwq⟩ : ∃ v, v = wr.drewN nq := ⟨_, rfl⟩
      rw [← hwq] at rk0 k0 ⊢
      clear hwq ca cb cc cw rk kr R1 R2 R3 R4
      have c1 := rk0.cell k (by omega)
      have f1 := rk0.frozen k
      have rk1 := rk0.set k z0
      have c2 := rk1.cell (hf + k) (by omega)
      have f2 := rk1.frozen (hf + k)
      have rk2 := rk1.set (hf + k) z1
      have c3 := rk2.cell (2 * hf + k) (by omega)
      have f3 := rk2.frozen (2 * hf + k)
      have rk3 := rk2.set (2 * hf + k) z2
      have k3 := setKept (setKept (setKept k0 k (.int .u64 z0)) (hf + k) (.int .u64 z1)) (2 * hf + k) (.int .u64 z2)
      have lo3 := ((lk.upd k z0 (HP2.out ▸ B1)).upd (hf + k) z1 (HP2.out ▸ B3)).upd (2 * hf + k) z2 (HP2.out ▸ B5)
      go_wp2_with fail
      refine (R5 _).mono ?_
      rintro e wx ⟨rfl, rfl⟩
      go_wp2_with fail
      refine (U0 _).mono ?_
      rintro e wx ⟨rfl, rfl⟩
      go_wp2_with fail
      refine (U1 _).mono ?_
      rintro e wx ⟨rfl, rfl⟩
      go_wp2_with fail
      refine (U2 _).mono ?_
      rintro e wx ⟨rfl, rfl⟩
      go_wp2_with fail
      refine (U3 _).mono ?_
      rintro e wx ⟨rfl, rfl⟩
      go_wp2_with fail
      refine (U4 _).mono ?_
      rintro e wx ⟨rfl, rfl⟩
      go_wp2_with fail
      refine (U5 _).mono ?_
      rintro e wx ⟨rfl, rfl⟩
      go_wp2_with fail
      go_roundw
      case rel => exact ⟨k + 1, _, by omega, by go_num, rk3, lo3, HS1, k3⟩
      case measure => simp [intOf]; omega
    · have e : k = hf := by omega
      subst e
      go_wp2_with fail
      go_end0
      exact ⟨rfl, y, rk, lk, fun i hi => TS.stop HS.out hn2 i hi, kr⟩

end Go.Proofs.Qxb6616212a
