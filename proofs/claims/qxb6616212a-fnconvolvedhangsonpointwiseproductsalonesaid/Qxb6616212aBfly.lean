import Derived.Test.Qxb6616212aKeep
namespace Go.Proofs.Qxb6616212a
open Go.RowKit

/-- one butterfly's product. -/
def bfV (m : Md) (x W : Nat → Nat) (s h j : Nat) : Nat := montL (x (s + h + j)) (W (h + j)) m.p m.inv
/-- the first k butterflies of a block. -/
def bfTo (m : Md) (W : Nat → Nat) (s h : Nat) (x : Nat → Nat) (k : Nat) : Nat → Nat := fun i =>
  if s ≤ i ∧ i < s + k then redB (x i + bfV m x W s h (i - s)) (2 * m.p)
  else if s + h ≤ i ∧ i < s + h + k then redB (x (i - h) + 2 * m.p - bfV m x W s h (i - (s + h))) (2 * m.p)
  else x i

theorem bfTo_zero (m : Md) (W : Nat → Nat) (s h : Nat) (x : Nat → Nat) (i : Nat) : bfTo m W s h x 0 i = x i := by
  unfold bfTo; rw [if_neg (by omega), if_neg (by omega)]
theorem bfTo_lo (m : Md) (W : Nat → Nat) (s h : Nat) (x : Nat → Nat) (k : Nat) (hk : k < h) : bfTo m W s h x k (s + k) = x (s + k) := by
  unfold bfTo; rw [if_neg (by omega), if_neg (by omega)]
theorem bfTo_hi (m : Md) (W : Nat → Nat) (s h : Nat) (x : Nat → Nat) (k : Nat) (hk : k < h) : bfTo m W s h x k (s + h + k) = x (s + h + k) := by
  unfold bfTo; rw [if_neg (by omega), if_neg (by omega)]
theorem bfTo_step (m : Md) (W : Nat → Nat) (s h : Nat) (x : Nat → Nat) (k : Nat) (hk : k < h) (i : Nat) :
    upd (upd (bfTo m W s h x k) (s + k) (redB (x (s + k) + bfV m x W s h k) (2 * m.p))) (s + h + k) (redB (x (s + k) + 2 * m.p - bfV m x W s h k) (2 * m.p)) i = bfTo m W s h x (k + 1) i := by
  by_cases e1 : i = s + h + k
  · subst e1
    rw [upd_same]; unfold bfTo
    rw [if_neg (by omega), if_pos (by omega), show s + h + k - h = s + k by omega, show s + h + k - (s + h) = k by omega]
  · rw [upd_other _ _ _ _ e1]
    by_cases e2 : i = s + k
    · subst e2
      rw [upd_same]; unfold bfTo
      rw [if_pos (by omega), show s + k - s = k by omega]
    · rw [upd_other _ _ _ _ e2]
      unfold bfTo
      by_cases g1 : s ≤ i ∧ i < s + k
      · rw [if_pos g1, if_pos (by omega)]
      · rw [if_neg g1, if_neg (by omega : ¬ (s ≤ i ∧ i < s + (k + 1)))]
        by_cases g2 : s + h ≤ i ∧ i < s + h + k
        · rw [if_pos g2, if_pos (by omega)]
        · rw [if_neg g2, if_neg (by omega)]

set_option maxHeartbeats 400000 in
set_option maxRecDepth 100000 in
theorem bfly_any (M : Nat) (m : Md) (hg : Good m) (A I s h n nI c1 c2 c3 : Nat) (x W : Nat → Nat) (hA : s + 2 * h ≤ n) (hI : 2 * h ≤ nI) (hn : n ≤ 65536) (hnI : nI ≤ 131072) (_hc1 : h ≤ c1) (hc2 : h ≤ c2) (hc3 : h ≤ c3) (h0 : 0 < h)
    (hAI : A ≠ I) (_hMA : M ≠ A) (w : World) (hM : ModAt w M m) (rA : Row w A n x) (rI : Row w I nI W) (hx : Lo (2 * m.p) n x) (hW : Le m.p nI W) :
    Calls Try.prog 53 #[.pointer (some ⟨M, 0, none⟩), .slice (some ⟨A, s, none⟩) h c1, .slice (some ⟨A, s + h, none⟩) h c2, .slice (some ⟨I, h, none⟩) h c3] w fun e w' => e = .returned (.tuple #[]) ∧ Row w' A n (bfTo m W s h x h) ∧ Kept (fun b => b = A) w w' := by
  have hlt := hg.lt
  have hbig := hg.big
  have c0 := hM.c0
  have cinv := hM.c2
  have e2p : IntKind.u64.wrap (2 * (m.p : Int)) = ((2 * m.p : Nat) : Int) := by rw [IntKind.wrap_u64]; omega
  go_enter Try.func53, Try.ntmps53
  go_wp2_with fail
  go_quiet (fail)
  go_wp2_with fail
  go_quiet (fail)
  go_wp2_with fail
  clear c0 cinv e2p
  go_loopw [37] (fun tk wr => ∃ k : Nat, k ≤ h ∧ tk = .int .i64 k ∧ Row wr A n (bfTo m W s h x k) ∧ Kept (fun b => b = A) w wr) (fun tk _ => h - (intOf tk).toNat)
  case atStart => exact ⟨0, by omega, rfl, (rA.drewN _).congr (fun i _ => (bfTo_zero m W s h x i).symm), (Kept.refl _ w).drewNR _⟩
  case round =>
    obtain ⟨k, hk, rfl, rk, kr⟩ := hrel
    by_cases hlk : k < h
    · have cu := rk.cell (s + k) (by omega)
      have cv := rk.cell (s + h + k) (by omega)
      have cw := (rI.kept kr (fun e => hAI e.symm)).cell (h + k) (by omega)
      rw [bfTo_lo m W s h x k hlk] at cu
      rw [bfTo_hi m W s h x k hlk] at cv
      have hu := hx (s + k) (by omega)
      have hv := hx (s + h + k) (by omega)
      have hw := hW (h + k) (by omega)
      have hab := lt_p64 m hg (x (s + h + k)) (W (h + k)) (by omega) hw
      have hc := montL_any (x (s + h + k)) (W (h + k)) m.p m.inv (by omega) (by omega) hlt hg.invlt hab
      have hvl := montL_lt (x (s + h + k)) (W (h + k)) m.p m.inv (by omega) hab
      have hst := bfTo_step m W s h x k hlk
      unfold bfV at hst
      obtain ⟨u, hue⟩ : ∃ u, u = x (s + k) := ⟨_, rfl⟩
      obtain ⟨v0, hv0⟩ : ∃ u, u = x (s + h + k) := ⟨_, rfl⟩
      obtain ⟨ww, hww⟩ : ∃ u, u = W (h + k) := ⟨_, rfl⟩
      rw [← hue] at cu hu hst
      rw [← hv0] at cv hv hab hc hvl hst
      rw [← hww] at cw hw hab hc hvl hst
      obtain ⟨v, hve⟩ : ∃ v, v = montL v0 ww m.p m.inv := ⟨_, rfl⟩
      rw [← hve] at hc hvl hst
      have r1 := redB_any (u + v) (2 * m.p) (by omega) (by omega)
      have r2 := redB_any (u + 2 * m.p - v) (2 * m.p) (by omega) (by omega)
      have e1 : ((u + v : Nat) : Int) = (u : Int) + v := by omega
      have e2 : ((u + 2 * m.p - v : Nat) : Int) = (u : Int) + 2 * (m.p : Int) - v := by omega
      have e3 : ((2 * m.p : Nat) : Int) = 2 * (m.p : Int) := by omega
      rw [e1, e3] at r1
      rw [e2, e3] at r2
      obtain ⟨a1, ha1⟩ : ∃ a, a = redB (u + v) (2 * m.p) := ⟨_, rfl⟩
      obtain ⟨a2, ha2⟩ : ∃ a, a = redB (u + 2 * m.p - v) (2 * m.p) := ⟨_, rfl⟩
      rw [← ha1] at r1 hst
      rw [← ha2] at r2 hst
      have HST := hidd hst
      clear hst hue hv0 hww hve ha1 ha2 e1 e2 e3
      go_wp2_with fail
      go_quiet (first | (go_at_call 49; exact Calls.quiet_of_same ((hc _).mono fun _ _ h => ⟨h.1, h.2.symm⟩)))
      have cu1 := (rk.drewN nq).cell (s + k) (by omega)
      have fu1 := (rk.drewN nq).frozen (s + k)
      have rk1 := (rk.drewN nq).set (s + k) a1
      have cv1 := rk1.cell (s + h + k) (by omega)
      have fv1 := rk1.frozen (s + h + k)
      have rk2 := rk1.set (s + h + k) a2
      have kk := setKept (setKept (kr.drewNR nq) (s + k) (.int .u64 a1)) (s + h + k) (.int .u64 a2)
      go_wp2_with fail
      refine (r1 _).mono ?_
      rintro e wx ⟨rfl, rfl⟩
      go_wp2_with fail
      refine (r2 _).mono ?_
      rintro e wx ⟨rfl, rfl⟩
      go_wp2_with fail
      go_roundw
      case rel => exact ⟨k + 1, by omega, by go_num, rk2.congr (fun i _ => HST.out i), kk⟩
      case measure => simp [intOf]; omega
    · have e : h = k := by omega
      subst e
      go_wp2_with fail
      go_end0
      exact ⟨rfl, rk, kr⟩

end Go.Proofs.Qxb6616212a
