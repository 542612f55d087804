import Derived.Test.Qxb6616212aConvP
namespace Go.Proofs.Qxb6616212a
open Go.RowKit

def CPost (M : Nat) (m : Md) (k : Nat) (b : Bool) (n A : Nat) (f : Nat → Int) (o o3 : Held) (w w' : World) : Prop :=
  ∃ v o3' y, St w' M m k (some v) o3' ∧ (∀ u, o = some u → v = u) ∧ (b = true → ∃ v3, o3' = some v3) ∧ (∀ u, o3 = some u → o3' = some u) ∧ (∀ B, B < w.heap.size → ¬ Own M m o o3 B → ¬ Own M m (some v) o3' B) ∧
    Row w' A n y ∧ Lo m.p n y ∧ Kept (fun B => B = A ∨ B = m.K ∨ B = m.K3) w w' ∧ ∀ i, i < n → Eqm m.p (y i) (lin (tw m m.ci) (gOf m (some v)) (gOf m o3') k b f i)

/-- the state of the three inverse transforms: the thirds below t are done. -/
def Bst (p : Nat) (T : Nat → Int) (k hh : Nat) (f : Nat → Int) (t : Nat) (y : Nat → Nat) : Prop :=
  ∀ r, r < 3 → ∀ j, j < hh → Eqm p (y (r * hh + j)) (if r < t then tr T k f (r * hh) j else f (r * hh + j))
theorem Bst.start {p : Nat} {T : Nat → Int} {k hh n : Nat} {f : Nat → Int} {y : Nat → Nat} (hn : 3 * hh ≤ n) (h : ∀ j, j < n → Eqm p (y j) (f j)) : Bst p T k hh f 0 y := by
  intro r hr j hj
  rw [if_neg (by omega)]
  have : (r + 1) * hh ≤ 3 * hh := Nat.mul_le_mul_right hh (by omega)
  rw [Nat.add_mul] at this
  exact h _ (by omega)
theorem Bst.at {p : Nat} {T : Nat → Int} {k hh : Nat} {f : Nat → Int} {t : Nat} {y : Nat → Nat} (h : Bst p T k hh f t y) (ht : t < 3) (s : Nat) (hs : s = t * hh) (j : Nat) (hj : j < hh) : Eqm p (y (s + j)) (f (s + j)) := by
  have := h t ht j hj
  rw [if_neg (by omega)] at this
  rw [hs]; exact this
theorem Bst.step {p : Nat} {T : Nat → Int} {k hh : Nat} {f : Nat → Int} {t : Nat} {y y' : Nat → Nat} (h : Bst p T k hh f t y) (s : Nat) (hs : s = t * hh) (h1 : ∀ j, j < hh → Eqm p (y' (s + j)) (tr T k f s j)) (h2 : ∀ j, j < s ∨ s + hh ≤ j → y' j = y j) : Bst p T k hh f (t + 1) y' := by
  intro r hr j hj
  by_cases e : r = t
  · subst e
    rw [if_pos (by omega), ← hs]; exact h1 j hj
  · have hout : r * hh + j < s ∨ s + hh ≤ r * hh + j := by
      rcases Nat.lt_or_ge r t with h' | h'
      · left
        have : (r + 1) * hh ≤ t * hh := Nat.mul_le_mul_right hh (by omega)
        rw [Nat.add_mul] at this
        omega
      · right
        have : (t + 1) * hh ≤ r * hh := Nat.mul_le_mul_right hh (by omega)
        rw [Nat.add_mul] at this
        omega
    rw [h2 _ hout]
    have := h r hr j hj
    by_cases g : r < t
    · rw [if_pos g] at this; rw [if_pos (by omega)]; exact this
    · rw [if_neg g] at this; rw [if_neg (by omega)]; exact this
theorem Bst.stop {p : Nat} {T : Nat → Int} {k hh : Nat} {f : Nat → Int} {y : Nat → Nat} (h : Bst p T k hh f 3 y) (j : Nat) (hj : j < hh) :
    Eqm p (y j) (tr T k f 0 j) ∧ Eqm p (y (hh + j)) (tr T k f hh j) ∧ Eqm p (y (2 * hh + j)) (tr T k f (hh + hh) j) := by
  have h0 := h 0 (by omega) j hj
  have h1 := h 1 (by omega) j hj
  have h2 := h 2 (by omega) j hj
  rw [if_pos (by omega)] at h0 h1 h2
  rw [Nat.zero_mul, Nat.zero_add] at h0
  rw [Nat.one_mul] at h1
  rw [Nat.two_mul hh]
  rw [Nat.two_mul hh] at h2
  exact ⟨h0, h1, h2⟩

set_option maxHeartbeats 4000000 in
set_option maxRecDepth 100000 in
theorem conv_any (M : Nat) (m : Md) (hg : Good m) (k : Nat) (b : Bool) (hk : 2 ≤ k) (n : Nat) (hn : n = len k b) (hn6 : n ≤ 65536) (A Bk : Nat) (x z : Nat → Nat) (f : Nat → Int) (o o3 : Held) (w : World) (hS : St w M m k o o3)
    (rA : Row w A n x) (rB : Row w Bk n z) (hAB : A ≠ Bk) (hA : ¬ Own M m o o3 A) (hx : Lo (2 * m.p) n x) (hz : Lo (2 * m.p) n z) (hf : ∀ i, i < n → Eqm m.p ((x i : Int) * z i * (n ^ (m.p - 2) % m.p : Nat)) (f i)) :
    Calls Try.prog 32 #[.pointer (some ⟨M, 0, none⟩), .slice (some ⟨A, 0, none⟩) n n, .slice (some ⟨Bk, 0, none⟩) n n] w fun e w' => e = .returned (.slice (some ⟨A, 0, none⟩) n n) ∧ CPost M m k b n A f o o3 w w' := by
  have hlt := hg.lt
  have hbig := hg.big
  have hMA : M ≠ A := fun e => hA (Or.inl e.symm)
  have I1 := invSlow_any M m hg n (by omega) w hS.mod
  have nil' : n ^ (m.p - 2) % m.p < m.p := Nat.mod_lt _ (by omega)
  obtain ⟨ni, hni⟩ : ∃ ni, ni = n ^ (m.p - 2) % m.p := ⟨_, rfl⟩
  rw [← hni] at I1 nil' hf
  clear hni
  have t1l := montR_lt m hg ni m.r2 (lt_p64 m hg _ _ (by omega) (by have := r2_lt m hg; omega))
  have I2 := fun w hM => toMont_any M m hg ni nil' w hM
  have Q2 := toMont_R m hg ni nil'
  obtain ⟨t1, ht1⟩ : ∃ t, t = montR m ni m.r2 := ⟨_, rfl⟩
  rw [← ht1] at t1l I2 Q2
  clear ht1
  have scl := montR_lt m hg t1 m.r2 (lt_p64 m hg _ _ (by omega) (by have := r2_lt m hg; omega))
  have I3 := fun w hM => toMont_any M m hg t1 t1l w hM
  have Q3 := (toMont_R m hg t1 t1l).trans (Q2.mul (Eqm.refl _ _))
  obtain ⟨sc, hsc⟩ : ∃ t, t = montR m t1 m.r2 := ⟨_, rfl⟩
  rw [← hsc] at scl I3 Q3
  clear hsc Q2
  have n4 : 4 ≤ n := by
    have h4 : 2 ^ 2 ≤ 2 ^ k := Nat.pow_le_pow_right (by omega) hk
    rw [hn]; unfold len; cases b <;> simp <;> omega
  have HN := hidd hn
  have HF : Hid (∀ i, i < n → Eqm m.p (pw m sc (x i) (z i) : Nat) (f i)) := fun i hi =>
    (pw_eqm m hg ni sc (x i) (z i) (Nat.le_of_lt (hx i hi)) (Nat.le_of_lt (hz i hi)) (Nat.le_of_lt scl) Q3).trans (hf i hi)
  clear hn hf Q3
  go_enter Try.func32, Try.ntmps32
  go_wp2_with fail
  refine I1.mono ?_
  rintro e wx ⟨rfl, q, rfl⟩
  clear I1
  go_wp2_with fail
  refine Calls.mono (I2 _ ?_) ?_
  · exact hS.mod.same rfl
  rintro e wx ⟨rfl, q2, rfl⟩
  clear I2
  go_wp2_with fail
  refine Calls.mono (I3 _ ?_) ?_
  · exact hS.mod.same rfl
  rintro e wx ⟨rfl, q3, rfl⟩
  clear I3
  have hS1 : St ((w.drewN (q + q2)).drewN q3) M m k o o3 := hS.same rfl
  have rA1 : Row ((w.drewN (q + q2)).drewN q3) A n x := rA
  have rB1 : Row ((w.drewN (q + q2)).drewN q3) Bk n z := rB
  have k1 : Kept (fun b => b = A) w ((w.drewN (q + q2)).drewN q3) := ((Kept.refl _ w).drewNR (q + q2)).drewNR q3
  obtain ⟨w1, hw1⟩ : ∃ v, v = (w.drewN (q + q2)).drewN q3 := ⟨_, rfl⟩
  rw [← hw1] at hS1 rA1 rB1 k1 ⊢
  clear hw1
  go_wp2_with fail
  go_loopw [31] (fun ti wr => ∃ (i : Nat) (y : Nat → Nat), i ≤ n ∧ ti = .int .i64 i ∧ Row wr A n y ∧ Hid (∀ j, j < i → y j = pw m sc (x j) (z j)) ∧ Hid (∀ j, i ≤ j → y j = x j) ∧ Kept (fun b => b = A) w wr) (fun ti _ => n - (intOf ti).toNat)
  case atStart => exact ⟨0, x, by omega, rfl, rA1, fun j hj => by omega, fun j _ => rfl, k1⟩
  case round =>
    obtain ⟨i, y, hi, rfl, r2, Y1, Y2, k2⟩ := hrel
    clear rA1 k1 hS1 rB1
    by_cases hlt2 : i < n
    · have ca := r2.cell i hlt2
      rw [Y2.out i (Nat.le_refl i)] at ca
      have cb := (rB.kept k2 (fun e => hAB e.symm)).cell i hlt2
      have la := hx i hlt2
      have lb := hz i hlt2
      have hM2 := hS.mod.kept k2 hMA
      have fr := r2.frozen i
      have hb1 := lt_pp m hg (x i) (z i) (by omega) (by omega)
      have R1 := fun w hM => mLazy_any M m hg (x i) (z i) (by omega) (by omega) hb1 w hM
      have l1 := montL_lt (x i) (z i) m.p m.inv (by omega) hb1
      have hst : Hid (montL (montL (x i) (z i) m.p m.inv) sc m.p m.inv = pw m sc (x i) (z i)) := rfl
      obtain ⟨u1, hu1⟩ : ∃ u, u = montL (x i) (z i) m.p m.inv := ⟨_, rfl⟩
      rw [← hu1] at R1 l1 hst
      clear hu1 hb1
      have hb2 := lt_p64 m hg u1 sc (by omega) (by omega)
      have R2 := fun w hM => mLazy_any M m hg u1 sc (by omega) (by omega) hb2 w hM
      obtain ⟨u2, hu2⟩ : ∃ u, u = montL u1 sc m.p m.inv := ⟨_, rfl⟩
      rw [← hu2] at R2 hst
      clear hu2 hb2
      obtain ⟨a, ha⟩ : ∃ a, a = x i := ⟨_, rfl⟩
      obtain ⟨c, hc⟩ : ∃ a, a = z i := ⟨_, rfl⟩
      rw [← ha] at ca la R1
      rw [← hc] at cb lb R1
      clear ha hc
      go_wp2_with fail
      go_region_with (first | (go_at_call_of 39 (Value.int IntKind.u64 (a:Int)); refine Calls.mono (R1 _ ?_) ?_; exact hM2.same rfl; rintro e wx ⟨rfl, q4, rfl⟩) | (go_at_call_of 39 (Value.int IntKind.u64 (u1:Int)); refine Calls.mono (R2 _ ?_) ?_; exact hM2.same rfl; rintro e wx ⟨rfl, q5, rfl⟩))
      all_goals (
        have r3 := (r2.drewN (1 + q4 + q5)).set i u2
        have k3 := setKept (k2.drewNR (1 + q4 + q5)) i (.int .u64 u2)
        go_wp2_with fail
        go_roundw
        case rel => exact ⟨i + 1, _, by omega, by go_num, r3, (fun j hj => (by
          rcases Nat.lt_succ_iff_lt_or_eq.1 hj with h | h
          · rw [upd_other _ _ _ _ (by omega)]; exact Y1.out j h
          · rw [h, upd_same]; exact hst.out)), (fun j hj => (by rw [upd_other _ _ _ _ (by omega)]; exact Y2.out j (by omega))), k3⟩
        case measure => simp [intOf]; omega)
    · have ei : i = n := by omega
      subst ei
      have lo2 : Lo (2 * m.p) i y := fun j hj => by rw [Y1.out j hj]; exact pw_lt m hg sc (x j) (z j) (Nat.le_of_lt (hx j hj)) (Nat.le_of_lt (hz j hj)) (Nat.le_of_lt scl)
      have E2 : Hid (∀ j, j < i → Eqm m.p (y j) (f j)) := fun j hj => by rw [Y1.out j hj]; exact HF.out j hj
      have hS2 := hS.kept k2 (fun B (hB : B = A) => hB ▸ hA)
      have hAlt := r2.lt
      clear Y1 Y2 HF
      cases b with
      | false =>
        have hnk : i = 2 ^ k := HN.out
        have hk16 : k ≤ 16 := (Nat.pow_le_pow_iff_right (a := 2) (by omega)).1 (by rw [← hnk]; exact hn6)
        have hb : bits .and .i64 (i : Int) ((i : Int) - 1) = 0 := by
          have h := bits_and_i64_nat i (i - 1) (by omega) (by omega)
          rw [show ((i - 1 : Nat) : Int) = (i : Int) - 1 by omega] at h
          rw [h, hnk, and_of_pow]; rfl
        have K1 := kept_both M m hg k hk hk16 wr hS2.mod hS2.nM o hS2.sk (fun v hv => (hS2.o1 v hv).1)
        rw [← hnk] at K1
        have HNK := hidd hnk
        clear hnk HN
        go_wp2_with fail
        refine K1.mono ?_
        rintro e w3 ⟨v, rfl, G1⟩
        clear K1
        have hS3 := hS2.got G1
        have hA3 := G1.notOwn (M := M) (o3 := o3) hAlt hA
        have hAI : A ≠ v.2.1 := fun e => hA3 (Or.inr (Or.inr (Or.inr (Or.inl ⟨v, rfl, e⟩))))
        have hAK : A ≠ m.K := fun e => hA (Or.inr (Or.inl e))
        have r3 := r2.kept G1.kept hAK
        have V1 := inv_any M m hg A v.2.1 0 i k i y v.2.2 f hk hn6 (by rw [← HNK.out]; omega) (by rw [← HNK.out]; omega) hn6 hAI hMA w3 hS3.mod r3 hS3.sk.2.1 lo2 hS3.sk.2.2 (fun j hj => by rw [Nat.zero_add]; exact E2.out j (by rw [HNK.out]; exact hj))
        rw [← HNK.out] at V1
        obtain ⟨I, hI⟩ : ∃ I, I = v.2.1 := ⟨_, rfl⟩
        obtain ⟨F, hF⟩ : ∃ F, F = v.1 := ⟨_, rfl⟩
        rw [← hI] at V1
        rw [← hI, ← hF]
        clear hI hF
        go_wp2_with fail
        refine V1.mono ?_
        rintro e w4 ⟨rfl, y4, r4, lo4, e4, _, k4⟩
        clear V1
        have hS4 := hS3.kept k4 (fun B (hB : B = A) => hB ▸ hA3)
        have hM4 := hS4.mod
        have E4 : Hid (∀ j, j < i → Eqm m.p (y4 j) (lin (tw m m.ci) (gOf m (some v)) (gOf m o3) k false f j)) := fun j hj => by
          have := e4 j hj
          rw [Nat.zero_add] at this
          exact this
        have KW : Hid (Kept (fun B => B = A ∨ B = m.K ∨ B = m.K3) w w4) := ((k2.mono (fun B _ h => Or.inl h)).trans G1.kept (fun B _ h => Or.inr (Or.inl h))).trans k4 (fun B _ h => Or.inl h)
        clear e4
        go_wp2_with fail
        go_loopw [104] (fun ti wr => ∃ (j : Nat) (y : Nat → Nat), j ≤ i ∧ ti = .int .i64 j ∧ Row wr A i y ∧ Hid (∀ l, l < j → y l = redB (y4 l) m.p) ∧ Hid (∀ l, j ≤ l → y l = y4 l) ∧ Kept (fun b => b = A) w4 wr) (fun ti _ => i - (intOf ti).toNat)
        case atStart => exact ⟨0, y4, by omega, rfl, r4, fun l hl => by omega, fun l _ => rfl, Kept.refl _ _⟩
        case round =>
          obtain ⟨j, y5, hj, rfl, r5, Y1, Y2, k5⟩ := hrel
          by_cases hlt5 : j < i
          · have c5 := r5.cell j hlt5
            rw [Y2.out j (Nat.le_refl j)] at c5
            have fr5 := r5.frozen j
            have l5 := lo4 j hlt5
            have R5 := reduce_any M m hg (y4 j) (by omega) _ (hM4.kept k5 hMA)
            have r6 := r5.set j (redB (y4 j) m.p)
            have k6 := setKept k5 j (.int .u64 (redB (y4 j) m.p))
            have HS : Hid (redB (y4 j) m.p = redB (y4 j) m.p) := rfl
            obtain ⟨u, hu⟩ : ∃ u, u = y4 j := ⟨_, rfl⟩
            rw [← hu] at c5 l5 R5 r6 k6
            have HU := hidd hu
            clear hu
            go_wp2_with fail
            refine R5.mono ?_
            rintro e wx ⟨rfl, rfl⟩
            go_wp2_with fail
            go_roundw
            case rel => exact ⟨j + 1, _, by omega, by go_num, r6, (fun l hl => (by
              rcases Nat.lt_succ_iff_lt_or_eq.1 hl with h | h
              · rw [upd_other _ _ _ _ (by omega)]; exact Y1.out l h
              · rw [h, upd_same, HU.out])), (fun l hl => (by rw [upd_other _ _ _ _ (by omega)]; exact Y2.out l (by omega))), k6⟩
            case measure => simp [intOf]; omega
          · have ej : j = i := by omega
            subst ej
            go_wp2_with fail
            go_ret
            refine ⟨rfl, v, o3, y5, hS4.kept k5 (fun B (hB : B = A) => hB ▸ hA3), G1.same, fun h => by simp at h, fun u h => h, fun B hB h => G1.notOwn (Nat.lt_of_lt_of_le hB k2.size) h, r5, fun l hl => ?_, KW.out.trans k5 (fun B _ h => Or.inl h), fun l hl => ?_⟩
            · rw [Y1.out l hl]; exact redB_lt _ _ (lo4 l hl)
            · rw [Y1.out l hl]; exact (redB_eqm _ _).trans (E4.out l hl)
      | true =>
        have hn3 : i = 2 ^ k + 2 ^ k + 2 ^ k := HN.out
        obtain ⟨hh, hhe⟩ : ∃ h, h = 2 ^ k := ⟨_, rfl⟩
        have hh4 : 4 ≤ hh := by
          rw [hhe]; exact Nat.pow_le_pow_right (n := 2) (by omega) hk
        rw [← hhe] at hn3
        have hi1 : 3 * hh ≤ i := by omega
        have hi2 : i ≤ 3 * hh := by omega
        have hk14 : k ≤ 14 := by
          have h15 : 2 ^ k < 2 ^ 15 := by rw [← hhe]; omega
          have := (Nat.pow_lt_pow_iff_right (a := 2) (by omega)).1 h15
          omega
        have hb := bits_and_i64_nat i (i - 1) (by omega) (by omega)
        rw [show ((i - 1 : Nat) : Int) = (i : Int) - 1 by omega] at hb
        have hzn : i &&& (i - 1) ≠ 0 := by
          rw [show i = 3 * 2 ^ k by rw [← hhe]; omega]; exact and_of_three k
        obtain ⟨zz, hzz⟩ : ∃ z, z = i &&& (i - 1) := ⟨_, rfl⟩
        rw [← hzz] at hb hzn
        have hzi : ¬ (zz : Int) = 0 := by omega
        have d3 : (i : Int).tdiv 3 = (hh : Int) := by rw [Int.tdiv_eq_ediv_of_nonneg (by omega)]; omega
        have K1 := kept_both M m hg k hk (by omega) wr hS2.mod hS2.nM o hS2.sk (fun v hv => (hS2.o1 v hv).1)
        rw [← hhe] at K1
        have HHE := hidd hhe
        clear hzz hn3 hhe HN hzn
        go_wp2_with fail
        refine K1.mono ?_
        rintro e w3 ⟨v, rfl, G1⟩
        clear K1
        have hS3 := hS2.got G1
        have hA3 := G1.notOwn (M := M) (o3 := o3) hAlt hA
        have hAI : A ≠ v.2.1 := fun e => hA3 (Or.inr (Or.inr (Or.inr (Or.inl ⟨v, rfl, e⟩))))
        have hAK : A ≠ m.K := fun e => hA (Or.inr (Or.inl e))
        have r3 := r2.kept G1.kept hAK
        have rI3 := hS3.sk.2.1
        rw [← HHE.out] at rI3
        have HTw : Hid (Tw m k v.2.2) := hS3.sk.2.2
        have KW3 : Hid (Kept (fun B => B = A ∨ B = m.K ∨ B = m.K3) w w3) := (k2.mono (fun B _ h => Or.inl h)).trans G1.kept (fun B _ h => Or.inr (Or.inl h))
        have NW3 : Hid (∀ B, B < w.heap.size → ¬ Own M m o o3 B → ¬ Own M m (some v) o3 B) := fun B hB h => G1.notOwn (Nat.lt_of_lt_of_le hB k2.size) h
        have SW3 := hidd G1.same
        have hM3 := hS3.mod
        obtain ⟨I, hI⟩ : ∃ I, I = v.2.1 := ⟨_, rfl⟩
        obtain ⟨F, hF⟩ : ∃ F, F = v.1 := ⟨_, rfl⟩
        obtain ⟨W, hW⟩ : ∃ W, W = v.2.2 := ⟨_, rfl⟩
        have HW := hidd hW
        rw [← hI] at rI3 hAI
        rw [← hW] at rI3 HTw
        rw [← hI, ← hF]
        clear hI hF hW G1 d3 hb hzi k2 r2
        have ne1 : ¬ i = hh := by omega
        have ne2 : ¬ i = 2 * hh := by omega
        obtain ⟨T, hT⟩ : ∃ T, T = fun j => tw m (W j) := ⟨_, rfl⟩
        go_wp2_with fail
        go_loopw [74] (fun tt wr => ∃ (t : Nat) (y : Nat → Nat), t ≤ 3 ∧ tt = .int .i64 t ∧ Row wr A i y ∧ Lo (2 * m.p) i y ∧ Hid (Bst m.p T k hh f t y) ∧ Kept (fun b => b = A) w3 wr) (fun tt _ => 3 - (intOf tt).toNat)
        case atStart => exact ⟨0, y, by omega, rfl, r3, lo2, Bst.start hi1 E2.out, Kept.refl _ _⟩
        case round =>
          obtain ⟨t, y4, ht, rfl, r4, lo4, B4, k4⟩ := hrel
          clear r3 lo2 E2
          by_cases ht3 : t < 3
          · have hM4 := hM3.kept k4 hMA
            have rI4 := rI3.kept k4 (fun e => hAI e.symm)
            have V := fun (s : Nat) (hs : s = t * hh) (hs2 : s + hh ≤ i) => inv_any M m hg A I s i k (i - s) y4 W f hk hn6 (by rw [← HHE.out]; exact hs2) (by rw [← HHE.out]; omega) (by omega) hAI hMA wr hM4 r4 (HHE.out ▸ rI4) lo4 HTw.out (fun j hj => B4.out.at ht3 s hs j (by rw [HHE.out]; exact hj))
            rw [← HHE.out, ← hT] at V
            rcases (by omega : t = 0 ∨ t = 1 ∨ t = 2) with rfl | rfl | rfl
            · have V0 := V 0 (by omega) (by omega)
              clear V
              rw [Nat.sub_zero] at V0
              go_wp2_with fail
              refine V0.mono ?_
              rintro e w5 ⟨rfl, y5, r5, lo5, e5, o5, k5⟩
              go_wp2_with fail
              go_roundw
              case rel => exact ⟨1, y5, by omega, by go_num, r5, lo5, B4.out.step 0 (by omega) e5 o5, k4.trans k5 (fun _ _ h => h)⟩
              case measure => simp [intOf]
            · have V1 := V hh (by omega) (by omega)
              clear V
              go_wp2_with fail
              rw [show 2 * hh - hh = hh by omega]
              refine V1.mono ?_
              rintro e w5 ⟨rfl, y5, r5, lo5, e5, o5, k5⟩
              go_wp2_with fail
              go_roundw
              case rel => exact ⟨2, y5, by omega, by go_num, r5, lo5, B4.out.step hh (by omega) e5 o5, k4.trans k5 (fun _ _ h => h)⟩
              case measure => simp [intOf]
            · have V2 := V (2 * hh) (by omega) (by omega)
              clear V
              go_wp2_with fail
              rw [show 3 * hh - 2 * hh = hh by omega]
              refine V2.mono ?_
              rintro e w5 ⟨rfl, y5, r5, lo5, e5, o5, k5⟩
              go_wp2_with fail
              go_roundw
              case rel => exact ⟨3, y5, by omega, by go_num, r5, lo5, B4.out.step (2 * hh) (by omega) e5 o5, k4.trans k5 (fun _ _ h => h)⟩
              case measure => simp [intOf]
          · have et : t = 3 := by omega
            subst et
            have hS4 := hS3.kept k4 (fun B (hB : B = A) => hB ▸ hA3)
            have K3 := kept3_both M m hg k hk hk14 wr hS4.mod hS4.nM3 o3 hS4.sk3 (fun v hv => (hS4.o3 v hv).2.1)
            have e2k : 2 ^ (k + 1) = 2 * hh := by rw [Nat.pow_succ, HHE.out]; omega
            rw [← HHE.out, e2k] at K3
            have HE2 := hidd e2k
            clear e2k
            have hAlt4 := r4.lt
            go_wp2_with fail
            refine K3.mono ?_
            rintro e w5 ⟨v3, rfl, G3⟩
            clear K3
            have hS5 := hS4.got3 G3
            have hA5 := G3.notOwn3 (M := M) (o := some v) hAlt4 hA3
            have hAI3 : A ≠ v3.2.1 := fun e => hA5 (Or.inr (Or.inr (Or.inr (Or.inr ⟨v3, rfl, e⟩))))
            have hAK3 : A ≠ m.K3 := fun e => hA (Or.inr (Or.inr (Or.inl e)))
            have r5 := r4.kept G3.kept hAK3
            have rI5 := hS5.sk3.2.1
            have hLe := hS5.sk3.2.2.le
            rw [HE2.out] at rI5 hLe
            have TT := time_any M m hg A v3.2.1 i hh y4 v3.2.2 (tr T k f 0) (tr T k f hh) (tr T k f (hh + hh)) (by omega) hi1 hi2 hn6 hAI3 w5 hS5.mod r5 rI5 lo4 hLe (fun j hj => (B4.out.stop j hj).1) (fun j hj => (B4.out.stop j hj).2.1) (fun j hj => (B4.out.stop j hj).2.2)
            have ne3 : ¬ 2 * hh = hh := by omega
            obtain ⟨I3, hI3⟩ : ∃ I, I = v3.2.1 := ⟨_, rfl⟩
            obtain ⟨F3, hF3⟩ : ∃ F, F = v3.1 := ⟨_, rfl⟩
            rw [← hI3] at TT
            rw [← hI3, ← hF3]
            clear hI3 hF3 rI5 hLe
            go_wp2_with fail
            rw [show 2 * hh - hh = hh by omega]
            refine TT.mono ?_
            rintro e w7 ⟨rfl, y7, r7, lo7, e7, k7⟩
            clear TT
            have hS7 := hS5.kept k7 (fun B (hB : B = A) => hB ▸ hA5)
            have hM7 := hS7.mod
            have E7 : Hid (∀ j, j < i → Eqm m.p (y7 j) (lin (tw m m.ci) (gOf m (some v)) (gOf m (some v3)) k true f j)) := fun j hj => by
              have h := e7 j hj
              rw [hT, HW.out, HHE.out] at h
              exact h
            have KW7 : Hid (Kept (fun B => B = A ∨ B = m.K ∨ B = m.K3) w w7) := ((KW3.out.trans k4 (fun B _ h => Or.inl h)).trans G3.kept (fun B _ h => Or.inr (Or.inr h))).trans k7 (fun B _ h => Or.inl h)
            clear e7
            go_wp2_with fail
            go_loopw [104] (fun ti wr => ∃ (j : Nat) (y : Nat → Nat), j ≤ i ∧ ti = .int .i64 j ∧ Row wr A i y ∧ Hid (∀ l, l < j → y l = redB (y7 l) m.p) ∧ Hid (∀ l, j ≤ l → y l = y7 l) ∧ Kept (fun b => b = A) w7 wr) (fun ti _ => i - (intOf ti).toNat)
            case atStart => exact ⟨0, y7, by omega, rfl, r7, fun l hl => by omega, fun l _ => rfl, Kept.refl _ _⟩
            case round =>
              obtain ⟨j, y5, hj, rfl, r5, Y1, Y2, k5⟩ := hrel
              by_cases hlt5 : j < i
              · have c5 := r5.cell j hlt5
                rw [Y2.out j (Nat.le_refl j)] at c5
                have fr5 := r5.frozen j
                have l5 := lo7 j hlt5
                have R5 := reduce_any M m hg (y7 j) (by omega) _ (hM7.kept k5 hMA)
                have r6 := r5.set j (redB (y7 j) m.p)
                have k6 := setKept k5 j (.int .u64 (redB (y7 j) m.p))
                have HS : Hid (redB (y7 j) m.p = redB (y7 j) m.p) := rfl
                obtain ⟨u, hu⟩ : ∃ u, u = y7 j := ⟨_, rfl⟩
                rw [← hu] at c5 l5 R5 r6 k6
                have HU := hidd hu
                clear hu
                go_wp2_with fail
                refine R5.mono ?_
                rintro e wx ⟨rfl, rfl⟩
                go_wp2_with fail
                go_roundw
                case rel => exact ⟨j + 1, _, by omega, by go_num, r6, (fun l hl => (by
                  rcases Nat.lt_succ_iff_lt_or_eq.1 hl with h | h
                  · rw [upd_other _ _ _ _ (by omega)]; exact Y1.out l h
                  · rw [h, upd_same, HU.out])), (fun l hl => (by rw [upd_other _ _ _ _ (by omega)]; exact Y2.out l (by omega))), k6⟩
                case measure => simp [intOf]; omega
              · have ej : j = i := by omega
                subst ej
                go_wp2_with fail
                go_ret
                refine ⟨rfl, v, some v3, y5, hS7.kept k5 (fun B (hB : B = A) => hB ▸ hA5), SW3.out, fun _ => ⟨v3, rfl⟩, fun u h => by rw [G3.same u h], fun B hB h => G3.notOwn3 (Nat.lt_of_lt_of_le hB (Nat.le_trans KW3.out.size k4.size)) (NW3.out B hB h), r5, fun l hl => ?_, KW7.out.trans k5 (fun B _ h => Or.inl h), fun l hl => ?_⟩
                · rw [Y1.out l hl]; exact redB_lt _ _ (lo7 l hl)
                · rw [Y1.out l hl]; exact (redB_eqm _ _).trans (E7.out l hl)

end Go.Proofs.Qxb6616212a
