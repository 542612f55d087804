import Derived.Test.Qxb6616212aZz
import Derived.Test.Qxb6616212aNext
namespace Go.Proofs.Qxb6616212a
open Go.RowKit

set_option maxHeartbeats 1000000 in
set_option maxRecDepth 100000 in
theorem law6_any (p root inv r2 cube ci : Nat) (hp : p < 18446744073709551616) (hroot : root < 18446744073709551616) (hinv : inv < 18446744073709551616) (hr2 : r2 < 18446744073709551616)
    (hcu : cube < 18446744073709551616) (hci : ci < 18446744073709551616) (ao bo : Option Addr) (n nb ca cb : Nat) (x z : Nat → Nat) (hn : n ≤ 9223372036854775807) (hm : nb ≤ 9223372036854775807) (w : World)
    (hx : Words w ao n x) (hz : Words w bo nb z) (hxb : ∀ i, i < n → x i < 18446744073709551616) (hzb : ∀ i, i < nb → z i < 18446744073709551616) :
    Calls Try.prog 6 #[.int .u64 p, .int .u64 root, .int .u64 inv, .int .u64 r2, .int .u64 cube, .int .u64 ci, .slice ao n ca, .slice bo nb cb] w fun e w' => e = .returned (.bool true) ∧ Kept0 w w' := by
  have B1 := bytes6_any p root inv r2 cube ci ao bo n nb ca cb hn hm w
  by_cases hlen : ¬ (n ≤ 65536 ∧ nb ≤ 65536)
  · by_cases h1 : 65536 < n
    · go_enter Try.func6, Try.ntmps6
      go_wp2_with fail
      refine B1.mono ?_
      rintro e wx ⟨r, rfl, rfl⟩
      cases r with
      | false =>
        go_wp2_with fail
        go_ret
        exact ⟨rfl, Kept.refl _ _⟩
      | true =>
        go_wp2_with fail
        go_ret
        exact ⟨rfl, Kept.refl _ _⟩
    · have h2 : 65536 < nb := by omega
      go_enter Try.func6, Try.ntmps6
      go_wp2_with fail
      refine B1.mono ?_
      rintro e wx ⟨r, rfl, rfl⟩
      cases r with
      | false =>
        go_wp2_with fail
        go_ret
        exact ⟨rfl, Kept.refl _ _⟩
      | true =>
        go_wp2_with fail
        go_ret
        exact ⟨rfl, Kept.refl _ _⟩
  have hlen' : n ≤ 65536 ∧ nb ≤ 65536 := Decidable.not_not.1 hlen
  clear hlen
  obtain ⟨hn6, hm6⟩ := hlen'
  have PR := prem_any p root inv r2 cube ci hp hroot hinv hr2 hcu hci ao bo n nb ca cb x z hn6 hm6 w hx hz hxb hzb
  go_enter Try.func6, Try.ntmps6
  go_wp2_with fail
  refine B1.mono ?_
  rintro e wx ⟨r, rfl, rfl⟩
  clear B1
  cases r with
  | false =>
    go_wp2_with fail
    go_ret
    exact ⟨rfl, Kept.refl _ _⟩
  | true =>
  go_wp2_with fail
  refine PR.mono ?_
  rintro e w1 ⟨r, rfl, k1, hr⟩
  clear PR
  cases r with
  | false =>
    go_wp2_with fail
    go_ret
    exact ⟨rfl, k1⟩
  | true =>
  obtain ⟨hnm, hL, hO, hx2, hz2⟩ := hr rfl
  subst hnm
  have n4 := hL.pos
  have C1 := clone_any ao n ca x (by omega) hn6 w1 (hx.kept k1)
  go_wp2_with fail
  refine C1.mono ?_
  rintro e w2 ⟨rfl, rA1, k2⟩
  clear C1
  have A1lt := rA1.lt
  have A1ge := k1.size
  obtain ⟨A1, hA1⟩ : ∃ A, A = w1.heap.size := ⟨_, rfl⟩
  rw [← hA1] at rA1 A1lt A1ge ⊢
  clear hA1
  have K2 := k1.trans0 k2
  have C2 := clone_any bo n cb z (by omega) hn6 w2 (hz.kept K2)
  go_wp2_with fail
  refine C2.mono ?_
  rintro e w3 ⟨rfl, rB1, k3⟩
  clear C2
  have rA3 := rA1.kept0 k3
  have K3 := K2.trans0 k3
  obtain ⟨B1, hB1⟩ : ∃ A, A = w2.heap.size := ⟨_, rfl⟩
  rw [← hB1] at rB1 A1lt ⊢
  clear hB1 rA1 k3 K2 k2 k1
  have hpl := hO.lt
  have hpb := hO.big
  have hp0 : p ≠ 0 := by omega
  have B1lt := rB1.lt
  obtain ⟨w4, mk4, rP4, k4, s4⟩ := make_row w3 n (by omega)
  obtain ⟨w5, mk5, rO5, k5, s5⟩ := make_row w4 n (by omega)
  obtain ⟨w6, mk6, rF6, k6, s6⟩ := make_row w5 n (by omega)
  have rP6 := (rP4.kept0 k5).kept0 k6
  have rO6 := rO5.kept0 k6
  have rA6 := ((rA3.kept0 k4).kept0 k5).kept0 k6
  have rB6 := ((rB1.kept0 k4).kept0 k5).kept0 k6
  have K6 := ((K3.trans0 k4).trans0 k5).trans0 k6
  obtain ⟨P, hP⟩ : ∃ A, A = w3.heap.size := ⟨_, rfl⟩
  obtain ⟨O, hOb⟩ : ∃ A, A = w4.heap.size := ⟨_, rfl⟩
  obtain ⟨Fb, hF⟩ : ∃ A, A = w5.heap.size := ⟨_, rfl⟩
  have PO : P < O := by omega
  have OF : O < Fb := by omega
  rw [← hP] at mk4 rP6 B1lt
  rw [← hOb] at mk5 rO6
  rw [← hF] at mk6 rF6
  clear hP hOb hF s4 s5 s6 k4 k5 k6 rP4 rO5 rA3 rB1 K3
  go_wp2_with fail
  clear mk4 mk5 mk6
  go_loopw [21] (fun ti wr => ∃ (i : Nat) (pr on : Nat → Nat), i ≤ n ∧ ti = .int .i64 i ∧ Row wr A1 n x ∧ Row wr B1 n z ∧ Row wr P n pr ∧ Row wr O n on ∧ Row wr Fb n (fun _ => 0) ∧ Hid (∀ j, j < i → pr j = x j % p * (z j % p) % p) ∧ Hid (∀ j, j < i → on j = 1) ∧ Kept0 w wr) (fun ti _ => n - (intOf ti).toNat)
  case atStart => exact ⟨0, _, _, by omega, rfl, rA6, rB6, rP6, rO6, rF6, fun j hj => by omega, fun j hj => by omega, K6⟩
  case round =>
    obtain ⟨i, pr, on, hi, rfl, rA, rB, rP, rO, rF, HP, HO, kr⟩ := hrel
    clear rA6 rB6 rP6 rO6 rF6 K6
    by_cases hlt : i < n
    · have ca1 := rA.cell i hlt
      have cb1 := rB.cell i hlt
      have fP := rP.frozen i
      have cP := rP.cell i hlt
      obtain ⟨xr, hxr, _, xe⟩ := rem_nat (x i) p
      obtain ⟨zr, hzr, _, ze⟩ := rem_nat (z i) p
      have xl : xr < p := by rw [hxr]; exact Nat.mod_lt _ (by omega)
      have zl : zr < p := by rw [hzr]; exact Nat.mod_lt _ (by omega)
      have R1 := mulMod_any xr zr p hpl xl (by omega)
      obtain ⟨v, hv⟩ : ∃ v, v = xr * zr % p := ⟨_, rfl⟩
      rw [← hv] at R1
      have HV : Hid (v = x i % p * (z i % p) % p) := by show _ = _; rw [hv, hxr, hzr]
      clear hxr hzr hv
      obtain ⟨a, ha⟩ : ∃ a, a = x i := ⟨_, rfl⟩
      obtain ⟨c, hc⟩ : ∃ a, a = z i := ⟨_, rfl⟩
      rw [← ha] at ca1 xe
      rw [← hc] at cb1 ze
      clear ha hc
      go_wp2_with fail
      go_region_with (go_at_call 19; refine (R1 _).mono ?_; rintro e wx ⟨rfl, rfl⟩)
      all_goals (
        have rP1 : Row ((wr.setCell ⟨P, i, none⟩ (.int .u64 v)).drew) P n (upd pr i v) := (rP.set i v).drew
        have rO1 : Row ((wr.setCell ⟨P, i, none⟩ (.int .u64 v)).drew) O n on := (rO.setOther ⟨P, i, none⟩ _ (by show P ≠ O; omega)).drew
        have rF1 : Row ((wr.setCell ⟨P, i, none⟩ (.int .u64 v)).drew) Fb n (fun _ => 0) := (rF.setOther ⟨P, i, none⟩ _ (by show P ≠ Fb; omega)).drew
        have rA1 : Row ((wr.setCell ⟨P, i, none⟩ (.int .u64 v)).drew) A1 n x := (rA.setOther ⟨P, i, none⟩ _ (by show P ≠ A1; omega)).drew
        have rB1 : Row ((wr.setCell ⟨P, i, none⟩ (.int .u64 v)).drew) B1 n z := (rB.setOther ⟨P, i, none⟩ _ (by show P ≠ B1; omega)).drew
        have k1 : Kept0 w ((wr.setCell ⟨P, i, none⟩ (.int .u64 v)).drew) := (kr.trans (Kept.setCell _ _ _) (fun j hj h => by simp at h; omega)).drewR
        obtain ⟨wp, hwp⟩ : ∃ u, u = (wr.setCell ⟨P, i, none⟩ (.int .u64 v)).drew := ⟨_, rfl⟩
        rw [← hwp] at rP1 rO1 rF1 rA1 rB1 k1 ⊢
        clear hwp rP rO rF rA rB kr ca1 cb1 fP cP R1 xe ze
        have cO := rO1.cell i hlt
        have fO := rO1.frozen i
        have rO2 := rO1.set i 1
        have rP2 := rP1.setOther ⟨O, i, none⟩ (.int .u64 1) (by show O ≠ P; omega)
        have rF2 := rF1.setOther ⟨O, i, none⟩ (.int .u64 1) (by show O ≠ Fb; omega)
        have rA2 := rA1.setOther ⟨O, i, none⟩ (.int .u64 1) (by show O ≠ A1; omega)
        have rB2 := rB1.setOther ⟨O, i, none⟩ (.int .u64 1) (by show O ≠ B1; omega)
        have k2 := k1.trans (Kept.setCell wp ⟨O, i, none⟩ (.int .u64 1)) (fun j hj h => by simp at h; omega)
        have HP2 : Hid (∀ j, j < i + 1 → upd pr i v j = x j % p * (z j % p) % p) := fun j hj => (by
          rcases Nat.lt_succ_iff_lt_or_eq.1 hj with h | h
          · rw [upd_other _ _ _ _ (by omega)]; exact HP.out j h
          · rw [h, upd_same]; exact HV.out)
        have HO2 : Hid (∀ j, j < i + 1 → upd on i 1 j = 1) := fun j hj => (by
          rcases Nat.lt_succ_iff_lt_or_eq.1 hj with h | h
          · rw [upd_other _ _ _ _ (by omega)]; exact HO.out j h
          · rw [h, upd_same])
        go_wp2_with fail
        go_roundw
        case rel => exact ⟨i + 1, _, _, by omega, by go_num, rA2, rB2, rP2, rO2, rF2, HP2, HO2, k2⟩
        case measure => simp [intOf]; omega)
    · have ei : i = n := by omega
      subst ei
      have cP0 := rP.cell 0 (by omega)
      have c0l : pr 0 < p := by rw [HP.out 0 (by omega)]; exact Nat.mod_lt _ (by omega)
      obtain ⟨c, hc⟩ : ∃ c, c = pr 0 := ⟨_, rfl⟩
      rw [← hc] at cP0 c0l
      clear hc
      go_wp2_with fail
      clear cP0
      go_loopw [23] (fun ti wr => ∃ (j : Nat) (fl : Nat → Nat), j ≤ i ∧ ti = .int .i64 j ∧ Row wr A1 i x ∧ Row wr B1 i z ∧ Row wr P i pr ∧ Row wr O i on ∧ Row wr Fb i fl ∧ Hid (∀ l, l < j → fl l = c) ∧ Kept0 w wr) (fun ti _ => i - (intOf ti).toNat)
      case atStart => exact ⟨0, _, by omega, rfl, rA, rB, rP, rO, rF, fun l hl => by omega, kr⟩
      case round =>
        obtain ⟨j, fl, hj, rfl, rA2, rB2, rP2, rO2, rF2, HF, kr2⟩ := hrel
        clear rA rB rP rO rF kr
        by_cases hlt2 : j < i
        · have cF := rF2.cell j hlt2
          have fF := rF2.frozen j
          have rF3 := rF2.set j c
          have rP3 := rP2.setOther ⟨Fb, j, none⟩ (.int .u64 c) (by show Fb ≠ P; omega)
          have rO3 := rO2.setOther ⟨Fb, j, none⟩ (.int .u64 c) (by show Fb ≠ O; omega)
          have rA3 := rA2.setOther ⟨Fb, j, none⟩ (.int .u64 c) (by show Fb ≠ A1; omega)
          have rB3 := rB2.setOther ⟨Fb, j, none⟩ (.int .u64 c) (by show Fb ≠ B1; omega)
          have k3 := kr2.trans (Kept.setCell _ ⟨Fb, j, none⟩ (.int .u64 c)) (fun l hl h => by simp at h; omega)
          have HF3 : Hid (∀ l, l < j + 1 → upd fl j c l = c) := fun l hl => (by
            rcases Nat.lt_succ_iff_lt_or_eq.1 hl with h | h
            · rw [upd_other _ _ _ _ (by omega)]; exact HF.out l h
            · rw [h, upd_same])
          go_wp2_with fail
          go_roundw
          case rel => exact ⟨j + 1, _, by omega, by go_num, rA3, rB3, rP3, rO3, rF3, HF3, k3⟩
          case measure => simp [intOf]; omega
        · have ej : j = i := by omega
          subst ej
          have rFc := rF2.congr (y := fun _ => c) (fun l hl => HF.out l hl)
          have rOc := rO2.congr (y := fun _ => 1) (fun l hl => HO.out l hl)
          clear rF2 rO2 HF HO
          have NM := newMod_any p root inv r2 cube ci wr
          go_wp2_with fail
          refine NM.mono ?_
          rintro e w5 ⟨rfl, hMod, hSK, hSK3, k5⟩
          clear NM
          have FbK := rFc.lt
          obtain ⟨K, hK⟩ : ∃ K, K = wr.heap.size := ⟨_, rfl⟩
          rw [← hK] at hMod hSK hSK3 FbK ⊢
          clear hK
          obtain ⟨k, b, hk, hnl⟩ := len_of_Len j hL
          obtain ⟨m, hm⟩ : ∃ m : Md, m = ⟨p, root, inv, r2, cube, ci, K, K + 1⟩ := ⟨_, rfl⟩
          have mp : m.p = p := by rw [hm]
          have mK : m.K = K := by rw [hm]
          have mK3 : m.K3 = K + 1 := by rw [hm]
          have HG : Hid (Good m) := by rw [hm]; exact good_of p root inv r2 cube ci K (K + 1) hinv hO
          have hSt : St w5 (K + 1 + 1) m k none none := by
            rw [hm]
            exact ⟨hMod, hSK, hSK3, by show K ≠ K + 1; omega, by show K + 1 + 1 ≠ K; omega, by show K + 1 + 1 ≠ K + 1; omega, fun v h => by simp at h, fun v h => by simp at h⟩
          have Mlt := hMod.lt
          have HMP := hidd mp
          have HMK := hidd mK
          have HMK3 := hidd mK3
          have HNL := hidd hnl
          have rA5 := rA2.kept0 k5
          have rB5 := rB2.kept0 k5
          have rP5 := rP2.kept0 k5
          have rO5 := rOc.kept0 k5
          have rF5 := rFc.kept0 k5
          have K5 := kr2.trans0 k5
          clear hMod hSK hSK3 hm mp mK mK3 hnl rA2 rB2 rP2 rOc rFc kr2 k5
          have f0 : Hid (∀ l, l < j → Eqm m.p ((x l : Int) * z l * (j ^ (m.p - 2) % m.p : Nat)) ((x l : Int) * z l * (j ^ (m.p - 2) % m.p : Nat))) := fun l _ => Eqm.refl _ _
          have lx : Hid (Lo (2 * m.p) j x) := by rw [HMP.out]; exact hx2
          have lz : Hid (Lo (2 * m.p) j z) := by rw [HMP.out]; exact hz2
          have lpr : Hid (Lo (2 * m.p) j pr) := by
            show Lo _ _ _
            rw [HMP.out]; intro l hl
            rw [HP.out l hl]
            have := Nat.mod_lt (x l % p * (z l % p)) (show p > 0 by omega)
            omega
          -- the first call
          have C1 := clone_any (some ⟨A1, 0, none⟩) j j x (by omega) hn6 w5 rA5.words
          go_wp2_with fail
          refine C1.mono ?_
          rintro e w6 ⟨rfl, rA6, k6⟩
          clear C1
          have A2lt := rA6.lt
          obtain ⟨A2, hA2⟩ : ∃ A, A = w5.heap.size := ⟨_, rfl⟩
          rw [← hA2] at rA6 A2lt Mlt ⊢
          clear hA2
          have C2 := clone_any (some ⟨B1, 0, none⟩) j j z (by omega) hn6 w6 (rB5.kept0 k6).words
          go_wp2_with fail
          refine C2.mono ?_
          rintro e w7 ⟨rfl, rB7, k7⟩
          clear C2
          obtain ⟨B2, hB2⟩ : ∃ A, A = w6.heap.size := ⟨_, rfl⟩
          rw [← hB2] at rB7 A2lt ⊢
          clear hB2
          have k67 := k6.trans0 k7
          have rA7 := rA6.kept0 k7
          have St7 := hSt.kept k67 (fun B h => h.elim)
          have qA := rA5.kept0 k67
          have qB := rB5.kept0 k67
          have qP := rP5.kept0 k67
          have qO := rO5.kept0 k67
          have qF := rF5.kept0 k67
          have K7 := K5.trans0 k67
          clear rA6 k6 k7 k67 hSt rA5 rB5 rP5 rO5 rF5 K5
          have V1 := zzconv_any (K + 1 + 1) m HG.out k b hk j HNL.out hn6 A2 B2 x z (fun l => (x l : Int) * z l * (j ^ (m.p - 2) % m.p : Nat)) none none w7 St7 rA7 rB7 (by omega)
            (not_own0 (by omega) (by rw [HMK.out]; omega) (by rw [HMK3.out]; omega)) lx.out lz.out f0.out
          have noP : ¬ Own (K + 1 + 1) m none none P := not_own0 (by omega) (by rw [HMK.out]; omega) (by rw [HMK3.out]; omega)
          have noF : ¬ Own (K + 1 + 1) m none none Fb := not_own0 (by omega) (by rw [HMK.out]; omega) (by rw [HMK3.out]; omega)
          go_wp2_with fail
          refine V1.mono ?_
          rintro e w8 ⟨rfl, CP⟩
          clear V1
          obtain ⟨v, o1, y1, St8, h8, no8, rY1, lo1, kp8, e8⟩ := CP.first
          clear CP
          have nS : ∀ B, B < K → ¬ (B = A2 ∨ B = m.K ∨ B = m.K3) := fun B hB h => by
            rw [HMK.out, HMK3.out] at h; omega
          have qA8 := qA.kept kp8 (nS A1 (by omega))
          have qB8 := qB.kept kp8 (nS B1 (by omega))
          have qP8 := qP.kept kp8 (nS P (by omega))
          have qO8 := qO.kept kp8 (nS O (by omega))
          have qF8 := qF.kept kp8 (nS Fb (by omega))
          have K8 : Kept0 w w8 := K7.trans kp8 (fun B hB h => nS B (by omega) h)
          have noP8 := no8 P qP.lt noP
          have noF8 := no8 Fb qF.lt noF
          have E8 := hidd e8
          have H8 := hidd h8
          clear qA qB qP qO qF K7 nS kp8 no8 noP noF e8 h8 St7 rA7 rB7
          -- the second call
          have C3 := clone_any (some ⟨B1, 0, none⟩) j j z (by omega) hn6 w8 qB8.words
          go_wp2_with fail
          refine C3.mono ?_
          rintro e w9 ⟨rfl, rB9, k9⟩
          clear C3
          have A2B3 := rY1.lt
          have noB3 := St8.not_own (Nat.le_refl _)
          have B3lt := rB9.lt
          obtain ⟨B3, hB3⟩ : ∃ A, A = w8.heap.size := ⟨_, rfl⟩
          rw [← hB3] at rB9 A2B3 noB3 B3lt ⊢
          clear hB3
          have C4 := clone_any (some ⟨A1, 0, none⟩) j j x (by omega) hn6 w9 (qA8.kept0 k9).words
          go_wp2_with fail
          refine C4.mono ?_
          rintro e w10 ⟨rfl, rA10, k10⟩
          clear C4
          obtain ⟨A3, hA3⟩ : ∃ A, A = w9.heap.size := ⟨_, rfl⟩
          rw [← hA3] at rA10 B3lt ⊢
          clear hA3
          have k910 := k9.trans0 k10
          have rB10 := rB9.kept0 k10
          have St10 := St8.kept k910 (fun B h => h.elim)
          have qP10 := qP8.kept0 k910
          have qO10 := qO8.kept0 k910
          have qF10 := qF8.kept0 k910
          have rY110 := rY1.kept0 k910
          have K10 := K8.trans0 k910
          clear qA8 qB8 qP8 qO8 qF8 rY1 K8 k9 k10 k910 rB9 St8
          have V2 := zzconv_any (K + 1 + 1) m HG.out k b hk j HNL.out hn6 B3 A3 z x (fun l => (x l : Int) * z l * (j ^ (m.p - 2) % m.p : Nat)) (some v) o1 w10 St10 rB10 rA10 (by omega) noB3 lz.out lx.out
            (fun l _ => by rw [Int.mul_comm (z l : Int) (x l : Int)]; exact Eqm.refl _ _)
          go_wp2_with fail
          refine V2.mono ?_
          rintro e w11 ⟨rfl, CP⟩
          clear V2
          obtain ⟨o2, y2, St11, h11, no11, rY2, lo2, kp11, e11⟩ := CP.next (o1 := o1) (fun hb => ⟨rfl, (H8.out hb).2⟩)
          clear CP
          have nS : ∀ B, B < B3 → B ≠ K → B ≠ K + 1 → ¬ (B = B3 ∨ B = m.K ∨ B = m.K3) := fun B hB h1 h2 h => by
            rw [HMK.out, HMK3.out] at h; omega
          have qP11 := qP10.kept kp11 (nS P (by omega) (by omega) (by omega))
          have qO11 := qO10.kept kp11 (nS O (by omega) (by omega) (by omega))
          have qF11 := qF10.kept kp11 (nS Fb (by omega) (by omega) (by omega))
          have rY111 := rY110.kept kp11 (nS A2 (by omega) (by omega) (by omega))
          have K11 : Kept0 w w11 := K10.trans kp11 (fun B hB h => nS B (by omega) (by omega) (by omega) h)
          have noP11 := no11 P qP10.lt noP8
          have noF11 := no11 Fb qF10.lt noF8
          have E11 := hidd e11
          have H11 := hidd h11
          clear qP10 qO10 qF10 rY110 K10 nS kp11 no11 noP8 noF8 e11 h11 St10 rA10 rB10 noB3 H8
          -- the third call
          have C5 := clone_any (some ⟨O, 0, none⟩) j j (fun _ => 1) (by omega) hn6 w11 qO11.words
          go_wp2_with fail
          refine C5.mono ?_
          rintro e w12 ⟨rfl, rO12, k12⟩
          clear C5
          have B3O2 := rY2.lt
          obtain ⟨O2, hO2⟩ : ∃ A, A = w11.heap.size := ⟨_, rfl⟩
          rw [← hO2] at rO12 B3O2 ⊢
          clear hO2
          have St12 := St11.kept k12 (fun B h => h.elim)
          have qP12 := qP11.kept0 k12
          have qO12 := qO11.kept0 k12
          have qF12 := qF11.kept0 k12
          have rY112 := rY111.kept0 k12
          have rY212 := rY2.kept0 k12
          have K12 := K11.trans0 k12
          clear qP11 qO11 qF11 rY111 rY2 K11 k12 St11
          have l1 : Lo (2 * m.p) j (fun _ => 1) := fun l _ => by
            show 1 < _
            rw [HMP.out]; omega
          have V3 := zzconv_any (K + 1 + 1) m HG.out k b hk j HNL.out hn6 P O2 pr (fun _ => 1) (fun l => (x l : Int) * z l * (j ^ (m.p - 2) % m.p : Nat)) (some v) o2 w12 St12 qP12 rO12 (by omega) noP11 lpr.out l1
            (fun l hl => by
              refine Eqm.mul ?_ (Eqm.refl _ _)
              show Eqm m.p ((pr l : Int) * ((1 : Nat) : Int)) _
              rw [Int.natCast_one, Int.mul_one, HMP.out]
              exact prod_eqm p (x l % p) (z l % p) (pr l) (x l) (z l) rfl rfl (HP.out l hl))
          have HL1 := hidd l1
          clear l1
          go_wp2_with fail
          refine V3.mono ?_
          rintro e w13 ⟨rfl, CP⟩
          clear V3
          obtain ⟨o4, y3, St13, h13, no13, rY3, lo3, kp13, e13⟩ := CP.next H11.out
          clear CP
          have nS : ∀ B, B ≠ P → B ≠ K → B ≠ K + 1 → ¬ (B = P ∨ B = m.K ∨ B = m.K3) := fun B hB h1 h2 h => by
            rw [HMK.out, HMK3.out] at h; omega
          have qO13 := qO12.kept kp13 (nS O (by omega) (by omega) (by omega))
          have qF13 := qF12.kept kp13 (nS Fb (by omega) (by omega) (by omega))
          have rY113 := rY112.kept kp13 (nS A2 (by omega) (by omega) (by omega))
          have rY213 := rY212.kept kp13 (nS B3 (by omega) (by omega) (by omega))
          have K13 : Kept0 w w13 := K12.trans kp13 (fun B hB h => nS B (by omega) (by omega) (by omega) h)
          have noF13 := no13 Fb qF12.lt noF11
          have E13 := hidd e13
          have H13 := hidd h13
          clear qP12 qO12 qF12 rY112 rY212 K12 nS kp13 no13 noP11 noF11 e13 h13 St12 rO12 H11
          -- the fourth call
          have C6 := clone_any (some ⟨O, 0, none⟩) j j (fun _ => 1) (by omega) hn6 w13 qO13.words
          go_wp2_with fail
          refine C6.mono ?_
          rintro e w14 ⟨rfl, rO14, k14⟩
          clear C6
          have B3O3 := rY213.lt
          obtain ⟨O3, hO3⟩ : ∃ A, A = w13.heap.size := ⟨_, rfl⟩
          rw [← hO3] at rO14 B3O3 ⊢
          clear hO3
          have St14 := St13.kept k14 (fun B h => h.elim)
          have qF14 := qF13.kept0 k14
          have rY114 := rY113.kept0 k14
          have rY214 := rY213.kept0 k14
          have rY314 := rY3.kept0 k14
          have K14 := K13.trans0 k14
          clear qO13 qF13 rY113 rY213 rY3 K13 k14 St13
          have lc : Lo (2 * m.p) j (fun _ => c) := fun l _ => by
            show c < _
            rw [HMP.out]; omega
          have V4 := zzconv_any (K + 1 + 1) m HG.out k b hk j HNL.out hn6 Fb O3 (fun _ => c) (fun _ => 1) (fun _ => (c : Int) * (j ^ (m.p - 2) % m.p : Nat)) (some v) o4 w14 St14 qF14 rO14 (by omega) noF13 lc HL1.out
            (fun l hl => by
              refine Eqm.mul ?_ (Eqm.refl _ _)
              show Eqm m.p ((c : Int) * ((1 : Nat) : Int)) _
              rw [Int.natCast_one, Int.mul_one]
              exact Eqm.refl _ _)
          clear lc
          go_wp2_with fail
          refine V4.mono ?_
          rintro e w15 ⟨rfl, CP⟩
          clear V4
          obtain ⟨o5, y4, St15, h15, no15, rY4, lo4, kp15, e15⟩ := CP.next H13.out
          clear CP
          have nS : ∀ B, B ≠ Fb → B ≠ K → B ≠ K + 1 → ¬ (B = Fb ∨ B = m.K ∨ B = m.K3) := fun B hB h1 h2 h => by
            rw [HMK.out, HMK3.out] at h; omega
          have r1 := rY114.kept kp15 (nS A2 (by omega) (by omega) (by omega))
          have r2 := rY214.kept kp15 (nS B3 (by omega) (by omega) (by omega))
          have r3 := rY314.kept kp15 (nS P (by omega) (by omega) (by omega))
          have K15 : Kept0 w w15 := K14.trans kp15 (fun B hB h => nS B (by omega) (by omega) (by omega) h)
          have Y2 : Hid (∀ l, l < j → y2 l = y1 l) := fun l hl => Eqm.eq_of_lt ((E11.out l hl).trans (E8.out l hl).symm) (lo2 l hl) (lo1 l hl)
          have Y3 : Hid (∀ l, l < j → y3 l = y1 l) := fun l hl => Eqm.eq_of_lt ((E13.out l hl).trans (E8.out l hl).symm) (lo3 l hl) (lo1 l hl)
          have Y4 : Hid (∀ l, l < j → y4 l = if l = 0 then c else 0) := fun l hl => flat_law HG.out HNL.out St15 h15 c (by rw [HMP.out]; exact c0l) y4 lo4 e15 l hl
          clear rY114 rY214 rY314 K14 nS kp15 no15 noF13 e15 h15 St14 St15 rO14 H13 E8 E11 E13 qF14 lo1 lo2 lo3 lo4 lx lz lpr f0
          have cF := rY4.cell 0 (by omega)
          rw [Y4.out 0 (by omega), if_pos rfl] at cF
          go_wp2_with fail
          clear cF
          go_loopw [29] (fun tl wr => ∃ l : Nat, l ≤ j ∧ tl = .int .i64 l ∧ Row wr A2 j y1 ∧ Row wr B3 j y2 ∧ Row wr P j y3 ∧ Row wr Fb j y4 ∧ Kept0 w wr) (fun tl _ => j - (intOf tl).toNat)
          case atStart => exact ⟨0, by omega, rfl, r1, r2, r3, rY4, K15⟩
          case round =>
            obtain ⟨l, hl, rfl, s1, s2, s3, s4, ks⟩ := hrel
            clear r1 r2 r3 rY4 K15
            by_cases hll : l < j
            · have c1 := s1.cell l hll
              have c2 := s2.cell l hll
              have c3 := s3.cell l hll
              rw [Y2.out l hll] at c2
              rw [Y3.out l hll] at c3
              obtain ⟨u, hu⟩ : ∃ u, u = y1 l := ⟨_, rfl⟩
              rw [← hu] at c1 c2 c3
              clear hu
              go_wp2_with fail
              go_quiet (fail)
              have t1 := s1.drewN nq
              have t2 := s2.drewN nq
              have t3 := s3.drewN nq
              have t4 := s4.drewN nq
              have kt := ks.drewNR nq
              obtain ⟨wq, hwq⟩ : ∃ v, v = wr.drewN nq := ⟨_, rfl⟩
              rw [← hwq] at t1 t2 t3 t4 kt ⊢
              clear hwq s1 s2 s3 s4 ks c1 c2 c3
              have c4 := t4.cell l hll
              rw [Y4.out l hll] at c4
              by_cases hl0 : l = 0
              · subst hl0
                go_wp2_with fail
                go_roundw
                case rel => exact ⟨1, by omega, by go_num, t1, t2, t3, t4, kt⟩
                case measure => simp [intOf]; omega
              · rw [if_neg hl0] at c4
                have hl1 : 0 < l := by omega
                go_wp2_with fail
                go_roundw
                case rel => exact ⟨l + 1, by omega, by go_num, t1, t2, t3, t4, kt⟩
                case measure => simp [intOf]; omega
            · have el : l = j := by omega
              subst el
              go_wp2_with fail
              go_ret
              exact ⟨rfl, ks⟩

end Go.Proofs.Qxb6616212a
