import Derived.Test.Qxb6616212aZz
import Derived.Test.Qxb6616212aLawP
import Derived.Lib.Builder
namespace Go.Proofs.Qxb6616212a
open Go.RowKit

theorem neq_same (A : Nat) (w : World) : (binOp .neq 48 (.pointer (some ⟨A, 0, none⟩)) (.pointer (some ⟨A, 0, none⟩))).run Try.prog w = .ok (.bool false) w := by
  obtain ⟨i0, hi, _⟩ := Option.map_eq_some_iff.1 info22
  exact Lib.run_neq_ptr_same (te := 22) w ⟨A, 0, none⟩ (by kernel_rfl) hi

set_option maxHeartbeats 1000000 in
set_option maxRecDepth 100000 in
theorem law5_any (p root inv r2 cube ci : Nat) (hp : p < 18446744073709551616) (hroot : root < 18446744073709551616) (hinv : inv < 18446744073709551616) (hr2 : r2 < 18446744073709551616)
    (hcu : cube < 18446744073709551616) (hci : ci < 18446744073709551616) (ao bo : Option Addr) (n nb ca cb : Nat) (x z : Nat → Nat) (hn : n ≤ 9223372036854775807) (hm : nb ≤ 9223372036854775807) (w : World)
    (hx : Words w ao n x) (hz : Words w bo nb z) (hxb : ∀ i, i < n → x i < 18446744073709551616) (hzb : ∀ i, i < nb → z i < 18446744073709551616) :
    Calls Try.prog 5 #[.int .u64 p, .int .u64 root, .int .u64 inv, .int .u64 r2, .int .u64 cube, .int .u64 ci, .slice ao n ca, .slice bo nb cb] w fun e w' => e = .returned (.bool true) ∧ Kept0 w w' := by
  have B1 := bytes5_any p root inv r2 cube ci ao bo n nb ca cb hn hm w
  by_cases hlen : ¬ (n ≤ 65536 ∧ nb ≤ 65536)
  · by_cases h1 : 65536 < n
    · go_enter Try.func5, Try.ntmps5
      go_wp2_with fail
      refine B1.mono ?_
      rintro e wx ⟨r, rfl, rfl⟩
      cases r with
      | false =>
        go_wp2_with fail
        go_ret
        exact ⟨rfl, Kept.refl _ _⟩
      | true =>
        go_wp2_with fail
        go_ret
        exact ⟨rfl, Kept.refl _ _⟩
    · have h2 : 65536 < nb := by omega
      go_enter Try.func5, Try.ntmps5
      go_wp2_with fail
      refine B1.mono ?_
      rintro e wx ⟨r, rfl, rfl⟩
      cases r with
      | false =>
        go_wp2_with fail
        go_ret
        exact ⟨rfl, Kept.refl _ _⟩
      | true =>
        go_wp2_with fail
        go_ret
        exact ⟨rfl, Kept.refl _ _⟩
  have hlen' : n ≤ 65536 ∧ nb ≤ 65536 := Decidable.not_not.1 hlen
  clear hlen
  obtain ⟨hn6, hm6⟩ := hlen'
  have PR := prem_any p root inv r2 cube ci hp hroot hinv hr2 hcu hci ao bo n nb ca cb x z hn6 hm6 w hx hz hxb hzb
  go_enter Try.func5, Try.ntmps5
  go_wp2_with fail
  refine B1.mono ?_
  rintro e wx ⟨r, rfl, rfl⟩
  clear B1
  cases r with
  | false =>
    go_wp2_with fail
    go_ret
    exact ⟨rfl, Kept.refl _ _⟩
  | true =>
  go_wp2_with fail
  refine PR.mono ?_
  rintro e w1 ⟨r, rfl, k1, hr⟩
  clear PR
  cases r with
  | false =>
    go_wp2_with fail
    go_ret
    exact ⟨rfl, k1⟩
  | true =>
  obtain ⟨hnm, hL, hO, hx2, hz2⟩ := hr rfl
  subst hnm
  have n4 := hL.pos
  have C1 := clone_any ao n ca x (by omega) hn6 w1 (hx.kept k1)
  go_wp2_with fail
  refine C1.mono ?_
  rintro e w2 ⟨rfl, rA1, k2⟩
  clear C1
  have A1lt := rA1.lt
  have A1ge := k1.size
  obtain ⟨A1, hA1⟩ : ∃ A, A = w1.heap.size := ⟨_, rfl⟩
  rw [← hA1] at rA1 A1lt A1ge ⊢
  clear hA1
  have K2 := k1.trans0 k2
  have C2 := clone_any bo n cb z (by omega) hn6 w2 (hz.kept K2)
  go_wp2_with fail
  refine C2.mono ?_
  rintro e w3 ⟨rfl, rB1, k3⟩
  clear C2
  have rA3 := rA1.kept0 k3
  have K3 := K2.trans0 k3
  obtain ⟨B1, hB1⟩ : ∃ A, A = w2.heap.size := ⟨_, rfl⟩
  rw [← hB1] at rB1 ⊢
  clear hB1 rA1 k3 K2 k2 k1
  have hpl := hO.lt
  have hpb := hO.big
  have hp0 : p ≠ 0 := by omega
  go_wp2_with fail
  go_loopw [18, 19] (fun td ti wr => ∃ i d : Nat, i ≤ n ∧ ti = .int .i64 i ∧ td = .int .u64 d ∧ d < p ∧ Hid (Eqm p d (sm (fun j => (x j : Int) * z j) i)) ∧ Row wr A1 n x ∧ Row wr B1 n z ∧ Kept0 w wr) (fun _ ti _ => n - (intOf ti).toNat)
  case atStart => exact ⟨0, 0, by omega, rfl, rfl, by omega, Eqm.refl _ _, rA3, rB1, K3⟩
  case round =>
    obtain ⟨i, d, hi, rfl, rfl, hd, HD, rA, rB, kr⟩ := hrel
    clear rA3 rB1 K3
    by_cases hlt : i < n
    · have ca1 := rA.cell i hlt
      have cb1 := rB.cell i hlt
      obtain ⟨xr, hxr, _, xe⟩ := rem_nat (x i) p
      obtain ⟨zr, hzr, _, ze⟩ := rem_nat (z i) p
      have xl : xr < p := by rw [hxr]; exact Nat.mod_lt _ (by omega)
      have zl : zr < p := by rw [hzr]; exact Nat.mod_lt _ (by omega)
      have R1 := mulMod_any xr zr p hpl xl (by omega)
      obtain ⟨v, hv⟩ : ∃ v, v = xr * zr % p := ⟨_, rfl⟩
      have vl : v < p := by rw [hv]; exact Nat.mod_lt _ (by omega)
      rw [← hv] at R1
      have R2 := addMod_any d v p hpl hd vl
      obtain ⟨d', hd'⟩ : ∃ d', d' = (d + v) % p := ⟨_, rfl⟩
      have dl : d' < p := by rw [hd']; exact Nat.mod_lt _ (by omega)
      rw [← hd'] at R2
      have HD' : Hid (Eqm p d' (sm (fun j => (x j : Int) * z j) (i + 1))) := dot_step p d xr zr v d' (x i) (z i) _ HD.out hxr hzr hv hd'
      clear hxr hzr hv hd' HD
      obtain ⟨a, ha⟩ : ∃ a, a = x i := ⟨_, rfl⟩
      obtain ⟨c, hc⟩ : ∃ a, a = z i := ⟨_, rfl⟩
      rw [← ha] at ca1 xe
      rw [← hc] at cb1 ze
      clear ha hc
      go_wp2_with fail
      go_quiet (first | (go_at_call 19; exact Calls.quiet_of_same ((R1 _).mono fun _ _ h => ⟨h.1, h.2.symm⟩)) | (go_at_call 18; exact Calls.quiet_of_same ((R2 _).mono fun _ _ h => ⟨h.1, h.2.symm⟩)))
      go_wp2_with fail
      go_roundw
      case rel => exact ⟨i + 1, d', by omega, by go_num, rfl, dl, HD', rA.drewN nq, rB.drewN nq, kr.drewNR nq⟩
      case measure => simp [intOf]; omega
    · have ei : i = n := by omega
      subst ei
      have tn : (i : Int).tmod (p : Int) = (i : Int) := Int.tmod_eq_of_lt (by omega) (by omega)
      have P1 := powMod_any i (p - 2) p hpl (by omega) (by omega) (by omega)
      have e1 : ((p - 2 : Nat) : Int) = (p : Int) - 2 := by omega
      rw [e1] at P1
      clear e1
      obtain ⟨ni, hni⟩ : ∃ v, v = i ^ (p - 2) % p := ⟨_, rfl⟩
      have nil' : ni < p := by rw [hni]; exact Nat.mod_lt _ (by omega)
      rw [← hni] at P1
      have P2 := mulMod_any d ni p hpl hd (by omega)
      obtain ⟨q0, hq0⟩ : ∃ v, v = d * ni % p := ⟨_, rfl⟩
      have q0l : q0 < p := by rw [hq0]; exact Nat.mod_lt _ (by omega)
      rw [← hq0] at P2
      have HNI := hidd hni
      have Q0 : Hid (Eqm p q0 (sm (fun j => (x j : Int) * z j) i * ni)) := by
        show Eqm _ _ _
        rw [hq0]; refine Eqm.of_mod.trans ?_
        rw [Int.natCast_mul]; exact HD.out.mul (Eqm.refl _ _)
      clear hni hq0
      have ca1 := rA.cell 0 (by omega)
      have cb1 := rB.cell 0 (by omega)
      obtain ⟨xr, hxr, _, xe⟩ := rem_nat (x 0) p
      obtain ⟨zr, hzr, _, ze⟩ := rem_nat (z 0) p
      have xl : xr < p := by rw [hxr]; exact Nat.mod_lt _ (by omega)
      have zl : zr < p := by rw [hzr]; exact Nat.mod_lt _ (by omega)
      have R1 := mulMod_any xr zr p hpl xl (by omega)
      obtain ⟨ws, hv⟩ : ∃ v, v = xr * zr % p := ⟨_, rfl⟩
      have vl : ws < p := by rw [hv]; exact Nat.mod_lt _ (by omega)
      rw [← hv] at R1
      have QS := hidd (prod_eqm p xr zr ws (x 0) (z 0) hxr hzr hv)
      clear hxr hzr hv HD
      obtain ⟨a, ha⟩ : ∃ a, a = x 0 := ⟨_, rfl⟩
      obtain ⟨c, hc⟩ : ∃ a, a = z 0 := ⟨_, rfl⟩
      rw [← ha] at ca1 xe
      rw [← hc] at cb1 ze
      clear ha hc
      go_wp2_with fail
      refine (P1 _).mono ?_
      rintro e wx ⟨rfl, rfl⟩
      clear P1
      go_wp2_with fail
      refine (P2 _).mono ?_
      rintro e wx ⟨rfl, rfl⟩
      clear P2
      go_wp2_with fail
      go_quiet (first | (go_at_call 19; exact Calls.quiet_of_same ((R1 _).mono fun _ _ h => ⟨h.1, h.2.symm⟩)))
      have rA4 := rA.drewN nq
      have rB4 := rB.drewN nq
      have k4 := kr.drewNR nq
      obtain ⟨wq, hwq⟩ : ∃ v, v = wr.drewN nq := ⟨_, rfl⟩
      rw [← hwq] at rA4 rB4 k4 ⊢
      clear hwq rA rB kr R1 tn ca1 cb1 xe ze
      have NM := newMod_any p root inv r2 cube ci wq
      go_wp2_with fail
      refine NM.mono ?_
      rintro e w5 ⟨rfl, hMod, hSK, hSK3, k5⟩
      clear NM
      have A1K := rA4.lt
      have B1K := rB4.lt
      have wK := k4.size
      obtain ⟨K, hK⟩ : ∃ K, K = wq.heap.size := ⟨_, rfl⟩
      rw [← hK] at hMod hSK hSK3 A1K B1K wK ⊢
      clear hK
      obtain ⟨k, b, hk, hnl⟩ := len_of_Len i hL
      have hSt : St w5 (K + 1 + 1) ⟨p, root, inv, r2, cube, ci, K, K + 1⟩ k none none :=
        ⟨hMod, hSK, hSK3, by show K ≠ K + 1; omega, by show K + 1 + 1 ≠ K; omega, by show K + 1 + 1 ≠ K + 1; omega, fun v h => by simp at h, fun v h => by simp at h⟩
      have Mlt := hMod.lt
      clear hMod hSK hSK3
      have k5' := k4.trans0 k5
      have rA5 := rA4.kept0 k5
      have rB5 := rB4.kept0 k5
      have HG := hidd (good_of p root inv r2 cube ci K (K + 1) hinv hO)
      have HNL := hidd hnl
      clear hnl rA4 rB4 k4 k5
      have C3 := clone_any (some ⟨A1, 0, none⟩) i i x (by omega) hn6 w5 rA5.words
      go_wp2_with fail
      refine C3.mono ?_
      rintro e w6 ⟨rfl, rA6, k6⟩
      clear C3
      have A2lt := rA6.lt
      obtain ⟨A2, hA2⟩ : ∃ A, A = w5.heap.size := ⟨_, rfl⟩
      rw [← hA2] at rA6 A2lt Mlt ⊢
      clear hA2
      have rB6 := rB5.kept0 k6
      have C4 := clone_any (some ⟨B1, 0, none⟩) i i z (by omega) hn6 w6 rB6.words
      go_wp2_with fail
      refine C4.mono ?_
      rintro e w7 ⟨rfl, rB7, k7⟩
      clear C4
      obtain ⟨B2, hB2⟩ : ∃ A, A = w6.heap.size := ⟨_, rfl⟩
      rw [← hB2] at rB7 A2lt ⊢
      clear hB2
      have rA7 := rA6.kept0 k7
      have hSt7 := hSt.kept (k6.trans0 k7) (fun B h => h.elim)
      have k7' := (k5'.trans0 k6).trans0 k7
      clear hSt k5' k6 k7 rA6 rB6 rA5 rB5
      have CV := zzconv_any (K + 1 + 1) ⟨p, root, inv, r2, cube, ci, K, K + 1⟩ HG.out k b hk i HNL.out hn6 A2 B2 x z (fun j => (x j : Int) * z j * (i ^ (p - 2) % p : Nat)) none none w7 hSt7 rA7 rB7 (by omega)
        (by rintro (e | e | e | ⟨v, h, _⟩ | ⟨v, h, _⟩)
            · omega
            · have e' : A2 = K := e; omega
            · have e' : A2 = K + 1 := e; omega
            · simp at h
            · simp at h) hx2 hz2 (fun j _ => Eqm.refl _ _)
      go_wp2_with fail
      refine CV.mono ?_
      rintro e w8 ⟨rfl, CP⟩
      clear CV
      obtain ⟨y, rY, loY0, kY, e0, eS⟩ := CP.laws HNL.out
      have loY : Lo p i y := loY0
      have k8 : Kept0 w w8 := k7'.trans kY (fun B hB h => by
        rcases h with h | h | h
        · omega
        · have h' : B = K := h; omega
        · have h' : B = K + 1 := h; omega)
      have hy0 : y 0 = q0 := by
        refine Eqm.eq_of_lt (p := p) ?_ (loY 0 (by omega)) q0l
        refine Eqm.trans (y := sm (fun j => (x j : Int) * z j * (i ^ (p - 2) % p : Nat)) i) e0 ?_
        rw [sm_mul, ← HNI.out]; exact Q0.out.symm
      have ES : Hid (Eqm p (sm (fun j => (y j : Int)) i) ws) := by
        have h1 : Eqm p (sm (fun j => (y j : Int)) i) ((i : Int) * ((x 0 : Int) * z 0 * (i ^ (p - 2) % p : Nat))) := eS
        have h2 : Eqm p ((i : Int) * (i ^ (p - 2) % p : Nat)) 1 := len_inv _ HG.out k b i HNL.out
        have h3 := (Eqm.refl p ((x 0 : Int) * z 0)).mul h2
        rw [Int.mul_one, Int.mul_left_comm] at h3
        exact (h1.trans h3).trans QS.out.symm
      have cy0 := rY.cell 0 (by omega)
      rw [hy0] at cy0
      have HY0 := hidd hy0
      clear hy0 e0 eS loY0 kY k7' hSt7 rA7 rB7 CP
      go_wp2_with fail
      have hne := neq_same A2
      go_quiet (fail)
      have rY9 := rY.drewN nq
      have k9 := k8.drewNR nq
      go_wp2_with fail
      clear cy0 rY k8 hne
      go_loopw [26, 27] (fun td ti wr => ∃ j d : Nat, j ≤ i ∧ ti = .int .i64 j ∧ td = .int .u64 d ∧ d < p ∧ Hid (Eqm p d (sm (fun l => (y l : Int)) j)) ∧ Row wr A2 i y ∧ Kept0 w wr) (fun _ ti _ => i - (intOf ti).toNat)
      case atStart => exact ⟨0, 0, by omega, rfl, rfl, by omega, Eqm.refl _ _, rY9, k9⟩
      case round =>
        obtain ⟨j, d2, hj, rfl, rfl, hd2, HD2, rY, kr⟩ := hrel
        clear rY9 k9
        by_cases hlt2 : j < i
        · have cy := rY.cell j hlt2
          have ly := loY j hlt2
          have R2 := addMod_any d2 (y j) p hpl hd2 ly
          obtain ⟨d', hd'⟩ : ∃ d', d' = (d2 + y j) % p := ⟨_, rfl⟩
          have dl : d' < p := by rw [hd']; exact Nat.mod_lt _ (by omega)
          rw [← hd'] at R2
          have HD' : Hid (Eqm p d' (sm (fun l => (y l : Int)) (j + 1))) := sum_step p d2 (y j) d' _ HD2.out hd'
          clear hd' HD2
          obtain ⟨a, ha⟩ : ∃ a, a = y j := ⟨_, rfl⟩
          rw [← ha] at cy ly R2
          clear ha
          go_wp2_with fail
          refine (R2 _).mono ?_
          rintro e wx ⟨rfl, rfl⟩
          go_wp2_with fail
          go_roundw
          case rel => exact ⟨j + 1, d', by omega, by go_num, rfl, dl, HD', rY, kr⟩
          case measure => simp [intOf]; omega
        · have ej : j = i := by omega
          subst ej
          have hds : d2 = ws := Eqm.eq_of_lt (HD2.out.trans ES.out) hd2 vl
          subst hds
          have cy0 := rY.cell 0 (by omega)
          rw [HY0.out] at cy0
          go_wp2_with fail
          go_ret
          exact ⟨rfl, kr⟩

end Go.Proofs.Qxb6616212a
