import Derived.Test.Qxb6616212aTwid
namespace Go.Proofs.Qxb6616212a
open Go.RowKit

set_option maxHeartbeats 8000000 in
set_option maxRecDepth 100000 in
theorem third_any (M : Nat) (m : Md) (hg : Good m) (k : Nat) (hk2 : 2 ≤ k) (hk : k ≤ 17) (w : World) (hM : ModAt w M m) :
    Calls Try.prog 54 #[.pointer (some ⟨M, 0, none⟩), .int .i64 (2 ^ k : Nat)] w fun e w' => ∃ F I f g, e = .returned (.tuple #[.slice (some ⟨F, 0, none⟩) (2 ^ k) (2 ^ k), .slice (some ⟨I, 0, none⟩) (2 ^ k) (2 ^ k)]) ∧
      Row w' F (2 ^ k) f ∧ Row w' I (2 ^ k) g ∧ Tw m k g ∧ F ≠ I ∧ w.heap.size ≤ F ∧ w.heap.size ≤ I ∧ Kept0 w w' := by
  have hlt := hg.lt
  have hbig := hg.big
  obtain ⟨n, hn⟩ : ∃ n, n = 2 ^ k := ⟨_, rfl⟩
  have hn17 : n ≤ 131072 := by rw [hn]; exact Nat.pow_le_pow_right (by omega) hk
  have hn4 : 4 ≤ n := by rw [hn]; exact Nat.pow_le_pow_right (n := 2) (by omega) hk2
  rw [← hn]
  have HN := hidd hn
  clear hn
  obtain ⟨w1, mk1, r1, k1, s1⟩ := make_row w.drew n (by omega)
  obtain ⟨w2, mk2, r2, k2, s2⟩ := make_row w1 n (by omega)
  have s1' : w1.heap.size = w.heap.size + 1 := s1
  have mk1' : (Instr.makeSlice 23 (.int .i64 (n : Int)) (.int .i64 (n : Int))).run Try.prog w.drew = .ok (.slice (some ⟨w.heap.size, 0, none⟩) n n) w1 := mk1
  have k12 : Kept0 w w2 := (k1.trans0 k2).undrew
  clear mk1 s1
  obtain ⟨P1, hP1⟩ : ∃ P1, P1 = m.p - 1 := ⟨_, rfl⟩
  have hP1i : IntKind.u64.wrap ((m.p : Int) - 1) = (P1 : Int) := by rw [IntKind.wrap_u64]; omega
  have hP1l : P1 < 4611686018427387904 := by omega
  have hP1j : (m.p : Int) - 1 = (P1 : Int) := by omega
  have hP1w : IntKind.u64.wrap (P1 : Int) = (P1 : Int) := by rw [IntKind.wrap_u64]; omega
  clear hP1
  obtain ⟨n3, hn3⟩ : ∃ x, x = 3 * n := ⟨_, rfl⟩
  obtain ⟨h3, hh3, h3a, h3b⟩ := quo_nat n3 2
  simp only [Int.cast_ofNat_Int] at h3a h3b
  have hn3i : IntKind.i64.wrap (3 * (n : Int)) = (n3 : Int) := by rw [IntKind.wrap_i64]; omega
  have hh3w : IntKind.i64.wrap (h3 : Int) = (h3 : Int) := by rw [IntKind.wrap_i64]; omega
  have hh3i : IntKind.u64.wrap (h3 : Int) = (h3 : Int) := by rw [IntKind.wrap_u64]; omega
  have hh30 : h3 ≠ 0 := by omega
  clear hn3 hh3
  obtain ⟨y, hy, ya, yb⟩ := quo_nat P1 h3
  have hyl : y ≤ P1 := by rw [hy]; exact Nat.div_le_self _ _
  have hyi : IntKind.u64.wrap (y : Int) = (y : Int) := by rw [IntKind.wrap_u64]; omega
  have hn0 : n ≠ 0 := by omega
  clear hy
  go_enter Try.func54, Try.ntmps54
  go_wp2_with fail
  go_region
  · have rF := r1.kept0 k2
    have rI : Row w2 (w.heap.size + 1) n (fun _ => 0) := by rw [← s1']; exact r2
    have hM2 : ModAt w2 M m := hM.kept0 k12
    have hMl := hM.lt
    have c0 := hM2.c0
    have c1 := hM2.c1
    have D := fun q rt hrt => down_any M m hg (w.heap.size) k rt hk2 hk hrt (w2.drewN q) (hM2.same rfl) (fun _ => 0) (by rw [← HN.out]; exact rF) (fun _ _ => by show 0 < m.p; omega) (by omega)
    rw [← HN.out] at D
    have Pw := powSlow_any M m hg m.root y hg.root (by omega) w2.drew (hM2.same rfl)
    obtain ⟨rt, hrt⟩ : ∃ rt, rt = m.root ^ y % m.p := ⟨_, rfl⟩
    have hrtl : rt < m.p := by rw [hrt]; exact Nat.mod_lt _ (by omega)
    rw [← hrt] at Pw
    clear hrt
    go_wp2_with fail
    go_region_with (first | (go_at_call 48; refine Pw.mono ?_; rintro e wx ⟨rfl, q, rfl⟩) | (go_at_call 61; refine (D (1 + q) rt hrtl).mono ?_; rintro e w3 ⟨rfl, f, rF3, lF3, oF3, k3⟩))
    all_goals
      clear D Pw c0 c1 rF ya yb hyl hyi h3a h3b hn3i hh3w hh3i hh30 mk1' mk2 r1 r2 k1 k2 s1' s2
      have kW : Kept0 w w3 := k12.trans k3.undrewN (fun i hi h => by omega)
      have rI3 := rI.kept k3.undrewN (by simp)
      clear rI k3 k12 hM2
      go_wp2_with fail
      go_loopw [6] (fun th wr => ∃ (j hh : Nat) (y : Nat → Nat), Hid (hh = 2 ^ j) ∧ j ≤ k ∧ th = .int .i64 hh ∧ hh ≤ n ∧ 1 ≤ hh ∧ Row wr (w.heap.size) n f ∧ Row wr (w.heap.size + 1) n y ∧ Le m.p n y ∧ Hid (∀ i, i < j → y (2 ^ i) = one m) ∧ Kept0 w wr) (fun th _ => n - (intOf th).toNat)
      case atStart => exact ⟨0, 1, _, rfl, by omega, rfl, by omega, by omega, rF3, rI3, fun _ _ => Nat.zero_le _, fun i hi => by omega, kW⟩
      case round =>
        obtain ⟨j, hh, y1, HHH, hjk, rfl, hhn, hh1, rF4, rI4, lI4, HI4, k4⟩ := hrel
        clear rF3 rI3 kW
        by_cases hlt : hh < n
        · have hjk' : j < k := by
            rcases Nat.lt_or_ge j k with h | h
            · exact h
            · have : 2 ^ k ≤ 2 ^ j := Nat.pow_le_pow_right (by omega) h
              rw [← HN.out, ← HHH.out] at this; omega
          have h2n : 2 * hh ≤ n := by
            have : 2 ^ j * 2 ≤ 2 ^ k := by rw [← Nat.pow_succ]; exact Nat.pow_le_pow_right (by omega) hjk'
            rw [← HN.out, ← HHH.out] at this; omega
          have cF := rF4.cell hh hlt
          have cI := rI4.cell hh hlt
          have fI := rI4.frozen hh
          have hfo : f hh = one m := by rw [HHH.out]; exact oF3 j hjk'
          have hfl := lF3 hh hlt
          have rI5 := rI4.set hh (f hh)
          have rF5 := rF4.setOther ⟨w.heap.size + 1, hh, none⟩ (.int .u64 (f hh)) (by simp)
          have k5 := k4.trans (Kept.setCell wr ⟨w.heap.size + 1, hh, none⟩ (.int .u64 (f hh))) (fun i hi h => by simp at h; omega)
          have HO := hidd hfo
          clear hfo
          go_wp2_with fail
          go_loopw [7] (fun tc wr => ∃ (c : Nat) (y : Nat → Nat), 1 ≤ c ∧ c ≤ hh ∧ tc = .int .i64 c ∧ Row wr (w.heap.size) n f ∧ Row wr (w.heap.size + 1) n y ∧ Le m.p n y ∧ Hid (∀ i, i < j + 1 → y (2 ^ i) = one m) ∧ Kept0 w wr) (fun tc _ => hh - (intOf tc).toNat)
          case atStart => exact ⟨1, _, by omega, by omega, rfl, rF5, rI5, lI4.upd _ _ (by omega), tw_put j hh y1 _ _ HHH.out HO.out HI4.out, k5⟩
          case round =>
            obtain ⟨c, y2, hc1, hch, rfl, rF6, rI6, lI6, HI6, k6⟩ := hrel
            clear rF5 rI5 k5 rF4 rI4 lI4 HI4 k4 cF cI fI hfl
            by_cases hlt2 : c < hh
            · obtain ⟨D2, hD2⟩ : ∃ x, x = 2 * hh := ⟨_, rfl⟩
              obtain ⟨d, hd⟩ : ∃ x, x = D2 - c := ⟨_, rfl⟩
              obtain ⟨s, hs⟩ : ∃ x, x = hh + c := ⟨_, rfl⟩
              have hdn : d < n := by omega
              have hsn : s < n := by omega
              have cf := rF6.cell d hdn
              have c5 := (hM.kept0 k6).c5
              have hfd := lF3 d hdn
              have mm := mont_any M m hg m.ci (f d) (by have := hg.ci; omega) (by omega) (lt_p64 m hg _ _ (by have := hg.ci; omega) (by omega)) wr.drew ((hM.kept0 k6).same rfl)
              have hvl0 := montR_lt m hg m.ci (f d) (lt_p64 m hg _ _ (by have := hg.ci; omega) (by omega))
              obtain ⟨v, hv⟩ : ∃ v, v = montR m m.ci (f d) := ⟨_, rfl⟩
              rw [← hv] at mm hvl0
              have e1 : IntKind.i64.wrap (2 * (hh : Int)) = (D2 : Int) := by rw [IntKind.wrap_i64]; omega
              have e2 : IntKind.i64.wrap ((D2 : Int) - (c : Int)) = (d : Int) := by rw [IntKind.wrap_i64]; omega
              have e3 : IntKind.i64.wrap ((hh : Int) + (c : Int)) = (s : Int) := by rw [IntKind.wrap_i64]; omega
              have b1 : (d : Int) < (n : Int) := by omega
              have b2 : (s : Int) < (n : Int) := by omega
              have hvl : v ≤ m.p := by omega
              have HK := hidd (tw_keep j hh c s y2 v hc1 hlt2 hs HHH.out HI6.out)
              clear hD2 hd hs hv
              go_wp2_with fail
              go_region_with (first | (go_at_call 47; refine mm.mono ?_; rintro e wx ⟨rfl, q5, rfl⟩; have ci := (rI6.drewN (1 + q5)).cell s hsn; have fi := (rI6.drewN (1 + q5)).frozen s))
              all_goals
                have rI7 := (rI6.drewN (1 + q5)).set s v
                have rF7 := (rF6.drewN (1 + q5)).setOther ⟨w.heap.size + 1, s, none⟩ (.int .u64 v) (by simp)
                have k7 := (k6.drewNR (1 + q5)).trans (Kept.setCell (wr.drewN (1 + q5)) ⟨w.heap.size + 1, s, none⟩ (.int .u64 v)) (fun i hi h => by simp at h; omega)
                clear ci fi
                go_wp2_with fail
                go_roundw
                case rel => exact ⟨c + 1, _, by omega, by omega, by go_num, rF7, rI7, lI6.upd _ _ hvl, HK.out, k7⟩
                case measure => simp [intOf]; omega
            · go_wp2_with fail
              go_roundw
              case rel => exact ⟨j + 1, 2 * hh, y2, by show _ = _; rw [HHH.out, Nat.pow_succ]; omega, by omega, by go_num, by omega, by omega, rF6, rI6, lI6, HI6, k6⟩
              case measure => simp [intOf]; omega
        · have hkj : ¬ j < k := by
            intro h
            have : 2 ^ j < 2 ^ k := Nat.pow_lt_pow_right (by omega) h
            rw [← HN.out, ← HHH.out] at this; omega
          go_wp2_with fail
          go_ret2
          exact ⟨w.heap.size, w.heap.size + 1, f, y1, rfl, rF4, rI4, ⟨by rw [← HN.out]; exact lI4, fun i hi => HI4.out i (by omega)⟩, by omega, by omega, by omega, k4⟩
  · have rI := r1.kept0 k2
    have rF : Row w2 (w.heap.size + 1) n (fun _ => 0) := by rw [← s1']; exact r2
    have hM2 : ModAt w2 M m := hM.kept0 k12
    have hMl := hM.lt
    have c0 := hM2.c0
    have c1 := hM2.c1
    have D := fun q rt hrt => down_any M m hg (w.heap.size + 1) k rt hk2 hk hrt (w2.drewN q) (hM2.same rfl) (fun _ => 0) (by rw [← HN.out]; exact rF) (fun _ _ => by show 0 < m.p; omega) (by omega)
    rw [← HN.out] at D
    have Pw := powSlow_any M m hg m.root y hg.root (by omega) w2.drew (hM2.same rfl)
    obtain ⟨rt, hrt⟩ : ∃ rt, rt = m.root ^ y % m.p := ⟨_, rfl⟩
    have hrtl : rt < m.p := by rw [hrt]; exact Nat.mod_lt _ (by omega)
    rw [← hrt] at Pw
    clear hrt
    go_wp2_with fail
    go_region_with (first | (go_at_call 48; refine Pw.mono ?_; rintro e wx ⟨rfl, q, rfl⟩) | (go_at_call 61; refine (D (1 + q) rt hrtl).mono ?_; rintro e w3 ⟨rfl, f, rF3, lF3, oF3, k3⟩))
    all_goals
      clear D Pw c0 c1 rF ya yb hyl hyi h3a h3b hn3i hh3w hh3i hh30 mk1' mk2 r1 r2 k1 k2 s1' s2
      have kW : Kept0 w w3 := k12.trans k3.undrewN (fun i hi h => by omega)
      have rI3 := rI.kept k3.undrewN (by simp)
      clear rI k3 k12 hM2
      go_wp2_with fail
      go_loopw [6] (fun th wr => ∃ (j hh : Nat) (y : Nat → Nat), Hid (hh = 2 ^ j) ∧ j ≤ k ∧ th = .int .i64 hh ∧ hh ≤ n ∧ 1 ≤ hh ∧ Row wr (w.heap.size + 1) n f ∧ Row wr (w.heap.size) n y ∧ Le m.p n y ∧ Hid (∀ i, i < j → y (2 ^ i) = one m) ∧ Kept0 w wr) (fun th _ => n - (intOf th).toNat)
      case atStart => exact ⟨0, 1, _, rfl, by omega, rfl, by omega, by omega, rF3, rI3, fun _ _ => Nat.zero_le _, fun i hi => by omega, kW⟩
      case round =>
        obtain ⟨j, hh, y1, HHH, hjk, rfl, hhn, hh1, rF4, rI4, lI4, HI4, k4⟩ := hrel
        clear rF3 rI3 kW
        by_cases hlt : hh < n
        · have hjk' : j < k := by
            rcases Nat.lt_or_ge j k with h | h
            · exact h
            · have : 2 ^ k ≤ 2 ^ j := Nat.pow_le_pow_right (by omega) h
              rw [← HN.out, ← HHH.out] at this; omega
          have h2n : 2 * hh ≤ n := by
            have : 2 ^ j * 2 ≤ 2 ^ k := by rw [← Nat.pow_succ]; exact Nat.pow_le_pow_right (by omega) hjk'
            rw [← HN.out, ← HHH.out] at this; omega
          have cF := rF4.cell hh hlt
          have cI := rI4.cell hh hlt
          have fI := rI4.frozen hh
          have hfo : f hh = one m := by rw [HHH.out]; exact oF3 j hjk'
          have hfl := lF3 hh hlt
          have rI5 := rI4.set hh (f hh)
          have rF5 := rF4.setOther ⟨w.heap.size, hh, none⟩ (.int .u64 (f hh)) (by simp)
          have k5 := k4.trans (Kept.setCell wr ⟨w.heap.size, hh, none⟩ (.int .u64 (f hh))) (fun i hi h => by simp at h; omega)
          have HO := hidd hfo
          clear hfo
          go_wp2_with fail
          go_loopw [7] (fun tc wr => ∃ (c : Nat) (y : Nat → Nat), 1 ≤ c ∧ c ≤ hh ∧ tc = .int .i64 c ∧ Row wr (w.heap.size + 1) n f ∧ Row wr (w.heap.size) n y ∧ Le m.p n y ∧ Hid (∀ i, i < j + 1 → y (2 ^ i) = one m) ∧ Kept0 w wr) (fun tc _ => hh - (intOf tc).toNat)
          case atStart => exact ⟨1, _, by omega, by omega, rfl, rF5, rI5, lI4.upd _ _ (by omega), tw_put j hh y1 _ _ HHH.out HO.out HI4.out, k5⟩
          case round =>
            obtain ⟨c, y2, hc1, hch, rfl, rF6, rI6, lI6, HI6, k6⟩ := hrel
            clear rF5 rI5 k5 rF4 rI4 lI4 HI4 k4 cF cI fI hfl
            by_cases hlt2 : c < hh
            · obtain ⟨D2, hD2⟩ : ∃ x, x = 2 * hh := ⟨_, rfl⟩
              obtain ⟨d, hd⟩ : ∃ x, x = D2 - c := ⟨_, rfl⟩
              obtain ⟨s, hs⟩ : ∃ x, x = hh + c := ⟨_, rfl⟩
              have hdn : d < n := by omega
              have hsn : s < n := by omega
              have cf := rF6.cell d hdn
              have c5 := (hM.kept0 k6).c5
              have hfd := lF3 d hdn
              have mm := mont_any M m hg m.ci (f d) (by have := hg.ci; omega) (by omega) (lt_p64 m hg _ _ (by have := hg.ci; omega) (by omega)) wr.drew ((hM.kept0 k6).same rfl)
              have hvl0 := montR_lt m hg m.ci (f d) (lt_p64 m hg _ _ (by have := hg.ci; omega) (by omega))
              obtain ⟨v, hv⟩ : ∃ v, v = montR m m.ci (f d) := ⟨_, rfl⟩
              rw [← hv] at mm hvl0
              have e1 : IntKind.i64.wrap (2 * (hh : Int)) = (D2 : Int) := by rw [IntKind.wrap_i64]; omega
              have e2 : IntKind.i64.wrap ((D2 : Int) - (c : Int)) = (d : Int) := by rw [IntKind.wrap_i64]; omega
              have e3 : IntKind.i64.wrap ((hh : Int) + (c : Int)) = (s : Int) := by rw [IntKind.wrap_i64]; omega
              have b1 : (d : Int) < (n : Int) := by omega
              have b2 : (s : Int) < (n : Int) := by omega
              have hvl : v ≤ m.p := by omega
              have HK := hidd (tw_keep j hh c s y2 v hc1 hlt2 hs HHH.out HI6.out)
              clear hD2 hd hs hv
              go_wp2_with fail
              go_region_with (first | (go_at_call 47; refine mm.mono ?_; rintro e wx ⟨rfl, q5, rfl⟩; have ci := (rI6.drewN (1 + q5)).cell s hsn; have fi := (rI6.drewN (1 + q5)).frozen s))
              all_goals
                have rI7 := (rI6.drewN (1 + q5)).set s v
                have rF7 := (rF6.drewN (1 + q5)).setOther ⟨w.heap.size, s, none⟩ (.int .u64 v) (by simp)
                have k7 := (k6.drewNR (1 + q5)).trans (Kept.setCell (wr.drewN (1 + q5)) ⟨w.heap.size, s, none⟩ (.int .u64 v)) (fun i hi h => by simp at h; omega)
                clear ci fi
                go_wp2_with fail
                go_roundw
                case rel => exact ⟨c + 1, _, by omega, by omega, by go_num, rF7, rI7, lI6.upd _ _ hvl, HK.out, k7⟩
                case measure => simp [intOf]; omega
            · go_wp2_with fail
              go_roundw
              case rel => exact ⟨j + 1, 2 * hh, y2, by show _ = _; rw [HHH.out, Nat.pow_succ]; omega, by omega, by go_num, by omega, by omega, rF6, rI6, lI6, HI6, k6⟩
              case measure => simp [intOf]; omega
        · have hkj : ¬ j < k := by
            intro h
            have : 2 ^ j < 2 ^ k := Nat.pow_lt_pow_right (by omega) h
            rw [← HN.out, ← HHH.out] at this; omega
          go_wp2_with fail
          go_ret2
          exact ⟨w.heap.size + 1, w.heap.size, f, y1, rfl, rF4, rI4, ⟨by rw [← HN.out]; exact lI4, fun i hi => HI4.out i (by omega)⟩, by omega, by omega, by omega, k4⟩

end Go.Proofs.Qxb6616212a
