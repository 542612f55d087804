import Derived.Test.Qxb6616212aCong
import Derived.Test.Qxb6616212aQuarW
namespace Go.Proofs.Qxb6616212a
open Go.RowKit

theorem block_fits (h N st : Nat) (hN : 2 * h ∣ N) (hs : 2 * h ∣ st) (hlt : st < N) : st + 2 * h ≤ N := by
  obtain ⟨a, rfl⟩ := hN
  obtain ⟨b, rfl⟩ := hs
  have hab : b < a := Nat.lt_of_mul_lt_mul_left hlt
  have := Nat.mul_le_mul_left (2 * h) hab
  rw [Nat.mul_succ] at this; exact this

theorem pow_fits (j k h N : Nat) (hh : h = 2 ^ j) (hN : N = 2 ^ k) (hlt : h < N) : j < k ∧ 2 * h ∣ N ∧ 2 * h ≤ N := by
  subst hh hN
  have hjk : j < k := (Nat.pow_lt_pow_iff_right (by omega)).1 hlt
  have e : 2 * 2 ^ j = 2 ^ (j + 1) := by rw [Nat.pow_succ]; omega
  rw [e]
  exact ⟨hjk, Nat.pow_dvd_pow 2 hjk, Nat.pow_le_pow_right (by omega) hjk⟩

set_option maxHeartbeats 2000000 in
set_option maxRecDepth 100000 in
theorem inv_any (M : Nat) (m : Md) (hg : Good m) (A I s n k cap : Nat) (x W : Nat → Nat) (f : Nat → Int) (hk : 2 ≤ k) (hn : n ≤ 65536) (hs : s + 2 ^ k ≤ n) (hcap : 2 ^ k ≤ cap) (hcap2 : cap ≤ 65536)
    (hAI : A ≠ I) (hMA : M ≠ A) (w : World) (hM : ModAt w M m) (rA : Row w A n x) (rI : Row w I (2 ^ k) W) (hx : Lo (2 * m.p) n x) (hT : Tw m k W) (hf : ∀ i, i < 2 ^ k → Eqm m.p (x (s + i)) (f (s + i))) :
    Calls Try.prog 41 #[.pointer (some ⟨M, 0, none⟩), .slice (some ⟨A, s, none⟩) (2 ^ k) cap, .slice (some ⟨I, 0, none⟩) (2 ^ k) (2 ^ k)] w fun e w' => e = .returned (.tuple #[]) ∧ ∃ y, Row w' A n y ∧ Lo (2 * m.p) n y ∧
      (∀ i, i < 2 ^ k → Eqm m.p (y (s + i)) (tr (fun i => tw m (W i)) k f s i)) ∧ (∀ i, i < s ∨ s + 2 ^ k ≤ i → y i = x i) ∧ Kept (fun b => b = A) w w' := by
  have h4 : 2 ^ 2 ≤ 2 ^ k := Nat.pow_le_pow_right (by omega) hk
  have hTl := hT.le
  have t0 := hT.one 0 (by omega)
  have t1 := hT.one 1 (by omega)
  obtain ⟨T, hTe⟩ : ∃ T, T = fun i => tw m (W i) := ⟨_, rfl⟩
  rw [← hTe]
  have T1 : T 1 = 1 := by rw [hTe]; show tw m (W (2 ^ 0)) = 1; rw [t0]; exact tw_one m
  have T2 : T 2 = 1 := by rw [hTe]; show tw m (W (2 ^ 1)) = 1; rw [t1]; exact tw_one m
  have T3 : T 3 = tw m (W 3) := by rw [hTe]
  have HT : Hid (∀ i, T i = tw m (W i)) := fun i => by rw [hTe]
  clear hTe
  obtain ⟨B, hB⟩ : ∃ B, 2 ^ k = 4 * B := ⟨2 ^ (k - 2), by rw [show 4 = 2 ^ 2 by rfl, ← Nat.pow_add]; congr 1; omega⟩
  have hN4 := hidd hB
  have hq := quar_any M m hg A s n B cap (W 3) x (by omega) hn (by omega) hcap2 (hTl 3 (by omega)) w hM rA hx (by omega)
  have l0 := qt_lev m hg (W 3) s n B x f T (hTl 3 (by omega)) hx (by omega) (fun i hi => hf i (by omega)) T1 T2 T3
  have lo0 := qtTo_lo m hg (W 3) s n x (hTl 3 (by omega)) hx B (by omega)
  have o0 : ∀ i, i < s ∨ s + 2 ^ k ≤ i → qtTo m (W 3) s x B i = x i := fun i hi => by
    rcases hi with hi | hi
    · exact qtTo_below m (W 3) s x B i hi
    · exact qtTo_rest m (W 3) s x B i (by omega)
  rw [← hB] at hq l0
  obtain ⟨N, hN⟩ : ∃ N, N = 2 ^ k := ⟨_, rfl⟩
  rw [← hN] at rI hTl hf hq l0 o0 hs hcap h4 ⊢
  have HN := hidd hN
  have c3 := rI.cell 3 (by omega)
  have L0 : Hid (Lev m.p s N (2 ^ 2) (qtTo m (W 3) s x B) (tr T 2 f)) := l0
  have O0 := hidd o0
  have HLE := hidd hTl
  clear hB hN l0 o0 hTl t0 t1 T1 T2 T3 hT hf hN4
  obtain ⟨w4, hw4⟩ : ∃ v, v = W 3 := ⟨_, rfl⟩
  rw [← hw4] at c3 hq lo0 L0 O0
  clear hw4
  obtain ⟨y0, hy0⟩ : ∃ y, y = qtTo m w4 s x B := ⟨_, rfl⟩
  rw [← hy0] at hq lo0 L0 O0
  clear hy0
  go_enter Try.func41, Try.ntmps41
  go_wp2_with fail
  refine hq.mono ?_
  rintro e w1 ⟨rfl, r1, k1⟩
  clear hq
  go_wp2_with fail
  go_loopw [6] (fun th wr => ∃ (j hf : Nat) (y : Nat → Nat), 4 ≤ hf ∧ hf ≤ N ∧ th = .int .i64 hf ∧ Hid (hf = 2 ^ j) ∧ Row wr A n y ∧ Lo (2 * m.p) n y ∧ Hid (Lev m.p s N hf y (tr T j f)) ∧ Hid (∀ i, i < s ∨ s + N ≤ i → y i = x i) ∧ Kept (fun b => b = A) w wr) (fun th _ => N - (intOf th).toNat)
  case atStart => exact ⟨2, 4, y0, by omega, by omega, rfl, rfl, r1, lo0, L0, O0, k1⟩
  case round =>
    obtain ⟨j, hf, y, h4h, hhN, rfl, HH, r2, lo2, L2, O2, k2⟩ := hrel
    clear r1 lo0 L0 O0 k1 c3
    by_cases hlt : hf < N
    · obtain ⟨hjk, hd, hle⟩ := pow_fits j k hf N HH.out HN.out hlt
      have HD := hidd hd
      clear hd
      go_wp2_with fail
      go_loopw [7] (fun ts wr => ∃ (st : Nat) (y : Nat → Nat), st ≤ N ∧ ts = .int .i64 st ∧ Hid (2 * hf ∣ st) ∧ Row wr A n y ∧ Lo (2 * m.p) n y ∧ Hid (Mix m.p s N hf st y (tr T j f) (tr T (j + 1) f)) ∧ Hid (∀ i, i < s ∨ s + N ≤ i → y i = x i) ∧ Kept (fun b => b = A) w wr) (fun ts _ => N - (intOf ts).toNat)
      case atStart => exact ⟨0, y, by omega, rfl, ⟨0, by simp⟩, r2, lo2, Mix.start L2.out, O2, k2⟩
      case round =>
        obtain ⟨st, y1, hstN, rfl, HS, r3, lo3, L3, O3, k3⟩ := hrel
        clear r2 lo2 L2 O2 k2
        by_cases hlt2 : st < N
        · have hfit := block_fits hf N st HD.out HS.out hlt2
          have rI3 := rI.kept k3 (fun e => hAI e.symm)
          have hM3 := hM.kept k3 hMA
          have hb := bfly_any M m hg A I (s + st) hf n N (cap - st) (cap - (st + hf)) (N - hf) y1 W (by omega) (by omega) hn (by omega) (by omega) (by omega) (by omega) (by omega) hAI hMA wr.drew (hM3.same rfl) r3.drew rI3.drew lo3 HLE.out
          have LL := Mix.step m hg W T f s N j st n y1 lo3 hs (HH.out ▸ HS.out) (by rw [← HH.out]; omega) (fun i hi => HLE.out i (by rw [← HH.out] at hi; omega)) (fun i _ => HT.out i) (HH.out ▸ L3.out)
          rw [← HH.out] at LL
          have lo4 := bf_lo m hg W (s + st) hf n y1 lo3 (by omega) (fun i hi => HLE.out i (by omega))
          have O4 : Hid (∀ i, i < s ∨ s + N ≤ i → bfTo m W (s + st) hf y1 hf i = x i) := fun i hi => (bf_out m W (s + st) hf y1 i (by omega)).trans (O3.out i hi)
          have L4 := hidd LL
          clear LL L3 O3
          obtain ⟨y2, hy2⟩ : ∃ y, y = bfTo m W (s + st) hf y1 hf := ⟨_, rfl⟩
          rw [← hy2] at hb L4 lo4 O4
          clear hy2
          have g1 : st + 2 * hf - (st + hf) = hf := by omega
          have g2 : 2 * hf - hf = hf := by omega
          have hb' : Calls Try.prog 53 #[.pointer (some ⟨M, 0, none⟩), .slice (some ⟨A, s + st, none⟩) hf (cap - st), .slice (some ⟨A, s + (st + hf), none⟩) (st + 2 * hf - (st + hf)) (cap - (st + hf)), .slice (some ⟨I, hf, none⟩) (2 * hf - hf) (N - hf)] wr.drew fun e w' => e = .returned (.tuple #[]) ∧ Row w' A n y2 ∧ Kept (fun b => b = A) wr.drew w' := by
            rw [g1, g2, ← Nat.add_assoc]; exact hb
          clear hb g1 g2 lo3 r3 rI3 hM3 y1
          have e1 : IntKind.i64.wrap ((st : Int) + hf) = (st : Int) + hf := by rw [IntKind.wrap_i64]; omega
          have e2 : IntKind.i64.wrap (2 * (hf : Int)) = 2 * (hf : Int) := by rw [IntKind.wrap_i64]; omega
          have e3 : IntKind.i64.wrap ((st : Int) + 2 * hf) = (st : Int) + 2 * hf := by rw [IntKind.wrap_i64]; omega
          have ne1 : ¬ cap = st := by omega
          have ne2 : ¬ cap = st + hf := by omega
          have ne3 : ¬ N = hf := by omega
          go_wp2_with fail
          go_region_with (go_at_call 53; refine hb'.mono ?_; rintro e w3 ⟨rfl, r4, k4⟩)
          all_goals (
            go_wp2_with fail
            go_roundw
            case rel => exact ⟨st + 2 * hf, y2, by omega, by go_num, Nat.dvd_add HS.out (Nat.dvd_refl _), r4, lo4, L4, O4, k3.trans k4.undrew (fun _ _ h => h)⟩
            case measure => simp [intOf]; omega)
        · have e : st = N := by omega
          subst e
          go_wp2_with fail
          go_roundw
          case rel => exact ⟨j + 1, 2 * hf, y1, by omega, by omega, by go_num, (by show _ = _; rw [HH.out, Nat.pow_succ]; omega), r3, lo3, Mix.stop (by omega) L3.out, O3, k3⟩
          case measure => simp [intOf]; omega
    · have e : hf = N := by omega
      subst e
      have hjk : j = k := Nat.pow_right_inj (a := 2) (by omega) |>.1 (HH.out.symm.trans HN.out)
      subst hjk
      go_wp2_with fail
      go_end0
      exact ⟨rfl, y, r2, lo2, fun i hi => Lev.top L2.out i hi, O2.out, k2⟩

end Go.Proofs.Qxb6616212a
