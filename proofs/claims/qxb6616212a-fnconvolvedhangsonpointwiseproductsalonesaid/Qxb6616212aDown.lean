import Derived.Test.Qxb6616212aPow
namespace Go.Proofs.Qxb6616212a
open Go.RowKit

theorem Kept.undrewN {S : Nat → Prop} {w w' : World} {q : Nat} (h : Kept S (w.drewN q) w') : Kept S w w' := ⟨h.os, h.tape, h.output, h.size, h.block⟩
theorem Row.drewN {w : World} {B n : Nat} {x : Nat → Nat} (h : Row w B n x) (q : Nat) : Row (w.drewN q) B n x := h

/-- Montgomery's one. -/
def one (m : Md) : Nat := montR m 1 m.r2

theorem r2_lt (m : Md) (hg : Good m) : m.r2 < m.p := by rw [hg.r2]; exact Nat.mod_lt _ (by have := hg.big; omega)
theorem one_lt (m : Md) (hg : Good m) : one m < m.p := montR_lt m hg _ _ (lt_p64 m hg _ _ (by have := hg.big; omega) (by have := r2_lt m hg; omega))

/-- all words are below p. -/
def Lo (p n : Nat) (x : Nat → Nat) : Prop := ∀ i, i < n → x i < p
theorem Lo.upd {p n : Nat} {x : Nat → Nat} (h : Lo p n x) (i v : Nat) (hv : v < p) : Lo p n (upd x i v) := by
  intro j hj
  by_cases e : j = i
  · subst e; rw [upd_same]; exact hv
  · rw [upd_other _ _ _ _ e]; exact h j hj

theorem setKept {w wr : World} {F : Nat} (k : Kept (fun k => k = F) w wr) (i : Nat) (v : Value) : Kept (fun k => k = F) w (wr.setCell ⟨F, i, none⟩ v) :=
  k.trans (Kept.setCell _ _ _) (fun _ _ h => h)

theorem half_pow (k : Nat) (hk : 2 ≤ k) : 2 ^ (k - 1) / 2 = 2 ^ (k - 2) := by
  have : 2 ^ (k - 1) = 2 ^ (k - 2) * 2 := by rw [← Nat.pow_succ]; congr 1; omega
  rw [this]; exact Nat.mul_div_cancel _ (by omega)

theorem pw_next (j k g o : Nat) (y : Nat → Nat) (hg : g = 2 ^ j) (H : ∀ j', j' < k → g < 2 ^ j' → y (2 ^ j') = o) (h0 : y g = o) : ∀ j', j' < k → g / 2 < 2 ^ j' → y (2 ^ j') = o := by
  intro j' hj' hlt
  by_cases h : g < 2 ^ j'
  · exact H j' hj' h
  · have h1 : 2 ^ j' ≤ 2 ^ j := by omega
    have h2 : j' ≤ j := (Nat.pow_le_pow_iff_right (by omega)).1 h1
    rcases Nat.lt_or_ge j' j with h3 | h3
    · exfalso
      have h4 : 2 ^ j' * 2 ≤ 2 ^ j := by rw [← Nat.pow_succ]; exact Nat.pow_le_pow_right (by omega) h3
      omega
    · have : j' = j := by omega
      rw [this, ← hg]; exact h0

theorem down_keep (g c k o : Nat) (y : Nat → Nat) (v : Nat) (hc : c < g) (hg : g = 0 ∨ ∃ j, g = 2 ^ j ∧ j + 2 ≤ k) (h1 : 1 ≤ g) (H : ∀ j, j < k → g < 2 ^ j → y (2 ^ j) = o) : ∀ j, j < k → g < 2 ^ j → upd y (g + c) v (2 ^ j) = o := by
  intro j hj hlt
  rcases hg with hg | ⟨i, hg, _⟩
  · omega
  · have hij : i < j := (Nat.pow_lt_pow_iff_right (by omega)).1 (hg ▸ hlt)
    have : 2 ^ i * 2 ≤ 2 ^ j := by rw [← Nat.pow_succ]; exact Nat.pow_le_pow_right (by omega) hij
    rw [upd_other _ _ _ _ (by omega)]; exact H j hj hlt

theorem down_first (g c k o : Nat) (y : Nat → Nat) (hc : c < g) (hg : g = 0 ∨ ∃ j, g = 2 ^ j ∧ j + 2 ≤ k) (h1 : 1 ≤ g) (H : ∀ j, j < k → g < 2 ^ j → y (2 ^ j) = o) (HC : 0 < c → y g = o) : upd y (g + c) (y (2 * g + 2 * c)) g = o := by
  rcases Nat.eq_zero_or_pos c with h | h
  · subst h
    rw [Nat.add_zero, upd_same, Nat.mul_zero, Nat.add_zero]
    rcases hg with hg | ⟨i, hg, hi⟩
    · omega
    · have e : 2 * g = 2 ^ (i + 1) := by rw [hg, Nat.pow_succ]; omega
      rw [e]; exact H (i + 1) (by omega) (by rw [← e]; omega)
  · rw [upd_other _ _ _ _ (by omega)]; exact HC h

theorem down_half (c k : Nat) (hg : c = 0 ∨ ∃ j, c = 2 ^ j ∧ j + 2 ≤ k) : c / 2 = 0 ∨ ∃ j, c / 2 = 2 ^ j ∧ j + 2 ≤ k := by
  rcases hg with hg | ⟨i, hg, hi⟩
  · left; omega
  · rcases Nat.eq_zero_or_pos i with h | h
    · subst h; left; rw [hg]
    · right
      refine ⟨i - 1, ?_, by omega⟩
      have : 2 ^ i = 2 ^ (i - 1) * 2 := by rw [← Nat.pow_succ]; congr 1; omega
      rw [hg, this]; exact Nat.mul_div_cancel _ (by omega)

theorem down_pw (c k o : Nat) (y : Nat → Nat) (h1 : 1 ≤ c) (hg : c = 0 ∨ ∃ j, c = 2 ^ j ∧ j + 2 ≤ k) (H : ∀ j, j < k → c < 2 ^ j → y (2 ^ j) = o) (h0 : y c = o) : ∀ j, j < k → c / 2 < 2 ^ j → y (2 ^ j) = o := by
  rcases hg with hg | ⟨i, hg, _⟩
  · omega
  · exact pw_next i k c o y hg H h0

set_option maxHeartbeats 4000000 in
set_option maxRecDepth 100000 in
theorem down_any (M : Nat) (m : Md) (hg : Good m) (F k rt : Nat) (hk2 : 2 ≤ k) (hk : k ≤ 17) (hrt : rt < m.p) (w : World) (hM : ModAt w M m) (x : Nat → Nat) (hR : Row w F (2 ^ k) x) (hx : Lo m.p (2 ^ k) x) (hMF : M ≠ F) :
    Calls Try.prog 61 #[.pointer (some ⟨M, 0, none⟩), .slice (some ⟨F, 0, none⟩) (2 ^ k) (2 ^ k), .int .u64 rt] w fun e w' => e = .returned (.tuple #[]) ∧ ∃ y, Row w' F (2 ^ k) y ∧ Lo m.p (2 ^ k) y ∧ (∀ j, j < k → y (2 ^ j) = one m) ∧ Kept (fun k => k = F) w w' := by
  have hlt := hg.lt
  have hbig := hg.big
  obtain ⟨n, hn⟩ : ∃ n, n = 2 ^ k := ⟨_, rfl⟩
  obtain ⟨h, hh⟩ : ∃ h, h = 2 ^ (k - 1) := ⟨_, rfl⟩
  have hnh : n = 2 * h := by rw [hn, hh, ← Nat.pow_succ']; congr 1; omega
  have hn17 : n ≤ 131072 := by rw [hn]; exact Nat.pow_le_pow_right (by omega) hk
  have hn4 : 4 ≤ n := by rw [hn]; exact Nat.pow_le_pow_right (n := 2) (by omega) hk2
  rw [← hn] at hR hx ⊢
  have HN := hidd hn
  have HH := hidd hh
  clear hn hh
  subst hnh
  have hsub : 2 * h - h = h := by omega
  have t1 := toMont_any M m hg rt hrt w hM
  obtain ⟨ρ, hρ⟩ : ∃ ρ, ρ = montR m rt m.r2 := ⟨_, rfl⟩
  have hρl : ρ < m.p := by rw [hρ]; exact montR_lt m hg _ _ (lt_p64 m hg _ _ (by omega) (by have := r2_lt m hg; omega))
  rw [← hρ] at t1
  clear hρ
  have t2 := fun q => toMont_any M m hg 1 (by omega) (w.drewN q) (hM.same rfl)
  have ho := one_lt m hg
  obtain ⟨o, hoe⟩ : ∃ o, o = one m := ⟨_, rfl⟩
  have hoe' : montR m 1 m.r2 = o := hoe.symm
  rw [hoe'] at t2
  rw [← hoe] at ho ⊢
  clear hoe hoe'
  go_enter Try.func61, Try.ntmps61
  go_wp2_with fail
  refine t1.mono ?_
  rintro e wx ⟨rfl, q, rfl⟩
  clear t1
  go_wp2_with fail
  refine (t2 q).mono ?_
  rintro e wx ⟨rfl, q2, rfl⟩
  clear t2
  obtain ⟨q3, hq3⟩ := drewN_drewN w q q2
  rw [hq3]
  clear hq3
  have hR1 := hR.drewN q3
  have c1 := hR1.cell h (by omega)
  have f1 := hR1.frozen h
  have k1 : Kept (fun k => k = F) w (w.drewN q3) := (Kept.refl _ w).drewNR q3
  have hR2 := hR1.set h o
  have k2 := setKept k1 h (.int .u64 o)
  go_wp2_with fail
  clear c1 f1 hR1 k1 hR
  go_loopw [8] (fun tj wr => ∃ (i : Nat) (y : Nat → Nat), i < h ∧ i < 16 ∧ tj = .int .i64 ((i : Int) + 1) ∧ Row wr F (2 * h) y ∧ Lo m.p (2 * h) y ∧ Hid (y h = o) ∧ Kept (fun k => k = F) w wr) (fun tj _ => 20 - (intOf tj).toNat)
  case atStart => exact ⟨0, _, by omega, by omega, rfl, hR2, hx.upd h o ho, upd_same _ _ _, k2⟩
  case round =>
    obtain ⟨i, y, hih, hi16, rfl, hRy, hLy, HY, kr⟩ := hrel
    clear hR2 k2
    by_cases hlt : i + 1 < h ∧ i + 1 < 16
    · obtain ⟨hl1, hl2⟩ := hlt
      have cy := hRy.cell (h + i) (by omega)
      have hyl := hLy (h + i) (by omega)
      have m1 := mont_any M m hg (y (h + i)) ρ (by omega) (by omega) (lt_p64 m hg _ _ (by omega) (by omega)) wr (hM.kept kr hMF)
      have hvl := montR_lt m hg (y (h + i)) ρ (lt_p64 m hg _ _ (by omega) (by omega))
      obtain ⟨v, hv⟩ : ∃ v, v = montR m (y (h + i)) ρ := ⟨_, rfl⟩
      rw [← hv] at m1 hvl
      clear hv
      have hvs := hRy.cell (h + (i + 1)) (by omega)
      go_wp2_with fail
      refine m1.mono ?_
      rintro e wx ⟨rfl, q4, rfl⟩
      clear m1
      have hR3 := (hRy.drewN q4).set (h + (i + 1)) v
      have fs := (hRy.drewN q4).frozen (h + (i + 1))
      have k3 := setKept (kr.drewNR q4) (h + (i + 1)) (.int .u64 v)
      go_wp2_with fail
      go_roundw
      case rel => exact ⟨i + 1, _, by omega, by omega, by go_num, hR3, hLy.upd _ _ hvl, by show _ = _; rw [upd_other _ _ _ _ (by omega)]; exact HY.out, k3⟩
      case measure => simp [intOf]; omega
    · by_cases hh16 : 16 < h
      · have hi15 : i = 15 := by omega
        subst hi15
        have cy := hRy.cell (h + 15) (by omega)
        have hyl := hLy (h + 15) (by omega)
        have m1 := mont_any M m hg (y (h + 15)) ρ (by omega) (by omega) (lt_p64 m hg _ _ (by omega) (by omega)) wr (hM.kept kr hMF)
        have hvl := montR_lt m hg (y (h + 15)) ρ (lt_p64 m hg _ _ (by omega) (by omega))
        obtain ⟨st, hst⟩ : ∃ v, v = montR m (y (h + 15)) ρ := ⟨_, rfl⟩
        rw [← hst] at m1 hvl
        clear hst
        go_wp2_with fail
        refine m1.mono ?_
        rintro e wx ⟨rfl, q4, rfl⟩
        clear m1
        have kr' := kr.drewNR q4
        have hRy' := hRy.drewN q4
        clear kr hRy cy hyl
        go_wp2_with fail
        go_loopw [10] (fun tj wr => ∃ (i : Nat) (y : Nat → Nat), i + 16 ≤ h ∧ tj = .int .i64 ((i : Int) + 16) ∧ Row wr F (2 * h) y ∧ Lo m.p (2 * h) y ∧ Hid (y h = o) ∧ Kept (fun k => k = F) w wr) (fun tj _ => h - (intOf tj).toNat)
        case atStart => exact ⟨0, y, by omega, rfl, hRy', hLy, HY, kr'⟩
        case round =>
          obtain ⟨i, y1, hih, rfl, hRy, hLy, HY, kr⟩ := hrel
          clear hRy' kr'
          by_cases hlt2 : i + 16 < h
          · have cy := hRy.cell (h + i) (by omega)
            have hyl := hLy (h + i) (by omega)
            have m1 := mont_any M m hg (y1 (h + i)) st (by omega) (by omega) (lt_p64 m hg _ _ (by omega) (by omega)) wr (hM.kept kr hMF)
            have hvl2 := montR_lt m hg (y1 (h + i)) st (lt_p64 m hg _ _ (by omega) (by omega))
            obtain ⟨v, hv⟩ : ∃ v, v = montR m (y1 (h + i)) st := ⟨_, rfl⟩
            rw [← hv] at m1 hvl2
            clear hv
            have hvs := hRy.cell (h + (i + 16)) (by omega)
            go_wp2_with fail
            refine m1.mono ?_
            rintro e wx ⟨rfl, q4, rfl⟩
            clear m1
            have hR3 := (hRy.drewN q4).set (h + (i + 16)) v
            have fs := (hRy.drewN q4).frozen (h + (i + 16))
            have k3 := setKept (kr.drewNR q4) (h + (i + 16)) (.int .u64 v)
            go_wp2_with fail
            go_roundw
            case rel => exact ⟨i + 1, _, by omega, by go_num, hR3, hLy.upd _ _ hvl2, by show _ = _; rw [upd_other _ _ _ _ (by omega)]; exact HY.out, k3⟩
            case measure => simp [intOf]; omega
          · have e : i = h - 16 := by omega
            clear e
            go_wp2_with fail
            go_loopw [6] (fun tg wr => ∃ (g : Nat) (y : Nat → Nat), Hid (g = 0 ∨ ∃ j, g = 2 ^ j ∧ j + 2 ≤ k) ∧ tg = .int .i64 g ∧ 2 * g ≤ h ∧ Row wr F (2 * h) y ∧ Lo m.p (2 * h) y ∧ Hid (∀ j, j < k → g < 2 ^ j → y (2 ^ j) = o) ∧ Kept (fun k => k = F) w wr) (fun tg _ => (intOf tg).toNat)
            case atStart => exact ⟨h / 2, y1, Or.inr ⟨k - 2, by rw [HH.out]; exact half_pow k hk2, by omega⟩, by go_num, by omega, hRy, hLy, pw_next (k - 1) k h o y1 HH.out (fun j' hj' hlt' => absurd hlt' (by rw [HH.out]; exact Nat.not_lt.2 (Nat.pow_le_pow_right (by omega) (by omega)))) HY.out, kr⟩
            case round =>
              obtain ⟨g, y2, HG, rfl, hgh, hR3, hL3, HY3, kr3⟩ := hrel
              clear hRy hLy HY kr
              by_cases hg0 : 1 ≤ g
              · go_wp2_with fail
                go_loopw [73] (fun tc wr => ∃ (c : Nat) (y : Nat → Nat), c ≤ g ∧ tc = .int .i64 c ∧ Row wr F (2 * h) y ∧ Lo m.p (2 * h) y ∧ Hid (∀ j, j < k → g < 2 ^ j → y (2 ^ j) = o) ∧ Hid (0 < c → y g = o) ∧ Kept (fun k => k = F) w wr) (fun tc _ => g - (intOf tc).toNat)
                case atStart => exact ⟨0, y2, by omega, rfl, hR3, hL3, HY3, fun h => absurd h (by omega), kr3⟩
                case round =>
                  obtain ⟨c, y3, hcg, rfl, hR4, hL4, HY4, HC4, kr4⟩ := hrel
                  clear hR3 hL3 HY3 kr3
                  by_cases hlt : c < g
                  · have cc := hR4.cell (2 * g + 2 * c) (by omega)
                    have cd := hR4.cell (g + c) (by omega)
                    have fd := hR4.frozen (g + c)
                    have hvl := hL4 (2 * g + 2 * c) (by omega)
                    have hR5 := hR4.set (g + c) (y3 (2 * g + 2 * c))
                    have k5 := setKept kr4 (g + c) (.int .u64 (y3 (2 * g + 2 * c)))
                    go_wp2_with fail
                    go_roundw
                    case rel => exact ⟨c + 1, _, by omega, by go_num, hR5, hL4.upd _ _ hvl, down_keep g c k o y3 _ hlt HG.out (by omega) HY4.out, fun _ => down_first g c k o y3 hlt HG.out (by omega) HY4.out HC4.out, k5⟩
                    case measure => simp [intOf]; omega
                  · have e : c = g := by omega
                    subst e
                    have hhalf : (c : Int).tdiv 2 = ((c / 2 : Nat) : Int) := by rw [Int.tdiv_eq_ediv_of_nonneg (by omega)]; omega
                    go_wp2_with fail
                    go_roundw
                    case rel => exact ⟨c / 2, y3, down_half c k HG.out, by go_num, by omega, hR4, hL4, down_pw c k o y3 (by omega) HG.out HY4.out (HC4.out (by omega)), kr4⟩
                    case measure => simp [intOf]; omega
              · have e : g = 0 := by omega
                subst e
                go_wp2_with fail
                go_end0
                exact ⟨rfl, y2, hR3, hL3, fun j hj => HY3.out j hj (Nat.two_pow_pos j), kr3⟩
      · have hge : h ≤ i + 1 := by omega
        clear hlt
        go_wp2_with fail
        go_loopw [6] (fun tg wr => ∃ (g : Nat) (y : Nat → Nat), Hid (g = 0 ∨ ∃ j, g = 2 ^ j ∧ j + 2 ≤ k) ∧ tg = .int .i64 g ∧ 2 * g ≤ h ∧ Row wr F (2 * h) y ∧ Lo m.p (2 * h) y ∧ Hid (∀ j, j < k → g < 2 ^ j → y (2 ^ j) = o) ∧ Kept (fun k => k = F) w wr) (fun tg _ => (intOf tg).toNat)
        case atStart => exact ⟨h / 2, y, Or.inr ⟨k - 2, by rw [HH.out]; exact half_pow k hk2, by omega⟩, by go_num, by omega, hRy, hLy, pw_next (k - 1) k h o y HH.out (fun j' hj' hlt' => absurd hlt' (by rw [HH.out]; exact Nat.not_lt.2 (Nat.pow_le_pow_right (by omega) (by omega)))) HY.out, kr⟩
        case round =>
          obtain ⟨g, y2, HG, rfl, hgh, hR3, hL3, HY3, kr3⟩ := hrel
          clear hRy hLy HY kr
          by_cases hg0 : 1 ≤ g
          · go_wp2_with fail
            go_loopw [73] (fun tc wr => ∃ (c : Nat) (y : Nat → Nat), c ≤ g ∧ tc = .int .i64 c ∧ Row wr F (2 * h) y ∧ Lo m.p (2 * h) y ∧ Hid (∀ j, j < k → g < 2 ^ j → y (2 ^ j) = o) ∧ Hid (0 < c → y g = o) ∧ Kept (fun k => k = F) w wr) (fun tc _ => g - (intOf tc).toNat)
            case atStart => exact ⟨0, y2, by omega, rfl, hR3, hL3, HY3, fun h => absurd h (by omega), kr3⟩
            case round =>
              obtain ⟨c, y3, hcg, rfl, hR4, hL4, HY4, HC4, kr4⟩ := hrel
              clear hR3 hL3 HY3 kr3
              by_cases hlt : c < g
              · have cc := hR4.cell (2 * g + 2 * c) (by omega)
                have cd := hR4.cell (g + c) (by omega)
                have fd := hR4.frozen (g + c)
                have hvl := hL4 (2 * g + 2 * c) (by omega)
                have hR5 := hR4.set (g + c) (y3 (2 * g + 2 * c))
                have k5 := setKept kr4 (g + c) (.int .u64 (y3 (2 * g + 2 * c)))
                go_wp2_with fail
                go_roundw
                case rel => exact ⟨c + 1, _, by omega, by go_num, hR5, hL4.upd _ _ hvl, down_keep g c k o y3 _ hlt HG.out (by omega) HY4.out, fun _ => down_first g c k o y3 hlt HG.out (by omega) HY4.out HC4.out, k5⟩
                case measure => simp [intOf]; omega
              · have e : c = g := by omega
                subst e
                have hhalf : (c : Int).tdiv 2 = ((c / 2 : Nat) : Int) := by rw [Int.tdiv_eq_ediv_of_nonneg (by omega)]; omega
                go_wp2_with fail
                go_roundw
                case rel => exact ⟨c / 2, y3, down_half c k HG.out, by go_num, by omega, hR4, hL4, down_pw c k o y3 (by omega) HG.out HY4.out (HC4.out (by omega)), kr4⟩
                case measure => simp [intOf]; omega
          · have e : g = 0 := by omega
            subst e
            go_wp2_with fail
            go_end0
            exact ⟨rfl, y2, hR3, hL3, fun j hj => HY3.out j hj (Nat.two_pow_pos j), kr3⟩

end Go.Proofs.Qxb6616212a
