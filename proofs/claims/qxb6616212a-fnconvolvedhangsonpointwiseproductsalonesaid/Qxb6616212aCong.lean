import Derived.Test.Qxb6616212aQuar
import Derived.Test.Qxb6616212aPlain
namespace Go.Proofs.Qxb6616212a

/-- an inverse of 2^64 modulo p. -/
def Rin (m : Md) : Int := -((m.inv * m.p / 18446744073709551616 : Nat) : Int)
theorem Rin_eqm (m : Md) (hg : Good m) : Eqm m.p (18446744073709551616 * Rin m) 1 := by
  have h := Nat.div_add_mod (m.inv * m.p) 18446744073709551616
  rw [hg.inv] at h
  refine ⟨-(m.inv : Int), ?_⟩
  have e : ((m.inv * m.p : Nat) : Int) = (m.inv : Int) * m.p := Int.natCast_mul _ _
  unfold Rin
  rw [Int.neg_mul, ← e]
  omega
theorem montL_R (m : Md) (hg : Good m) (a b : Nat) (hab : a * b < m.p * 18446744073709551616) : Eqm m.p (montL a b m.p m.inv : Nat) ((a : Int) * b * Rin m) := by
  have h1 := montL_eqm a b m.p m.inv hab hg.inv
  have h2 := (Eqm.refl m.p (montL a b m.p m.inv : Nat)).mul (Rin_eqm m hg)
  rw [Int.mul_one, ← Int.mul_assoc] at h2
  exact h2.symm.trans (h1.mul (Eqm.refl _ _))
theorem one_R (m : Md) (hg : Good m) : Eqm m.p ((one m : Nat) * Rin m : Int) 1 := by
  have h1 := toMont_eqm m hg 1 (by have := hg.big; omega)
  have h2 := ((Eqm.refl m.p ((one m : Nat) : Int)).mul (Rin_eqm m hg)).mul (Eqm.refl m.p (Rin m))
  rw [Int.mul_one, ← Int.mul_assoc] at h2
  refine h2.symm.trans ((((h1.mul (Eqm.refl _ (Rin m))).mul (Eqm.refl _ (Rin m)))).trans ?_)
  have h3 := (Rin_eqm m hg).mul (Rin_eqm m hg)
  have e : ((1 : Nat) : Int) * 2 ^ 128 * Rin m * Rin m = 18446744073709551616 * Rin m * (18446744073709551616 * Rin m) := by
    rw [show ((1 : Nat) : Int) * 2 ^ 128 = 18446744073709551616 * 18446744073709551616 by decide]
    rw [Int.mul_assoc, Int.mul_assoc, Int.mul_assoc]
    congr 1
    rw [← Int.mul_assoc, ← Int.mul_assoc, Int.mul_comm (Rin m) 18446744073709551616]
  rw [e]
  exact h3

/-- a twiddle as a whole number, 1 where it is Montgomery's one. -/
def tw (m : Md) (v : Nat) : Int := if v = one m then 1 else (v : Int) * Rin m
theorem tw_one (m : Md) : tw m (one m) = 1 := if_pos rfl
theorem tw_eqm (m : Md) (hg : Good m) (v : Nat) : Eqm m.p ((v : Int) * Rin m) (tw m v) := by
  unfold tw
  split
  · next h => rw [h]; exact one_R m hg
  · exact Eqm.refl _ _
theorem montL_tw (m : Md) (hg : Good m) (a v : Nat) (f : Int) (hab : a * v < m.p * 18446744073709551616) (hf : Eqm m.p a f) : Eqm m.p (montL a v m.p m.inv : Nat) (f * tw m v) := by
  have h := montL_R m hg a v hab
  rw [Int.mul_assoc] at h
  exact h.trans (hf.mul (tw_eqm m hg v))

theorem Eqm.nadd {p a b : Nat} {f g : Int} (ha : Eqm p a f) (hb : Eqm p b g) : Eqm p ((a + b : Nat) : Int) (f + g) := by rw [Int.natCast_add]; exact ha.add hb
theorem Eqm.nsub {p a b : Nat} {f g : Int} (hb' : b < 2 * p) (ha : Eqm p a f) (hb : Eqm p b g) : Eqm p ((a + 2 * p - b : Nat) : Int) (f - g) := by
  have e : ((a + 2 * p - b : Nat) : Int) = ((a : Int) - b) + 2 * p := by omega
  rw [e]
  have h := (ha.sub hb).add (Eqm.mul_self p 2)
  rwa [Int.add_zero] at h
theorem Eqm.red {p a : Nat} {f : Int} (h : Eqm p a f) : Eqm p (redB a (2 * p) : Nat) f := (redB_eqm2 a p).trans h

theorem q0_lt (m : Md) (a b c d : Nat) (ha : a < 2 * m.p) (hb : b < 2 * m.p) (hc : c < 2 * m.p) (hd : d < 2 * m.p) : q0 m a b c d < 2 * m.p := by
  have := redB_lt (a + b) (2 * m.p) (by omega)
  have := redB_lt (c + d) (2 * m.p) (by omega)
  exact redB_lt _ _ (by omega)
theorem q2_lt (m : Md) (a b c d : Nat) (ha : a < 2 * m.p) (hb : b < 2 * m.p) : q2 m a b c d < 2 * m.p := by
  have := redB_lt (a + b) (2 * m.p) (by omega)
  exact redB_lt _ _ (by omega)
theorem q_ml (m : Md) (hg : Good m) (w4 c d : Nat) (hc : c < 2 * m.p) (hw : w4 ≤ m.p) : montL (c + 2 * m.p - d) w4 m.p m.inv < 2 * m.p := by
  have := hg.big
  exact montL_lt _ _ _ _ (by omega) (lt_p64 m hg _ _ (by omega) hw)
theorem q1_lt (m : Md) (hg : Good m) (w4 a b c d : Nat) (ha : a < 2 * m.p) (hc : c < 2 * m.p) (hw : w4 ≤ m.p) : q1 m w4 a b c d < 2 * m.p := by
  have := redB_lt (a + 2 * m.p - b) (2 * m.p) (by omega)
  have := q_ml m hg w4 c d hc hw
  exact redB_lt _ _ (by omega)
theorem q3_lt (m : Md) (w4 a b c d : Nat) (ha : a < 2 * m.p) : q3 m w4 a b c d < 2 * m.p := by
  have := redB_lt (a + 2 * m.p - b) (2 * m.p) (by omega)
  exact redB_lt _ _ (by omega)
section
variable (m : Md) (w4 a b c d : Nat) (fa fb fc fd : Int) (ea : Eqm m.p a fa) (eb : Eqm m.p b fb) (ec : Eqm m.p c fc) (ed : Eqm m.p d fd)
include ea eb ec ed
theorem q0_eqm : Eqm m.p (q0 m a b c d : Nat) (fa + fb + (fc + fd)) := ((ea.nadd eb).red.nadd (ec.nadd ed).red).red
theorem q2_eqm (hc : c < 2 * m.p) (hd : d < 2 * m.p) : Eqm m.p (q2 m a b c d : Nat) (fa + fb - (fc + fd)) := (Eqm.nsub (redB_lt _ _ (by omega)) (ea.nadd eb).red (ec.nadd ed).red).red
theorem q1_eqm (hg : Good m) (hb : b < 2 * m.p) (hc : c < 2 * m.p) (hd : d < 2 * m.p) (hw : w4 ≤ m.p) : Eqm m.p (q1 m w4 a b c d : Nat) (fa - fb + (fc - fd) * tw m w4) :=
  ((ea.nsub hb eb).red.nadd (montL_tw m hg _ _ _ (lt_p64 m hg _ _ (by omega) hw) (ec.nsub hd ed))).red
theorem q3_eqm (hg : Good m) (hb : b < 2 * m.p) (hc : c < 2 * m.p) (hd : d < 2 * m.p) (hw : w4 ≤ m.p) : Eqm m.p (q3 m w4 a b c d : Nat) (fa - fb - (fc - fd) * tw m w4) :=
  (Eqm.nsub (q_ml m hg w4 c d hc hw) (ea.nsub hb eb).red (montL_tw m hg _ _ _ (lt_p64 m hg _ _ (by omega) hw) (ec.nsub hd ed))).red
end

theorem qtTo_at (m : Md) (w4 s : Nat) (x : Nat → Nat) : ∀ k b, b < k →
    qtTo m w4 s x k (s + 4 * b) = q0 m (x (s + 4 * b)) (x (s + 4 * b + 1)) (x (s + 4 * b + 2)) (x (s + 4 * b + 3)) ∧
    qtTo m w4 s x k (s + 4 * b + 1) = q1 m w4 (x (s + 4 * b)) (x (s + 4 * b + 1)) (x (s + 4 * b + 2)) (x (s + 4 * b + 3)) ∧
    qtTo m w4 s x k (s + 4 * b + 2) = q2 m (x (s + 4 * b)) (x (s + 4 * b + 1)) (x (s + 4 * b + 2)) (x (s + 4 * b + 3)) ∧
    qtTo m w4 s x k (s + 4 * b + 3) = q3 m w4 (x (s + 4 * b)) (x (s + 4 * b + 1)) (x (s + 4 * b + 2)) (x (s + 4 * b + 3)) := by
  intro k
  induction k with
  | zero => intro b hb; omega
  | succ k ih =>
    intro b hb
    simp only [qtTo]
    by_cases e : b = k
    · subst e
      refine ⟨?_, ?_, ?_, ?_⟩
      · rw [upd_other _ _ _ _ (by omega), upd_other _ _ _ _ (by omega), upd_other _ _ _ _ (by omega), upd_same]
      · rw [upd_other _ _ _ _ (by omega), upd_same]
      · rw [upd_other _ _ _ _ (by omega), upd_other _ _ _ _ (by omega), upd_same]
      · rw [upd_same]
    · obtain ⟨h0, h1, h2, h3⟩ := ih b (by omega)
      refine ⟨?_, ?_, ?_, ?_⟩ <;> rw [upd_other _ _ _ _ (by omega), upd_other _ _ _ _ (by omega), upd_other _ _ _ _ (by omega), upd_other _ _ _ _ (by omega)] <;> assumption

theorem qtTo_below (m : Md) (w4 s : Nat) (x : Nat → Nat) : ∀ k i, i < s → qtTo m w4 s x k i = x i := by
  intro k
  induction k with
  | zero => intro i _; rfl
  | succ k ih =>
    intro i hi
    simp only [qtTo]
    rw [upd_other _ _ _ _ (by omega), upd_other _ _ _ _ (by omega), upd_other _ _ _ _ (by omega), upd_other _ _ _ _ (by omega)]
    exact ih i hi

theorem qtTo_lo (m : Md) (hg : Good m) (w4 s n : Nat) (x : Nat → Nat) (hw : w4 ≤ m.p) (hx : Lo (2 * m.p) n x) : ∀ k, s + 4 * k ≤ n → Lo (2 * m.p) n (qtTo m w4 s x k) := by
  intro k
  induction k with
  | zero => intro _; exact hx
  | succ k ih =>
    intro hk
    have la := hx (s + 4 * k) (by omega)
    have lb := hx (s + 4 * k + 1) (by omega)
    have lc := hx (s + 4 * k + 2) (by omega)
    have ld := hx (s + 4 * k + 3) (by omega)
    simp only [qtTo]
    exact ((((ih (by omega)).upd _ _ (q0_lt m _ _ _ _ la lb lc ld)).upd _ _ (q2_lt m _ _ _ _ la lb)).upd _ _ (q1_lt m hg _ _ _ _ _ la lc hw)).upd _ _ (q3_lt m _ _ _ _ _ la)

/-- y holds, block of h words by block, what g says. -/
def Lev (p s N h : Nat) (y : Nat → Nat) (g : Nat → Nat → Int) : Prop := ∀ t i, h ∣ t → t + h ≤ N → i < h → Eqm p (y (s + t + i)) (g (s + t) i)

theorem Lev.top {p s N : Nat} {y : Nat → Nat} {g : Nat → Nat → Int} (h : Lev p s N N y g) (i : Nat) (hi : i < N) : Eqm p (y (s + i)) (g s i) := by
  have := h 0 i ⟨0, by simp⟩ (by omega) hi
  simpa using this

theorem qt_lev (m : Md) (hg : Good m) (w4 s n B : Nat) (x : Nat → Nat) (f : Nat → Int) (T : Nat → Int) (hw : w4 ≤ m.p) (hx : Lo (2 * m.p) n x) (hn : s + 4 * B ≤ n) (hf : ∀ i, i < 4 * B → Eqm m.p (x (s + i)) (f (s + i)))
    (T1 : T 1 = 1) (T2 : T 2 = 1) (T3 : T 3 = tw m w4) : Lev m.p s (4 * B) 4 (qtTo m w4 s x B) (tr T 2 f) := by
  rintro t i ⟨b, rfl⟩ hb hi
  obtain ⟨h0, h1, h2, h3⟩ := qtTo_at m w4 s x B b (by omega)
  have la := hx (s + 4 * b) (by omega)
  have lb := hx (s + 4 * b + 1) (by omega)
  have lc := hx (s + 4 * b + 2) (by omega)
  have ld := hx (s + 4 * b + 3) (by omega)
  have ea := hf (4 * b) (by omega)
  have eb := hf (4 * b + 1) (by omega)
  have ec := hf (4 * b + 2) (by omega)
  have ed := hf (4 * b + 3) (by omega)
  simp only [← Nat.add_assoc] at eb ec ed
  rcases (by omega : i = 0 ∨ i = 1 ∨ i = 2 ∨ i = 3) with rfl | rfl | rfl | rfl
  · rw [Nat.add_zero, h0]
    have e : tr T 2 f (s + 4 * b) 0 = f (s + 4 * b) + f (s + 4 * b + 1) + (f (s + 4 * b + 2) + f (s + 4 * b + 3)) := by simp [tr, T1, T2]
    rw [e]; exact q0_eqm m _ _ _ _ _ _ _ _ ea eb ec ed
  · rw [h1]
    have e : tr T 2 f (s + 4 * b) 1 = f (s + 4 * b) - f (s + 4 * b + 1) + (f (s + 4 * b + 2) - f (s + 4 * b + 3)) * tw m w4 := by simp [tr, T1, T3]
    rw [e]; exact q1_eqm m w4 _ _ _ _ _ _ _ _ ea eb ec ed hg lb lc ld hw
  · rw [h2]
    have e : tr T 2 f (s + 4 * b) 2 = f (s + 4 * b) + f (s + 4 * b + 1) - (f (s + 4 * b + 2) + f (s + 4 * b + 3)) := by simp [tr, T1, T2]
    rw [e]; exact q2_eqm m _ _ _ _ _ _ _ _ ea eb ec ed lc ld
  · rw [h3]
    have e : tr T 2 f (s + 4 * b) 3 = f (s + 4 * b) - f (s + 4 * b + 1) - (f (s + 4 * b + 2) - f (s + 4 * b + 3)) * tw m w4 := by simp [tr, T1, T3]
    rw [e]; exact q3_eqm m w4 _ _ _ _ _ _ _ _ ea eb ec ed hg lb lc ld hw

/-- a step half done: below st the blocks of 2h are at g', from st on the blocks of h at g. -/
def Mix (p s N h st : Nat) (y : Nat → Nat) (g g' : Nat → Nat → Int) : Prop :=
  (∀ t i, 2 * h ∣ t → t < st → i < 2 * h → Eqm p (y (s + t + i)) (g' (s + t) i)) ∧ (∀ t i, h ∣ t → st ≤ t → t + h ≤ N → i < h → Eqm p (y (s + t + i)) (g (s + t) i))

theorem Mix.start {p s N h : Nat} {y : Nat → Nat} {g g' : Nat → Nat → Int} (l : Lev p s N h y g) : Mix p s N h 0 y g g' :=
  ⟨fun _ _ _ h _ => by omega, fun t i ht _ hN hi => l t i ht hN hi⟩
theorem Mix.stop {p s N h : Nat} {y : Nat → Nat} {g g' : Nat → Nat → Int} (h0 : 0 < h) (l : Mix p s N h N y g g') : Lev p s N (2 * h) y g' :=
  fun t i ht hN hi => l.1 t i ht (by omega) hi

theorem bf_lo (m : Md) (hg : Good m) (W : Nat → Nat) (s h n : Nat) (x : Nat → Nat) (hx : Lo (2 * m.p) n x) (hn : s + 2 * h ≤ n) (hW : Le m.p (2 * h) W) : Lo (2 * m.p) n (bfTo m W s h x h) := by
  intro i hi
  have hv : ∀ j, j < h → bfV m x W s h j < 2 * m.p := fun j hj => by
    have := hg.big
    have := hx (s + h + j) (by omega)
    exact montL_lt _ _ _ _ (by omega) (lt_p64 m hg _ _ (by omega) (hW _ (by omega)))
  unfold bfTo
  by_cases h1 : s ≤ i ∧ i < s + h
  · rw [if_pos h1]
    have := hv (i - s) (by omega)
    have := hx i hi
    exact redB_lt _ _ (by omega)
  · rw [if_neg h1]
    by_cases h2 : s + h ≤ i ∧ i < s + h + h
    · rw [if_pos h2]
      have := hx (i - h) (by omega)
      exact redB_lt _ _ (by omega)
    · rw [if_neg h2]; exact hx i hi

theorem bf_out (m : Md) (W : Nat → Nat) (s h : Nat) (x : Nat → Nat) (i : Nat) (hi : i < s ∨ s + 2 * h ≤ i) : bfTo m W s h x h i = x i := by
  unfold bfTo; rw [if_neg (by omega), if_neg (by omega)]

theorem Mix.step (m : Md) (hg : Good m) (W : Nat → Nat) (T : Nat → Int) (f : Nat → Int) (s N j st n : Nat) (y : Nat → Nat) (hx : Lo (2 * m.p) n y) (hn : s + N ≤ n) (hst : 2 * 2 ^ j ∣ st) (hN : st + 2 * 2 ^ j ≤ N) (hW : Le m.p (2 * 2 ^ j) W)
    (hT : ∀ i, i < 2 * 2 ^ j → T i = tw m (W i)) (l : Mix m.p s N (2 ^ j) st y (tr T j f) (tr T (j + 1) f)) :
    Mix m.p s N (2 ^ j) (st + 2 * 2 ^ j) (bfTo m W (s + st) (2 ^ j) y (2 ^ j)) (tr T j f) (tr T (j + 1) f) := by
  have hp := Nat.two_pow_pos j
  obtain ⟨h, hh⟩ : ∃ h, h = 2 ^ j := ⟨_, rfl⟩
  rw [← hh] at hst hN hW hT l hp ⊢
  have hval : ∀ i, i < h → Eqm m.p (bfV m y W (s + st) h i : Nat) (tr T j f (s + st + h) i * T (h + i)) := fun i hi => by
    have e := l.2 (st + h) i (by obtain ⟨b, hb⟩ := hst; exact ⟨2 * b + 1, by rw [hb, Nat.mul_add, Nat.mul_one, Nat.mul_comm 2 h, Nat.mul_assoc]⟩) (by omega) (by omega) hi
    rw [← Nat.add_assoc] at e
    unfold bfV
    rw [hT (h + i) (by omega)]
    have := hx (s + st + h + i) (by omega)
    exact montL_tw m hg _ _ _ (lt_p64 m hg _ _ (by omega) (hW _ (by omega))) e
  have hbl : ∀ i, i < h → bfV m y W (s + st) h i < 2 * m.p := fun i hi => by
    have := hg.big
    have := hx (s + st + h + i) (by omega)
    exact montL_lt _ _ _ _ (by omega) (lt_p64 m hg _ _ (by omega) (hW _ (by omega)))
  have hlo : ∀ i, i < h → Eqm m.p (y (s + st + i)) (tr T j f (s + st) i) := fun i hi =>
    l.2 st i (by obtain ⟨b, hb⟩ := hst; exact ⟨2 * b, by rw [hb, Nat.mul_comm 2 h, Nat.mul_assoc]⟩) (by omega) (by omega) hi
  constructor
  · intro t i ht hlt hi
    by_cases e : t = st
    · subst e
      have e1 : tr T (j + 1) f (s + t) i = if i < h then tr T j f (s + t) i + tr T j f (s + t + h) i * T (h + i) else tr T j f (s + t) (i - h) - tr T j f (s + t + h) (i - h) * T i := by rw [hh]; rfl
      rw [e1]
      unfold bfTo
      by_cases g : i < h
      · rw [if_pos g, if_pos (by omega), Nat.add_sub_cancel_left]
        exact ((hlo i g).nadd (hval i g)).red
      · rw [if_neg g, if_neg (by omega), if_pos (by omega), show s + t + i - h = s + t + (i - h) by omega, show s + t + i - (s + t + h) = i - h by omega]
        have h2 := hval (i - h) (by omega)
        rw [show h + (i - h) = i by omega] at h2
        exact (Eqm.nsub (hbl _ (by omega)) (hlo (i - h) (by omega)) h2).red
    · have hle : t + 2 * h ≤ st ∨ st + 2 * h ≤ t := by
        obtain ⟨a, rfl⟩ := ht
        obtain ⟨b, rfl⟩ := hst
        rcases Nat.lt_or_ge a b with hab | hab
        · left
          have := Nat.mul_le_mul_left (2 * h) hab
          rw [Nat.mul_succ] at this; exact this
        · right
          have hab' : b < a := by
            rcases Nat.lt_or_ge b a with h' | h'
            · exact h'
            · exact absurd (by rw [Nat.le_antisymm h' hab]) e
          have := Nat.mul_le_mul_left (2 * h) hab'
          rw [Nat.mul_succ] at this; exact this
      rw [bf_out _ _ _ _ _ _ (by omega)]
      exact l.1 t i ht (by omega) hi
  · intro t i ht hle hN' hi
    rw [bf_out _ _ _ _ _ _ (by omega)]
    exact l.2 t i ht (by omega) hN' hi

end Go.Proofs.Qxb6616212a
