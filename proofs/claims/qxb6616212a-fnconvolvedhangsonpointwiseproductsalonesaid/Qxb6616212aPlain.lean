import Derived.Test.Qxb6616212aTwid
namespace Go.Proofs.Qxb6616212a

/-- the sum of the first n. -/
def sm (f : Nat → Int) : Nat → Int
  | 0 => 0
  | n + 1 => sm f n + f n

theorem sm_congr {f g : Nat → Int} : ∀ n, (∀ i, i < n → f i = g i) → sm f n = sm g n
  | 0, _ => rfl
  | n + 1, h => by simp only [sm]; rw [sm_congr n (fun i hi => h i (by omega)), h n (by omega)]
theorem sm_add (f : Nat → Int) (a : Nat) : ∀ b, sm f (a + b) = sm f a + sm (fun i => f (a + i)) b
  | 0 => by simp [sm]
  | b + 1 => by
    rw [← Nat.add_assoc]; simp only [sm]; rw [sm_add f a b]; omega
theorem sm_plus (f g : Nat → Int) : ∀ n, sm (fun i => f i + g i) n = sm f n + sm g n
  | 0 => rfl
  | n + 1 => by simp only [sm]; rw [sm_plus f g n]; omega
theorem sm_minus (f g : Nat → Int) : ∀ n, sm (fun i => f i - g i) n = sm f n - sm g n
  | 0 => rfl
  | n + 1 => by simp only [sm]; rw [sm_minus f g n]; omega

/-- the inverse transform of the block of 2^j words from t on, over the whole numbers, with the twiddles T. -/
def tr (T : Nat → Int) : Nat → (Nat → Int) → Nat → Nat → Int
  | 0, f, t, i => f (t + i)
  | j + 1, f, t, i => if i < 2 ^ j then tr T j f t i + tr T j f (t + 2 ^ j) i * T (2 ^ j + i) else tr T j f t (i - 2 ^ j) - tr T j f (t + 2 ^ j) (i - 2 ^ j) * T i

theorem two_pow_succ (j : Nat) : 2 ^ (j + 1) = 2 ^ j + 2 ^ j := by rw [Nat.pow_succ]; omega

theorem tr_sum (T : Nat → Int) (f : Nat → Int) : ∀ j t, sm (tr T j f t) (2 ^ j) = 2 ^ j * f t
  | 0, t => by simp [sm, tr]
  | j + 1, t => by
    have ih := tr_sum T f j t
    rw [two_pow_succ, sm_add]
    rw [sm_congr (f := tr T (j + 1) f t) (g := fun i => tr T j f t i + tr T j f (t + 2 ^ j) i * T (2 ^ j + i)) (2 ^ j) (fun i hi => by simp only [tr]; rw [if_pos hi])]
    rw [sm_congr (f := fun i => tr T (j + 1) f t (2 ^ j + i)) (g := fun i => tr T j f t i - tr T j f (t + 2 ^ j) i * T (2 ^ j + i)) (2 ^ j) (fun i _ => by simp only [tr]; rw [if_neg (by omega), Nat.add_sub_cancel_left])]
    rw [sm_plus, sm_minus, ih, Int.pow_succ, Int.mul_assoc, Int.mul_comm 2 (f t), ← Int.mul_assoc]
    omega

theorem tr_zero (T : Nat → Int) (f : Nat → Int) : ∀ j t, (∀ i, i < j → T (2 ^ i) = 1) → tr T j f t 0 = sm (fun i => f (t + i)) (2 ^ j)
  | 0, t, _ => by simp [sm, tr]
  | j + 1, t, hT => by
    have h1 := tr_zero T f j t (fun i hi => hT i (by omega))
    have h2 := tr_zero T f j (t + 2 ^ j) (fun i hi => hT i (by omega))
    have hp := Nat.two_pow_pos j
    simp only [tr]
    rw [if_pos hp, Nat.add_zero, hT j (by omega), Int.mul_one, h1, h2, two_pow_succ, sm_add]
    congr 1
    exact sm_congr _ (fun i _ => by rw [Nat.add_assoc])

theorem tr_const (T : Nat → Int) (f : Nat → Int) (c : Int) : ∀ j t, (∀ i, i < j → T (2 ^ i) = 1) → (∀ i, i < 2 ^ j → f (t + i) = c) → ∀ i, i < 2 ^ j → tr T j f t i = if i = 0 then 2 ^ j * c else 0
  | 0, t, _, hf, i, hi => by
    have e : i = 0 := by rw [Nat.pow_zero] at hi; omega
    subst e
    simp only [tr]; rw [hf 0 hi]; simp
  | j + 1, t, hT, hf, i, hi => by
    have hp := Nat.two_pow_pos j
    rw [two_pow_succ] at hi hf
    have h1 := tr_const T f c j t (fun i hi => hT i (by omega)) (fun i hi => hf i (by omega))
    have h2 := tr_const T f c j (t + 2 ^ j) (fun i hi => hT i (by omega)) (fun i hi => by rw [Nat.add_assoc]; exact hf _ (by omega))
    simp only [tr]
    by_cases hl : i < 2 ^ j
    · rw [if_pos hl, h1 i hl, h2 i hl]
      by_cases e : i = 0
      · subst e
        rw [if_pos rfl, if_pos rfl, Nat.add_zero, hT j (by omega), Int.mul_one, Int.pow_succ, Int.mul_assoc, Int.mul_comm 2 c, ← Int.mul_assoc]; omega
      · rw [if_neg e, if_neg e]; simp
    · rw [if_neg hl, h1 _ (by omega), h2 _ (by omega), if_neg (by omega : ¬ i = 0)]
      by_cases e : i = 2 ^ j
      · rw [e, Nat.sub_self, if_pos rfl, hT j (by omega), Int.mul_one]; omega
      · rw [if_neg (by omega : ¬ i - 2 ^ j = 0)]; simp

/-- the last step of the inverse transform of three thirds of h words. -/
def th (c : Int) (T : Nat → Int) (h : Nat) (g0 g1 g2 : Nat → Int) (i : Nat) : Int :=
  if i < h then g0 i + g1 i * T (h + i) + g2 i * (T (h + i) * T (h + i))
  else if i < h + h then g0 (i - h) - g2 (i - h) * (T i * T i) + (g1 (i - h) * T i - g2 (i - h) * (T i * T i)) * c
  else g0 (i - (h + h)) - g1 (i - (h + h)) * T (i - h) - (g1 (i - (h + h)) * T (i - h) - g2 (i - (h + h)) * (T (i - h) * T (i - h))) * c

theorem th_sum (c : Int) (T : Nat → Int) (h : Nat) (g0 g1 g2 : Nat → Int) : sm (th c T h g0 g1 g2) (h + h + h) = 3 * sm g0 h := by
  rw [sm_add, sm_add]
  rw [sm_congr (f := th c T h g0 g1 g2) (g := fun i => g0 i + (g1 i * T (h + i) + g2 i * (T (h + i) * T (h + i)))) h (fun i hi => by unfold th; rw [if_pos hi, Int.add_assoc])]
  rw [sm_congr (f := fun i => th c T h g0 g1 g2 (h + i)) (g := fun i => g0 i + ((g1 i * T (h + i) - g2 i * (T (h + i) * T (h + i))) * c - g2 i * (T (h + i) * T (h + i)))) h (fun i hi => by
    unfold th; rw [if_neg (by omega), if_pos (by omega), Nat.add_sub_cancel_left]; omega)]
  rw [sm_congr (f := fun i => th c T h g0 g1 g2 (h + h + i)) (g := fun i => g0 i - ((g1 i * T (h + i) - g2 i * (T (h + i) * T (h + i))) * c + g1 i * T (h + i))) h (fun i hi => by
    unfold th; rw [if_neg (by omega), if_neg (by omega), Nat.add_sub_cancel_left, show h + h + i - h = h + i by omega]; omega)]
  rw [sm_plus, sm_plus, sm_minus, sm_plus, sm_minus, sm_plus]
  omega

theorem th_zero (c : Int) (T : Nat → Int) (h : Nat) (g0 g1 g2 : Nat → Int) (h0 : 0 < h) (hT : T h = 1) : th c T h g0 g1 g2 0 = g0 0 + g1 0 + g2 0 := by
  unfold th; rw [if_pos h0, Nat.add_zero, hT]; simp

theorem th_const (c : Int) (T : Nat → Int) (h : Nat) (g0 g1 g2 : Nat → Int) (v : Int) (_h0 : 0 < h) (hT : T h = 1) (h1 : ∀ i, i < h → g0 i = if i = 0 then v else 0) (h2 : ∀ i, i < h → g1 i = if i = 0 then v else 0) (h3 : ∀ i, i < h → g2 i = if i = 0 then v else 0) (i : Nat) (hi : i < h + h + h) :
    th c T h g0 g1 g2 i = if i = 0 then 3 * v else 0 := by
  unfold th
  by_cases g : i < h
  · rw [if_pos g, h1 i g, h2 i g, h3 i g]
    by_cases e : i = 0
    · subst e; rw [if_pos rfl, if_pos rfl, Nat.add_zero, hT]; omega
    · rw [if_neg e, if_neg e]; simp
  · rw [if_neg g, if_neg (by omega : ¬ i = 0)]
    by_cases g' : i < h + h
    · rw [if_pos g', h1 _ (by omega), h2 _ (by omega), h3 _ (by omega)]
      by_cases e : i = h
      · rw [e, Nat.sub_self, if_pos rfl, hT]; simp
      · rw [if_neg (by omega)]; simp
    · rw [if_neg g', h1 _ (by omega), h2 _ (by omega), h3 _ (by omega)]
      by_cases e : i = h + h
      · rw [e, Nat.sub_self, if_pos rfl, Nat.add_sub_cancel, hT]; simp
      · rw [if_neg (by omega)]; simp

/-- the number of points. -/
def len (k : Nat) (b : Bool) : Nat := if b then 2 ^ k + 2 ^ k + 2 ^ k else 2 ^ k

/-- the whole inverse transform, over the whole numbers. -/
def lin (c : Int) (T T3 : Nat → Int) (k : Nat) (b : Bool) (f : Nat → Int) : Nat → Int :=
  if b then th c T3 (2 ^ k) (tr T k f 0) (tr T k f (2 ^ k)) (tr T k f (2 ^ k + 2 ^ k)) else tr T k f 0

theorem lin_sum (c : Int) (T T3 : Nat → Int) (k : Nat) (b : Bool) (f : Nat → Int) : sm (lin c T T3 k b f) (len k b) = (len k b : Nat) * f 0 := by
  cases b with
  | false => simp only [lin, len, Bool.false_eq_true, if_false]; rw [tr_sum]; simp
  | true =>
    simp only [lin, len, if_true]; rw [th_sum, tr_sum]
    have e : ((2 ^ k + 2 ^ k + 2 ^ k : Nat) : Int) = 3 * 2 ^ k := by simp; omega
    rw [e, Int.mul_assoc]

theorem lin_zero (c : Int) (T T3 : Nat → Int) (k : Nat) (b : Bool) (f : Nat → Int) (hT : ∀ i, i < k → T (2 ^ i) = 1) (hT3 : b = true → T3 (2 ^ k) = 1) : lin c T T3 k b f 0 = sm f (len k b) := by
  cases b with
  | false => simp only [lin, len, Bool.false_eq_true, if_false]; rw [tr_zero T f k 0 hT]; exact sm_congr _ (fun i _ => by rw [Nat.zero_add])
  | true =>
    simp only [lin, len, if_true]; rw [th_zero _ _ _ _ _ _ (Nat.two_pow_pos k) (hT3 rfl), tr_zero T f k _ hT, tr_zero T f k _ hT, tr_zero T f k _ hT, sm_add, sm_add]
    congr 2
    exact sm_congr _ (fun i _ => by rw [Nat.zero_add])

theorem lin_const (c : Int) (T T3 : Nat → Int) (k : Nat) (b : Bool) (f : Nat → Int) (v : Int) (hT : ∀ i, i < k → T (2 ^ i) = 1) (hT3 : b = true → T3 (2 ^ k) = 1) (hf : ∀ i, i < len k b → f i = v) (i : Nat) (hi : i < len k b) :
    lin c T T3 k b f i = if i = 0 then (len k b : Nat) * v else 0 := by
  cases b with
  | false =>
    simp only [lin, len, Bool.false_eq_true, if_false] at hf hi ⊢
    rw [tr_const T f v k 0 hT (fun i hi => by rw [Nat.zero_add]; exact hf i hi) i hi]; simp
  | true =>
    simp only [lin, len, if_true] at hf hi ⊢
    rw [th_const c T3 (2 ^ k) _ _ _ (2 ^ k * v) (Nat.two_pow_pos k) (hT3 rfl) (tr_const T f v k _ hT (fun i hi => hf _ (by omega))) (tr_const T f v k _ hT (fun i hi => hf _ (by omega))) (tr_const T f v k _ hT (fun i hi => hf _ (by omega))) i hi]
    have e : ((2 ^ k + 2 ^ k + 2 ^ k : Nat) : Int) = 3 * 2 ^ k := by simp; omega
    rw [e, Int.mul_assoc]

end Go.Proofs.Qxb6616212a
