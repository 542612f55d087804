import Derived.Test.Qxb6616212aConv
namespace Go.Proofs.Qxb6616212a
open Go.RowKit

theorem pow_one_mod (a p k : Nat) (hp : 1 < p) (h : a % p = 1) : a ^ k % p = 1 := by
  rw [Nat.pow_mod, h, Nat.one_pow, Nat.mod_eq_of_lt hp]
theorem len_pow (m : Md) (hg : Good m) (k : Nat) (b : Bool) : (len k b) ^ (m.p - 1) % m.p = 1 := by
  have hp := hg.big
  have h2 : (2 ^ k) ^ (m.p - 1) % m.p = 1 := by
    rw [← Nat.pow_mul, Nat.mul_comm, Nat.pow_mul]; exact pow_one_mod _ _ _ (by omega) hg.two
  cases b with
  | false => exact h2
  | true =>
    have e : len k true = 3 * 2 ^ k := by simp [len]; omega
    rw [e, Nat.mul_pow, Nat.mul_mod, h2, hg.three, Nat.mod_eq_of_lt (by omega)]
theorem len_inv (m : Md) (hg : Good m) (k : Nat) (b : Bool) (n : Nat) (hn : n = len k b) : Eqm m.p ((n : Int) * (n ^ (m.p - 2) % m.p : Nat)) 1 := by
  have hp := hg.big
  have h1 : Eqm m.p ((n : Int) * (n ^ (m.p - 2) % m.p : Nat)) ((n : Int) * (n ^ (m.p - 2) : Nat)) := (Eqm.refl _ _).mul Eqm.of_mod
  have e : (n : Int) * (n ^ (m.p - 2) : Nat) = ((n ^ (m.p - 1) : Nat) : Int) := by
    rw [← Int.natCast_mul, ← Nat.pow_succ', show (m.p - 2).succ = m.p - 1 by omega]
  rw [e] at h1
  have h2 := Eqm.of_mod (p := m.p) (a := n ^ (m.p - 1))
  rw [hn, len_pow m hg k b, ← hn] at h2
  exact h1.trans h2.symm

theorem sm_mul (g : Nat → Int) (c : Int) : ∀ n, sm (fun i => g i * c) n = sm g n * c
  | 0 => by simp [sm]
  | n + 1 => by simp only [sm]; rw [sm_mul g c n, Int.add_mul]
theorem sm_eqm {p : Nat} {f g : Nat → Int} : ∀ n, (∀ i, i < n → Eqm p (f i) (g i)) → Eqm p (sm f n) (sm g n)
  | 0, _ => Eqm.refl _ _
  | n + 1, h => (sm_eqm n (fun i hi => h i (by omega))).add (h n (by omega))

section
variable {w : World} {M : Nat} {m : Md} {k : Nat} {o o3 : Held}
theorem St.one1 {v : Nat × Nat × (Nat → Nat)} (h : St w M m k (some v) o3) (i : Nat) (hi : i < k) : gOf m (some v) (2 ^ i) = 1 := by
  show tw m (v.2.2 (2 ^ i)) = 1
  rw [h.sk.2.2.one i hi]; exact tw_one m
theorem St.one3 {v : Nat × Nat × (Nat → Nat)} (h : St w M m k o (some v)) : gOf m (some v) (2 ^ k) = 1 := by
  show tw m (v.2.2 (2 ^ k)) = 1
  rw [h.sk3.2.2.one k (by omega)]; exact tw_one m
end

/-- the results, modulo p. -/
theorem CPost.laws {M : Nat} {m : Md} {k : Nat} {b : Bool} {n A : Nat} {f : Nat → Int} {o o3 : Held} {w w' : World} (hn : n = len k b) (h : CPost M m k b n A f o o3 w w') :
    ∃ y, Row w' A n y ∧ Lo m.p n y ∧ Kept (fun B => B = A ∨ B = m.K ∨ B = m.K3) w w' ∧ Eqm m.p (y 0) (sm f n) ∧ Eqm m.p (sm (fun i => (y i : Int)) n) ((n : Int) * f 0) := by
  obtain ⟨v, o3', y, hS, _, hb, _, _, rY, lo, kp, e⟩ := h
  have h3 : b = true → gOf m o3' (2 ^ k) = 1 := fun hb' => by
    obtain ⟨v3, rfl⟩ := hb hb'
    exact hS.one3
  have hp := Nat.two_pow_pos k
  have n0 : 0 < n := by rw [hn]; unfold len; split <;> omega
  refine ⟨y, rY, lo, kp, ?_, ?_⟩
  · have := e 0 n0
    rw [lin_zero _ _ _ _ _ _ (fun i hi => hS.one1 i hi) h3, ← hn] at this
    exact this
  · have := sm_eqm n e
    rw [hn, lin_sum, ← hn] at this
    exact this

/-- the sum of the products of residues. -/
theorem dot_step (p d xr zr v d' xi zi : Nat) (g : Int) (hd : Eqm p d g) (hx : xr = xi % p) (hz : zr = zi % p) (hv : v = xr * zr % p) (hd' : d' = (d + v) % p) : Eqm p d' (g + (xi : Int) * zi) := by
  have h1 : Eqm p (xr : Int) xi := by rw [hx]; exact Eqm.of_mod
  have h2 : Eqm p (zr : Int) zi := by rw [hz]; exact Eqm.of_mod
  have h3 : Eqm p (v : Int) ((xi : Int) * zi) := by
    rw [hv]; refine (Eqm.of_mod).trans ?_
    rw [Int.natCast_mul]; exact h1.mul h2
  rw [hd']
  refine (Eqm.of_mod).trans ?_
  rw [Int.natCast_add]; exact hd.add h3
theorem sum_step (p d r d' : Nat) (g : Int) (hd : Eqm p d g) (hd' : d' = (d + r) % p) : Eqm p d' (g + (r : Int)) := by
  rw [hd']
  refine (Eqm.of_mod).trans ?_
  rw [Int.natCast_add]; exact hd.add (Eqm.refl _ _)
theorem prod_eqm (p xr zr v xi zi : Nat) (hx : xr = xi % p) (hz : zr = zi % p) (hv : v = xr * zr % p) : Eqm p (v : Int) ((xi : Int) * zi) := by
  have h1 : Eqm p (xr : Int) xi := by rw [hx]; exact Eqm.of_mod
  have h2 : Eqm p (zr : Int) zi := by rw [hz]; exact Eqm.of_mod
  rw [hv]; refine (Eqm.of_mod).trans ?_
  rw [Int.natCast_mul]; exact h1.mul h2

theorem len_of_Len (n : Nat) (h : Len n) : ∃ k b, 2 ≤ k ∧ n = len k b := by
  obtain ⟨k, hk, h | h⟩ := h
  · exact ⟨k, false, hk, h⟩
  · exact ⟨k, true, hk, by rw [h]; simp [len]; omega⟩

theorem good_of (p root inv r2 cube ci K K3 : Nat) (hinv : inv < 18446744073709551616) (h : ModOK p root inv r2 cube ci) : Good ⟨p, root, inv, r2, cube, ci, K, K3⟩ :=
  ⟨h.lt, h.big, h.odd, h.inv, hinv, h.root, h.r2, h.cube, h.cubeInverse, h.two, h.three⟩

end Go.Proofs.Qxb6616212a
