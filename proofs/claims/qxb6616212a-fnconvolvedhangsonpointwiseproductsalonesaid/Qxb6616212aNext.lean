import Derived.Test.Qxb6616212aLawP
namespace Go.Proofs.Qxb6616212a
open Go.RowKit

theorem lin_same (m : Md) (T : Nat → Int) (k : Nat) (b : Bool) (f : Nat → Int) (o o' : Held) (h : b = true → o = o') : lin (tw m m.ci) T (gOf m o) k b f = lin (tw m m.ci) T (gOf m o') k b f := by
  cases b with
  | false => rfl
  | true => rw [h rfl]

/-- a further call on the same modulus, whose stores are full: the same transform. -/
theorem CPost.next {M : Nat} {m : Md} {k : Nat} {b : Bool} {n A : Nat} {f : Nat → Int} {v : Nat × Nat × (Nat → Nat)} {o3 o1 : Held} {w w' : World} (hs : b = true → o3 = o1 ∧ ∃ v3, o1 = some v3) (h : CPost M m k b n A f (some v) o3 w w') :
    ∃ o3' y, St w' M m k (some v) o3' ∧ (b = true → o3' = o1 ∧ ∃ v3, o1 = some v3) ∧ (∀ B, B < w.heap.size → ¬ Own M m (some v) o3 B → ¬ Own M m (some v) o3' B) ∧
      Row w' A n y ∧ Lo m.p n y ∧ Kept (fun B => B = A ∨ B = m.K ∨ B = m.K3) w w' ∧ ∀ i, i < n → Eqm m.p (y i) (lin (tw m m.ci) (gOf m (some v)) (gOf m o1) k b f i) := by
  obtain ⟨v', o3', y, hS, hv, _, h3, hno, rY, lo, kp, e⟩ := h
  have hv' : v' = v := hv v rfl
  subst hv'
  have h3' : b = true → o3' = o1 ∧ ∃ v3, o1 = some v3 := fun hb => by
    obtain ⟨he, v3, hv3⟩ := hs hb
    exact ⟨(h3 v3 (he.trans hv3)).trans hv3.symm, v3, hv3⟩
  refine ⟨o3', y, hS, h3', hno, rY, lo, kp, fun i hi => ?_⟩
  rw [lin_same m (gOf m (some v')) k b f o1 o3' (fun hb => (h3' hb).1.symm)]
  exact e i hi
theorem CPost.first {M : Nat} {m : Md} {k : Nat} {b : Bool} {n A : Nat} {f : Nat → Int} {w w' : World} (h : CPost M m k b n A f none none w w') :
    ∃ v o1 y, St w' M m k (some v) o1 ∧ (b = true → o1 = o1 ∧ ∃ v3, o1 = some v3) ∧ (∀ B, B < w.heap.size → ¬ Own M m none none B → ¬ Own M m (some v) o1 B) ∧
      Row w' A n y ∧ Lo m.p n y ∧ Kept (fun B => B = A ∨ B = m.K ∨ B = m.K3) w w' ∧ ∀ i, i < n → Eqm m.p (y i) (lin (tw m m.ci) (gOf m (some v)) (gOf m o1) k b f i) := by
  obtain ⟨v, o3', y, hS, _, hb, _, hno, rY, lo, kp, e⟩ := h
  exact ⟨v, o3', y, hS, fun h => ⟨rfl, hb h⟩, hno, rY, lo, kp, e⟩

theorem not_own0 {M : Nat} {m : Md} {B : Nat} (h1 : B ≠ M) (h2 : B ≠ m.K) (h3 : B ≠ m.K3) : ¬ Own M m none none B := by
  rintro (e | e | e | ⟨v, h, _⟩ | ⟨v, h, _⟩)
  · exact h1 e
  · exact h2 e
  · exact h3 e
  · simp at h
  · simp at h

theorem St.not_own {w : World} {M : Nat} {m : Md} {k : Nat} {o o3 : Held} (h : St w M m k o o3) {B : Nat} (hB : w.heap.size ≤ B) : ¬ Own M m o o3 B := fun ho => by
  have := h.own_lt ho; omega

/-- a constant row goes to the constant and zeros. -/
theorem flat_law {M : Nat} {m : Md} {k : Nat} {b : Bool} {n : Nat} {v : Nat × Nat × (Nat → Nat)} {o1 o3 : Held} {w : World} (hg : Good m) (hn : n = len k b) (hS : St w M m k (some v) o3) (h3 : b = true → o3 = o1 ∧ ∃ v3, o1 = some v3) (c : Nat) (hc : c < m.p) (y : Nat → Nat) (lo : Lo m.p n y)
    (e : ∀ i, i < n → Eqm m.p (y i) (lin (tw m m.ci) (gOf m (some v)) (gOf m o1) k b (fun _ => (c : Int) * (n ^ (m.p - 2) % m.p : Nat)) i)) (i : Nat) (hi : i < n) : y i = if i = 0 then c else 0 := by
  have hp := hg.big
  have h1 := e i hi
  have hT3 : b = true → gOf m o1 (2 ^ k) = 1 := fun hb => by
    obtain ⟨he, v3, hv3⟩ := h3 hb
    rw [hv3] at he ⊢
    subst he
    exact hS.one3
  rw [lin_const _ _ _ _ _ _ ((c : Int) * (n ^ (m.p - 2) % m.p : Nat)) (fun i hi => hS.one1 i hi) hT3 (fun _ _ => rfl) i (hn ▸ hi), ← hn] at h1
  by_cases hi0 : i = 0
  · rw [if_pos hi0] at h1 ⊢
    refine Eqm.eq_of_lt (h1.trans ?_) (lo i hi) hc
    have h2 := (Eqm.refl m.p (c : Int)).mul (len_inv m hg k b n hn)
    rw [Int.mul_one, Int.mul_left_comm] at h2
    exact h2
  · rw [if_neg hi0] at h1 ⊢
    exact Eqm.eq_of_lt (b := 0) h1 (lo i hi) (by omega)

end Go.Proofs.Qxb6616212a
