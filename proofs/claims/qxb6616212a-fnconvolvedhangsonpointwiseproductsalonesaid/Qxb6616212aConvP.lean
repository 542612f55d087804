import Derived.Test.Qxb6616212aInv
import Derived.Test.Qxb6616212aTime
import Derived.Test.Qxb6616212aBoth
namespace Go.Proofs.Qxb6616212a
open Go.RowKit

theorem toMont_R (m : Md) (hg : Good m) (a : Nat) (ha : a < m.p) : Eqm m.p (montR m a m.r2 : Nat) ((a : Int) * 18446744073709551616) := by
  have h1 := toMont_eqm m hg a ha
  have h2 := (Eqm.refl m.p ((montR m a m.r2 : Nat) : Int)).mul (Rin_eqm m hg)
  rw [Int.mul_one, ← Int.mul_assoc] at h2
  have h3 := h1.mul (Eqm.refl m.p (Rin m))
  have e : (a : Int) * 2 ^ 128 * Rin m = (a : Int) * 18446744073709551616 * (18446744073709551616 * Rin m) := by
    rw [show (2 : Int) ^ 128 = 18446744073709551616 * 18446744073709551616 by decide, ← Int.mul_assoc, ← Int.mul_assoc]
  rw [e] at h3
  have h4 := (Eqm.refl m.p ((a : Int) * 18446744073709551616)).mul (Rin_eqm m hg)
  rw [Int.mul_one] at h4
  exact h2.symm.trans (h3.trans h4)

theorem lt_pp (m : Md) (hg : Good m) (a b : Nat) (ha : a ≤ 2 * m.p) (hb : b ≤ 2 * m.p) : a * b < m.p * 18446744073709551616 := by
  have h1 : a * b ≤ 2 * m.p * (2 * m.p) := Nat.mul_le_mul ha hb
  have h2 := hg.lt
  have h3 := hg.big
  have h4 : 4 * m.p * m.p < 18446744073709551616 * m.p := Nat.mul_lt_mul_of_pos_right (by omega) (by omega)
  have h5 : 2 * m.p * (2 * m.p) = 4 * m.p * m.p := by rw [← Nat.mul_assoc, Nat.mul_right_comm 2 m.p 2]
  rw [Nat.mul_comm m.p]; omega

/-- the pointwise product, scaled. -/
def pw (m : Md) (sc : Nat) (x z : Nat) : Nat := montL (montL x z m.p m.inv) sc m.p m.inv

theorem pw_eqm (m : Md) (hg : Good m) (ni sc x z : Nat) (hx : x ≤ 2 * m.p) (hz : z ≤ 2 * m.p) (hs : sc ≤ m.p) (hsc : Eqm m.p sc ((ni : Int) * 18446744073709551616 * 18446744073709551616)) :
    Eqm m.p (pw m sc x z : Nat) ((x : Int) * z * ni) := by
  have hp := hg.big
  have h1 := montL_R m hg x z (lt_pp m hg x z hx hz)
  have hl := montL_lt x z m.p m.inv (by omega) (lt_pp m hg x z hx hz)
  have h2 := montL_R m hg (montL x z m.p m.inv) sc (lt_p64 m hg _ _ (by omega) hs)
  refine h2.trans (((h1.mul hsc).mul (Eqm.refl _ _)).trans ?_)
  have hR := Rin_eqm m hg
  have e : (x : Int) * z * Rin m * ((ni : Int) * 18446744073709551616 * 18446744073709551616) * Rin m = (x : Int) * z * ni * ((18446744073709551616 * Rin m) * (18446744073709551616 * Rin m)) := by
    generalize (x : Int) * z = u
    generalize (ni : Int) = v
    generalize Rin m = R
    generalize (18446744073709551616 : Int) = t
    simp only [Int.mul_assoc]
    congr 1
    rw [Int.mul_left_comm R v]
    congr 1
    rw [Int.mul_left_comm R t, Int.mul_left_comm R t]
  rw [e]
  have h3 := (Eqm.refl m.p ((x : Int) * z * ni)).mul (hR.mul hR)
  rw [Int.mul_one, Int.mul_one] at h3
  exact h3

theorem pw_lt (m : Md) (hg : Good m) (sc x z : Nat) (hx : x ≤ 2 * m.p) (hz : z ≤ 2 * m.p) (hs : sc ≤ m.p) : pw m sc x z < 2 * m.p := by
  have hp := hg.big
  have hl := montL_lt x z m.p m.inv (by omega) (lt_pp m hg x z hx hz)
  exact montL_lt _ _ _ _ (by omega) (lt_p64 m hg _ _ (by omega) hs)

/-- the blocks that a modulus uses. -/
def Own (M : Nat) (m : Md) (o o3 : Held) (B : Nat) : Prop := B = M ∨ B = m.K ∨ B = m.K3 ∨ (∃ v, o = some v ∧ B = v.2.1) ∨ (∃ v, o3 = some v ∧ B = v.2.1)

/-- a modulus and its two stores. -/
structure St (w : World) (M : Nat) (m : Md) (k : Nat) (o o3 : Held) : Prop where
  mod : ModAt w M m
  sk : Sto w m.K k m o
  sk3 : Sto w m.K3 (k + 1) m o3
  nK : m.K ≠ m.K3
  nM : M ≠ m.K
  nM3 : M ≠ m.K3
  o1 : ∀ v, o = some v → v.2.1 ≠ m.K ∧ v.2.1 ≠ m.K3 ∧ v.2.1 ≠ M
  o3 : ∀ v, o3 = some v → v.2.1 ≠ m.K ∧ v.2.1 ≠ m.K3 ∧ v.2.1 ≠ M

theorem St.same {w w' : World} {M : Nat} {m : Md} {k : Nat} {o o3 : Held} (h : St w M m k o o3) (e : w'.heap = w.heap) : St w' M m k o o3 :=
  ⟨h.mod.same e, h.sk.same e, h.sk3.same e, h.nK, h.nM, h.nM3, h.o1, h.o3⟩
theorem St.kept {S : Nat → Prop} {w w' : World} {M : Nat} {m : Md} {k : Nat} {o o3 : Held} (h : St w M m k o o3) (q : Kept S w w') (hS : ∀ B, S B → ¬ Own M m o o3 B) : St w' M m k o o3 :=
  ⟨h.mod.kept q (fun s => hS _ s (Or.inl rfl)), h.sk.kept q (fun s => hS _ s (Or.inr (Or.inl rfl))) (fun v hv s => hS _ s (Or.inr (Or.inr (Or.inr (Or.inl ⟨v, hv, rfl⟩))))),
   h.sk3.kept q (fun s => hS _ s (Or.inr (Or.inr (Or.inl rfl)))) (fun v hv s => hS _ s (Or.inr (Or.inr (Or.inr (Or.inr ⟨v, hv, rfl⟩))))), h.nK, h.nM, h.nM3, h.o1, h.o3⟩
theorem St.own_lt {w : World} {M : Nat} {m : Md} {k : Nat} {o o3 : Held} (h : St w M m k o o3) {B : Nat} (hB : Own M m o o3 B) : B < w.heap.size := by
  rcases hB with rfl | rfl | rfl | ⟨v, rfl, rfl⟩ | ⟨v, rfl, rfl⟩
  · exact h.mod.lt
  · exact h.sk.lt
  · exact h.sk3.lt
  · exact h.sk.2.1.lt
  · exact h.sk3.2.1.lt

/-- behind the asking of the first store. -/
theorem St.got {w w' : World} {M : Nat} {m : Md} {k : Nat} {o o3 : Held} {v : Nat × Nat × (Nat → Nat)} (h : St w M m k o o3) (q : Got w w' m.K k m o v) : St w' M m k (some v) o3 := by
  have hv : v.2.1 ≠ m.K ∧ v.2.1 ≠ m.K3 ∧ v.2.1 ≠ M := by
    cases ho : o with
    | none =>
      have := q.new ho
      have h1 := h.sk.lt
      have h2 := h.sk3.lt
      have h3 := h.mod.lt
      refine ⟨?_, ?_, ?_⟩ <;> omega
    | some u => rw [q.same u ho]; exact h.o1 u ho
  refine ⟨h.mod.kept q.kept h.nM, q.sto, h.sk3.kept q.kept (fun e => h.nK e.symm) (fun u hu => (h.o3 u hu).1), h.nK, h.nM, h.nM3, ?_, h.o3⟩
  intro u hu
  cases hu
  exact hv
theorem St.got3 {w w' : World} {M : Nat} {m : Md} {k : Nat} {o o3 : Held} {v : Nat × Nat × (Nat → Nat)} (h : St w M m k o o3) (q : Got w w' m.K3 (k + 1) m o3 v) : St w' M m k o (some v) := by
  have hv : v.2.1 ≠ m.K ∧ v.2.1 ≠ m.K3 ∧ v.2.1 ≠ M := by
    cases ho : o3 with
    | none =>
      have := q.new ho
      have h1 := h.sk.lt
      have h2 := h.sk3.lt
      have h3 := h.mod.lt
      refine ⟨?_, ?_, ?_⟩ <;> omega
    | some u => rw [q.same u ho]; exact h.o3 u ho
  refine ⟨h.mod.kept q.kept h.nM3, h.sk.kept q.kept h.nK (fun u hu => (h.o1 u hu).2.1), q.sto, h.nK, h.nM, h.nM3, h.o1, ?_⟩
  intro u hu
  cases hu
  exact hv
theorem Got.notOwn {w w' : World} {M : Nat} {m : Md} {k : Nat} {o o3 : Held} {v : Nat × Nat × (Nat → Nat)} (q : Got w w' m.K k m o v) {B : Nat} (hB : B < w.heap.size) (h : ¬ Own M m o o3 B) : ¬ Own M m (some v) o3 B := by
  rintro (e | e | e | ⟨u, hu, e⟩ | e)
  · exact h (Or.inl e)
  · exact h (Or.inr (Or.inl e))
  · exact h (Or.inr (Or.inr (Or.inl e)))
  · cases hu
    cases ho : o with
    | none => have := q.new ho; omega
    | some t => exact h (Or.inr (Or.inr (Or.inr (Or.inl ⟨t, ho, by rw [← q.same t ho]; exact e⟩))))
  · exact h (Or.inr (Or.inr (Or.inr (Or.inr e))))
theorem Got.notOwn3 {w w' : World} {M : Nat} {m : Md} {k : Nat} {o o3 : Held} {v : Nat × Nat × (Nat → Nat)} (q : Got w w' m.K3 (k + 1) m o3 v) {B : Nat} (hB : B < w.heap.size) (h : ¬ Own M m o o3 B) : ¬ Own M m o (some v) B := by
  rintro (e | e | e | e | ⟨u, hu, e⟩)
  · exact h (Or.inl e)
  · exact h (Or.inr (Or.inl e))
  · exact h (Or.inr (Or.inr (Or.inl e)))
  · exact h (Or.inr (Or.inr (Or.inr (Or.inl e))))
  · cases hu
    cases ho : o3 with
    | none => have := q.new ho; omega
    | some t => exact h (Or.inr (Or.inr (Or.inr (Or.inr ⟨t, ho, by rw [← q.same t ho]; exact e⟩))))

/-- the twiddles as whole numbers. -/
def gOf (m : Md) (o : Held) : Nat → Int := match o with
  | none => fun _ => 0
  | some v => fun i => tw m (v.2.2 i)

end Go.Proofs.Qxb6616212a
