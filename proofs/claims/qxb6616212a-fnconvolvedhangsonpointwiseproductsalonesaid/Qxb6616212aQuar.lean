import Derived.Test.Qxb6616212aBfly
namespace Go.Proofs.Qxb6616212a
open Go.RowKit

/-- the four words of a block behind timeQuarters. -/
def q0 (m : Md) (a b c d : Nat) : Nat := redB (redB (a + b) (2 * m.p) + redB (c + d) (2 * m.p)) (2 * m.p)
def q2 (m : Md) (a b c d : Nat) : Nat := redB (redB (a + b) (2 * m.p) + 2 * m.p - redB (c + d) (2 * m.p)) (2 * m.p)
def q1 (m : Md) (w4 a b c d : Nat) : Nat := redB (redB (a + 2 * m.p - b) (2 * m.p) + montL (c + 2 * m.p - d) w4 m.p m.inv) (2 * m.p)
def q3 (m : Md) (w4 a b c d : Nat) : Nat := redB (redB (a + 2 * m.p - b) (2 * m.p) + 2 * m.p - montL (c + 2 * m.p - d) w4 m.p m.inv) (2 * m.p)

/-- the first k blocks of four, from s on. -/
def qtTo (m : Md) (w4 s : Nat) (x : Nat → Nat) : Nat → (Nat → Nat)
  | 0 => x
  | k + 1 =>
    let y := qtTo m w4 s x k
    upd (upd (upd (upd y (s + 4 * k) (q0 m (x (s + 4 * k)) (x (s + 4 * k + 1)) (x (s + 4 * k + 2)) (x (s + 4 * k + 3))))
      (s + 4 * k + 2) (q2 m (x (s + 4 * k)) (x (s + 4 * k + 1)) (x (s + 4 * k + 2)) (x (s + 4 * k + 3))))
      (s + 4 * k + 1) (q1 m w4 (x (s + 4 * k)) (x (s + 4 * k + 1)) (x (s + 4 * k + 2)) (x (s + 4 * k + 3))))
      (s + 4 * k + 3) (q3 m w4 (x (s + 4 * k)) (x (s + 4 * k + 1)) (x (s + 4 * k + 2)) (x (s + 4 * k + 3)))

theorem qtTo_rest (m : Md) (w4 s : Nat) (x : Nat → Nat) : ∀ k i, s + 4 * k ≤ i → qtTo m w4 s x k i = x i := by
  intro k
  induction k with
  | zero => intro i _; rfl
  | succ k ih =>
    intro i hi
    simp only [qtTo]
    rw [upd_other _ _ _ _ (by omega), upd_other _ _ _ _ (by omega), upd_other _ _ _ _ (by omega), upd_other _ _ _ _ (by omega)]
    exact ih i (by omega)

end Go.Proofs.Qxb6616212a
