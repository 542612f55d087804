import Derived.Test.Qxb6616212aMont
namespace Go.Proofs.Qxb6616212a
open Go.RowKit

/-- the modulus at block M. -/
structure Md where
  p : Nat
  root : Nat
  inv : Nat
  r2 : Nat
  cube : Nat
  ci : Nat
  K : Nat
  K3 : Nat

def Md.cells (m : Md) : Array Value := #[.int .u64 m.p, .int .u64 m.root, .int .u64 m.inv, .int .u64 m.r2, .int .u64 m.cube, .int .u64 m.ci, .pointer (some ⟨m.K, 0, none⟩), .pointer (some ⟨m.K3, 0, none⟩)]

def ModAt (w : World) (M : Nat) (m : Md) : Prop := w.heap[M]? = some (.cells m.cells 74 (0, 0))

structure Good (m : Md) : Prop where
  lt : m.p < 4611686018427387904
  big : 12884901888 < m.p
  odd : m.p % 2 = 1
  inv : m.inv * m.p % 18446744073709551616 = 1
  invlt : m.inv < 18446744073709551616
  root : m.root < m.p
  r2 : m.r2 = 2 ^ 128 % m.p
  cube : m.cube < m.p
  ci : m.ci < m.p
  two : 2 ^ (m.p - 1) % m.p = 1
  three : 3 ^ (m.p - 1) % m.p = 1

theorem ModAt.same {w w' : World} {M : Nat} {m : Md} (h : ModAt w M m) (e : w'.heap = w.heap) : ModAt w' M m := by unfold ModAt; rw [e]; exact h
theorem ModAt.kept {S : Nat → Prop} {w w' : World} {M : Nat} {m : Md} (h : ModAt w M m) (k : Kept S w w') (hS : ¬ S M) : ModAt w' M m := (k.block M (lt_of_heap h) hS).trans h
theorem ModAt.kept0 {w w' : World} {M : Nat} {m : Md} (h : ModAt w M m) (k : Kept0 w w') : ModAt w' M m := h.kept k (fun h => h)
theorem ModAt.lt {w : World} {M : Nat} {m : Md} (h : ModAt w M m) : M < w.heap.size := lt_of_heap h

section
variable {w : World} {M : Nat} {m : Md}
theorem ModAt.c0 (h : ModAt w M m) : w.cell? ⟨M, 0, none⟩ = some (.int .u64 m.p) := by rw [cell_of_heap h]; rfl
theorem ModAt.c1 (h : ModAt w M m) : w.cell? ⟨M, 1, none⟩ = some (.int .u64 m.root) := by rw [cell_of_heap h]; rfl
theorem ModAt.c2 (h : ModAt w M m) : w.cell? ⟨M, 2, none⟩ = some (.int .u64 m.inv) := by rw [cell_of_heap h]; rfl
theorem ModAt.c3 (h : ModAt w M m) : w.cell? ⟨M, 3, none⟩ = some (.int .u64 m.r2) := by rw [cell_of_heap h]; rfl
theorem ModAt.c4 (h : ModAt w M m) : w.cell? ⟨M, 4, none⟩ = some (.int .u64 m.cube) := by rw [cell_of_heap h]; rfl
theorem ModAt.c5 (h : ModAt w M m) : w.cell? ⟨M, 5, none⟩ = some (.int .u64 m.ci) := by rw [cell_of_heap h]; rfl
theorem ModAt.c6 (h : ModAt w M m) : w.cell? ⟨M, 6, none⟩ = some (.pointer (some ⟨m.K, 0, none⟩)) := by rw [cell_of_heap h]; rfl
theorem ModAt.c7 (h : ModAt w M m) : w.cell? ⟨M, 7, none⟩ = some (.pointer (some ⟨m.K3, 0, none⟩)) := by rw [cell_of_heap h]; rfl
end

set_option maxHeartbeats 1000000 in
set_option maxRecDepth 100000 in
/-- modulus.montLazy: it reads only (its region draws). -/
theorem mLazy_any (M : Nat) (m : Md) (hg : Good m) (a b : Nat) (ha : a < 18446744073709551616) (hb : b < 18446744073709551616) (hab : a * b < m.p * 18446744073709551616) (w : World) (hM : ModAt w M m) :
    Calls Try.prog 39 #[.pointer (some ⟨M, 0, none⟩), .int .u64 a, .int .u64 b] w fun e w' => e = .returned (.int .u64 (montL a b m.p m.inv : Nat)) ∧ ∃ q, w' = w.drewN q := by
  have c0 := hM.c0
  have c2 := hM.c2
  have hc := montL_any a b m.p m.inv ha hb hg.lt hg.invlt hab
  go_enter Try.func39, Try.ntmps39
  go_wp2_with fail
  go_quiet (first | (go_at_call 49; exact Calls.quiet_of_same ((hc _).mono fun _ _ h => ⟨h.1, h.2.symm⟩)))
  go_wp2_with fail
  go_ret
  exact ⟨rfl, nq, rfl⟩

set_option maxHeartbeats 1000000 in
set_option maxRecDepth 100000 in
theorem reduce_any (M : Nat) (m : Md) (hg : Good m) (a : Nat) (ha : a < 18446744073709551616) (w : World) (hM : ModAt w M m) :
    Calls Try.prog 44 #[.pointer (some ⟨M, 0, none⟩), .int .u64 a] w fun e w' => e = .returned (.int .u64 (redB a m.p : Nat)) ∧ w = w' := by
  have c0 := hM.c0
  obtain ⟨b, hb'⟩ : ∃ b, b = m.p := ⟨_, rfl⟩
  have hb : b < 18446744073709551616 := by rw [hb']; have := hg.lt; omega
  rw [← hb'] at c0 ⊢
  clear hb' hM hg
  have hs := sub64_run a b
  have a0 := and_zero_u64 b hb
  have a1 := and_all_u64 b hb
  by_cases h : b ≤ a
  · rw [show redB a b = a - b by simp [redB, h]]
    rw [show (a + 18446744073709551616 - b) % 18446744073709551616 = a - b by omega, if_neg (by omega)] at hs
    go_enter Try.func44, Try.ntmps44
    go_wp2_with fail
    go_ret
    exact ⟨rfl, rfl⟩
  · rw [show redB a b = a by simp [redB, h]]
    rw [show (a + 18446744073709551616 - b) % 18446744073709551616 = a + 18446744073709551616 - b by omega, if_pos (by omega)] at hs
    obtain ⟨d, hd⟩ : ∃ d, d = a + 18446744073709551616 - b := ⟨_, rfl⟩
    rw [← hd] at hs
    have hw : IntKind.u64.wrap ((d : Int) + (b : Int)) = (a : Int) := by rw [IntKind.wrap_u64]; omega
    have hdl : d < 18446744073709551616 := by omega
    have hn1 : IntKind.u64.wrap (-1) = 18446744073709551615 := by rw [IntKind.wrap_u64]; rfl
    clear hd
    go_enter Try.func44, Try.ntmps44
    go_wp2_with fail
    go_ret
    exact ⟨rfl, rfl⟩

/-- mont. -/
def montR (m : Md) (a b : Nat) : Nat := redB (montL a b m.p m.inv) m.p

theorem lt_p64 (m : Md) (hg : Good m) (a b : Nat) (ha : a ≤ 4 * m.p) (hb : b ≤ m.p) : a * b < m.p * 18446744073709551616 := by
  have h1 : a * b ≤ 4 * m.p * m.p := Nat.mul_le_mul ha hb
  have h2 := hg.lt
  have h3 := hg.big
  have h4 : 4 * m.p * m.p < 18446744073709551616 * m.p := Nat.mul_lt_mul_of_pos_right (by omega) (by omega)
  rw [Nat.mul_comm m.p]; omega

theorem montR_lt (m : Md) (hg : Good m) (a b : Nat) (hab : a * b < m.p * 18446744073709551616) : montR m a b < m.p := by
  have := hg.big
  exact redB_lt _ _ (montL_lt a b m.p m.inv (by omega) hab)

theorem montR_eqm (m : Md) (hg : Good m) (a b : Nat) (hab : a * b < m.p * 18446744073709551616) : Eqm m.p ((montR m a b : Nat) * 18446744073709551616 : Int) ((a : Int) * b) :=
  ((redB_eqm _ m.p).mul (Eqm.refl _ _)).trans (montL_eqm a b m.p m.inv hab hg.inv)

set_option maxHeartbeats 1000000 in
set_option maxRecDepth 100000 in
theorem mont_any (M : Nat) (m : Md) (hg : Good m) (a b : Nat) (ha : a < 18446744073709551616) (hb : b < 18446744073709551616) (hab : a * b < m.p * 18446744073709551616) (w : World) (hM : ModAt w M m) :
    Calls Try.prog 47 #[.pointer (some ⟨M, 0, none⟩), .int .u64 a, .int .u64 b] w fun e w' => e = .returned (.int .u64 (montR m a b : Nat)) ∧ ∃ q, w' = w.drewN q := by
  have h1 := mLazy_any M m hg a b ha hb hab w hM
  have hl := montL_lt a b m.p m.inv (by have := hg.big; omega) hab
  have hlt := hg.lt
  have h2 := fun q => reduce_any M m hg (montL a b m.p m.inv) (by omega) (w.drewN q) (hM.same rfl)
  unfold montR
  obtain ⟨x, hx⟩ : ∃ x, x = montL a b m.p m.inv := ⟨_, rfl⟩
  rw [← hx] at h1 h2 ⊢
  clear hx hl hlt
  go_enter Try.func47, Try.ntmps47
  go_wp2_with fail
  refine h1.mono ?_
  rintro e wx ⟨rfl, q, rfl⟩
  go_wp2_with fail
  refine (h2 q).mono ?_
  rintro e wx ⟨rfl, rfl⟩
  go_wp2_with fail
  go_ret
  exact ⟨rfl, q, rfl⟩

set_option maxHeartbeats 1000000 in
set_option maxRecDepth 100000 in
theorem toMont_any (M : Nat) (m : Md) (hg : Good m) (a : Nat) (ha : a < m.p) (w : World) (hM : ModAt w M m) :
    Calls Try.prog 37 #[.pointer (some ⟨M, 0, none⟩), .int .u64 a] w fun e w' => e = .returned (.int .u64 (montR m a m.r2 : Nat)) ∧ ∃ q, w' = w.drewN q := by
  have c3 := hM.c3
  have hlt := hg.lt
  have hr : m.r2 < m.p := by rw [hg.r2]; exact Nat.mod_lt _ (by have := hg.big; omega)
  have h1 := mont_any M m hg a m.r2 (by omega) (by omega) (lt_p64 m hg _ _ (by omega) (by omega)) w hM
  go_enter Try.func37, Try.ntmps37
  go_wp2_with fail
  refine h1.mono ?_
  rintro e wx ⟨rfl, q, rfl⟩
  go_wp2_with fail
  go_ret
  exact ⟨rfl, q, rfl⟩

/-- toMont: times 2^64, modulo p. -/
theorem toMont_eqm (m : Md) (hg : Good m) (a : Nat) (ha : a < m.p) : Eqm m.p ((montR m a m.r2 : Nat) * 18446744073709551616 : Int) ((a : Int) * 2 ^ 128) := by
  have hr : m.r2 < m.p := by rw [hg.r2]; exact Nat.mod_lt _ (by have := hg.big; omega)
  refine (montR_eqm m hg a m.r2 (lt_p64 m hg _ _ (by omega) (by omega))).trans ((Eqm.refl _ _).mul ?_)
  rw [hg.r2]
  have := Eqm.of_mod (p := m.p) (a := 2 ^ 128)
  simpa using this

end Go.Proofs.Qxb6616212a
