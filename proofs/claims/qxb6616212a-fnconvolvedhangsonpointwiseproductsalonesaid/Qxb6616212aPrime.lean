import Derived.Test.Qxb6616212aScal
import Derived.Laws.Rows
namespace Go.Proofs.Qxb6616212a
open Go.RowKit

/-- the first twelve primes. -/
def bases : List Nat := [2, 3, 5, 7, 11, 13, 17, 19, 23, 29, 31, 37]
def base (k : Nat) : Nat := bases.getD k 2
theorem base_two : base 0 = 2 := rfl
theorem base_three : base 1 = 3 := rfl
theorem base_le (k : Nat) : 2 ≤ base k ∧ base k ≤ 37 := by
  unfold base
  by_cases h : k < 12
  · have : ∀ k : Fin 12, 2 ≤ bases.getD k.val 2 ∧ bases.getD k.val 2 ≤ 37 := by decide
    exact this ⟨k, h⟩
  · rw [List.getD_eq_getElem?_getD, List.getElem?_eq_none (by show 12 ≤ k; omega)]
    exact ⟨Nat.le_refl _, by decide⟩

theorem sq_minus_one (p : Nat) (h : 1 < p) : (p - 1) * (p - 1) % p = 1 := by
  obtain ⟨q, rfl⟩ : ∃ q, p = q + 2 := ⟨p - 2, by omega⟩
  have : (q + 2 - 1) * (q + 2 - 1) = 1 + (q + 2) * q := by
    rw [show q + 2 - 1 = q + 1 by omega]
    simp only [Nat.add_mul, Nat.mul_add]; omega
  rw [this, Nat.add_mul_mod_self_left, Nat.mod_eq_of_lt (by omega)]

theorem pow_of_one (g p a k : Nat) (h1 : 1 < p) (h : g ^ a % p = 1) : g ^ (a * k) % p = 1 := by
  rw [Nat.pow_mul, Nat.pow_mod, h, Nat.one_pow, Nat.mod_eq_of_lt h1]

theorem mr_one (g p d s : Nat) (h1 : 1 < p) (hd : d * 2 ^ s = p - 1) (h : g ^ d % p = 1) : g ^ (p - 1) % p = 1 := by
  rw [← hd]; exact pow_of_one g p d _ h1 h

theorem mr_end (g p d s m : Nat) (h1 : 1 < p) (hd : d * 2 ^ s = p - 1) (hm : m < s) (h : g ^ (d * 2 ^ m) % p = p - 1) : g ^ (p - 1) % p = 1 := by
  have h2 : g ^ (d * 2 ^ (m + 1)) % p = 1 := by
    rw [Nat.pow_succ, ← Nat.mul_assoc, Nat.mul_two, Nat.pow_add, Nat.mul_mod, h, sq_minus_one p h1]
  have e : d * 2 ^ s = d * 2 ^ (m + 1) * 2 ^ (s - (m + 1)) := by
    rw [Nat.mul_assoc, ← Nat.pow_add]; congr 2; omega
  rw [← hd, e]
  exact pow_of_one g p _ _ h1 h2

theorem mr_step (g p d j : Nat) (x : Nat) (hx : x = g ^ (d * 2 ^ j) % p) : x * x % p = g ^ (d * 2 ^ (j + 1)) % p := by
  rw [Nat.pow_succ, ← Nat.mul_assoc, Nat.mul_two, Nat.pow_add, hx, ← Nat.mul_mod]

theorem cell_of_heap {w : World} {b : Nat} {cs : Array Value} {T : TypeId} {fr : Nat × Nat} (hb : w.heap[b]? = some (.cells cs T fr)) (j : Nat) : w.cell? ⟨b, j, none⟩ = cs[j]? := by simp [World.cell?, hb]

def PrimePost (p : Nat) (w : World) (e : Ending) (w' : World) : Prop := ∃ r o, e = .returned (.bool r) ∧ w' = World.alloc w o ∧ (r = true → 2 ^ (p - 1) % p = 1 ∧ 3 ^ (p - 1) % p = 1)

set_option maxRecDepth 100000 in
set_option maxHeartbeats 4000000 in
theorem isPrime_any (p : Nat) (hp : p < 4611686018427387904) (h37 : 37 < p) (hodd : p % 2 = 1) (w : World) :
    Calls Try.prog 35 #[.int .u64 p] w (PrimePost p w) := by
  go_enter Try.func35, Try.ntmps35
  go_wp2_with fail
  obtain ⟨w1, hw1⟩ : ∃ w1, w1 = w.alloc (Obj.cells #[Value.int IntKind.u64 2, Value.int IntKind.u64 3, Value.int IntKind.u64 5, Value.int IntKind.u64 7, Value.int IntKind.u64 11, Value.int IntKind.u64 13, Value.int IntKind.u64 17, Value.int IntKind.u64 19, Value.int IntKind.u64 23, Value.int IntKind.u64 29, Value.int IntKind.u64 31, Value.int IntKind.u64 37] 92) := ⟨_, rfl⟩
  rw [← hw1]
  have hc : ∀ k, k < 12 → w1.cell? ⟨w.heap.size, k, none⟩ = some (.int .u64 (base k)) := by
    intro k hk
    have hh : w1.heap[w.heap.size]? = some (Obj.cells #[Value.int IntKind.u64 2, Value.int IntKind.u64 3, Value.int IntKind.u64 5, Value.int IntKind.u64 7, Value.int IntKind.u64 11, Value.int IntKind.u64 13, Value.int IntKind.u64 17, Value.int IntKind.u64 19, Value.int IntKind.u64 23, Value.int IntKind.u64 29, Value.int IntKind.u64 31, Value.int IntKind.u64 37] 92) := by rw [hw1]; exact heap_alloc_new w _
    rw [cell_of_heap hh]
    match k, hk with
    | 0, _ => rfl
    | 1, _ => rfl
    | 2, _ => rfl
    | 3, _ => rfl
    | 4, _ => rfl
    | 5, _ => rfl
    | 6, _ => rfl
    | 7, _ => rfl
    | 8, _ => rfl
    | 9, _ => rfl
    | 10, _ => rfl
    | 11, _ => rfl
  have HW := hidd hw1
  clear hw1
  go_loop [4] (fun i => ∃ k : Nat, k ≤ 12 ∧ i = .int .i64 k) (fun i => 12 - (intOf i).toNat)
  case atStart => exact ⟨0, by omega, rfl⟩
  case round =>
    obtain ⟨k, hk, rfl⟩ := hrel
    by_cases hlt : k < 12
    · have hck := hc k hlt
      obtain ⟨b1, b2⟩ := base_le k
      obtain ⟨b, hb⟩ : ∃ b, b = base k := ⟨_, rfl⟩
      rw [← hb] at hck b1 b2
      clear hb hc
      have hne : ((p : Int) == (b : Int)) = false := by simp; omega
      have hb0 : b ≠ 0 := by omega
      by_cases hdv : p % b = 0
      · have hdv' : (p : Int).tmod (b : Int) = 0 := by rw [Int.tmod_eq_emod_of_nonneg (by omega)]; omega
        go_wp2
        go_ret
        exact ⟨false, _, rfl, HW.out, by simp⟩
      · have hdv' : ((p : Int).tmod (b : Int) == 0) = false := by rw [Int.tmod_eq_emod_of_nonneg (by omega)]; simp; omega
        go_wp2
        go_round
        case rel => exact ⟨k + 1, by omega, by go_num⟩
        case measure => simp [intOf]; omega
    · have : k = 12 := by omega
      subst this
      clear hlt hk
      go_wp2_with fail
      go_loop [5, 6] (fun d s => ∃ (D S : Nat), d = .int .u64 D ∧ s = .int .i64 S ∧ D < p ∧ S ≤ 62 ∧ 0 < D ∧ Hid (D * 2 ^ S = p - 1)) (fun d _ => (intOf d).toNat)
      case atStart => exact ⟨p - 1, 0, by go_num, rfl, by omega, by omega, by omega, by show _ = _; simp⟩
      case round =>
        obtain ⟨D, S, rfl, rfl, hD, hS, hD0, HD⟩ := hrel
        by_cases hev : D % 2 = 0
        · have hS62 : S + 1 ≤ 62 := by
            rcases Nat.lt_or_ge S 62 with h | h
            · omega
            · have : S = 62 := by omega
              subst this
              have := HD.out
              have h2 : D * 2 ^ 62 ≥ 1 * 2 ^ 62 := Nat.mul_le_mul_right _ hD0
              omega
          have hD2 : Hid (D / 2 * 2 ^ (S + 1) = p - 1) := by
            show _ = _
            rw [← HD.out, Nat.pow_succ, Nat.mul_comm (2 ^ S) 2, ← Nat.mul_assoc]
            congr 1; omega
          have hev1 : (D : Int).tmod 2 = 0 := by rw [Int.tmod_eq_emod_of_nonneg (by omega)]; omega
          have hev2 : (D : Int).tdiv 2 = ((D / 2 : Nat) : Int) := by rw [Int.tdiv_eq_ediv_of_nonneg (by omega)]; omega
          go_wp2
          go_round
          case rel => exact ⟨D / 2, S + 1, by go_num, by go_num, by omega, by omega, by omega, hD2⟩
          case measure => simp [intOf]; omega
        · have hev1 : ((D : Int).tmod 2 == 0) = false := by rw [Int.tmod_eq_emod_of_nonneg (by omega)]; simp; omega
          have hS1 : 1 ≤ S := by
            rcases Nat.eq_zero_or_pos S with h | h
            · subst h
              have := HD.out
              simp at this
              omega
            · exact h
          go_wp2_with fail
          go_loop [7] (fun i => ∃ k : Nat, k ≤ 12 ∧ i = .int .i64 k ∧ Hid (∀ j, j < k → base j ^ (p - 1) % p = 1)) (fun i => 12 - (intOf i).toNat)
          case atStart => exact ⟨0, by omega, rfl, fun j hj => by omega⟩
          case round =>
            obtain ⟨k, hk, rfl, HB⟩ := hrel
            by_cases hlt : k < 12
            · have hck := hc k hlt
              obtain ⟨b1, b2⟩ := base_le k
              have hsn : Hid (base k ^ (p - 1) % p = 1 → ∀ j, j < k + 1 → base j ^ (p - 1) % p = 1) := by
                intro h j hj
                rcases Nat.lt_succ_iff_lt_or_eq.1 hj with h' | h'
                · exact HB.out j h'
                · rw [h']; exact h
              obtain ⟨b, hb⟩ : ∃ b, b = base k := ⟨_, rfl⟩
              rw [← hb] at hck b1 b2 hsn
              clear hb hc HB
              have m1 := powMod_any b D p hp (by omega) (by omega) (by omega)
              obtain ⟨x, hx⟩ : ∃ x, x = b ^ D % p := ⟨_, rfl⟩
              have hxp : x < p := by rw [hx]; exact Nat.mod_lt _ (by omega)
              rw [← hx] at m1
              have HX := hidd hx
              clear hx
              by_cases hx1 : x = 1
              · have hg : Hid (b ^ (p - 1) % p = 1) := mr_one b p D S (by omega) HD.out (by rw [← HX.out]; exact hx1)
                have hx1' : ((x : Int) == 1) = true := by simp; omega
                go_wp2_with fail
                refine (m1 _).mono ?_
                rintro e wx ⟨rfl, rfl⟩
                go_wp2_with fail
                go_round
                case rel => exact ⟨k + 1, by omega, by go_num, hsn.out hg.out⟩
                case measure => simp [intOf]; omega
              · have hx1' : ((x : Int) == 1) = false := by simp; omega
                by_cases hx2 : x = p - 1
                · have hg : Hid (b ^ (p - 1) % p = 1) := mr_end b p D S 0 (by omega) HD.out (by omega) (by rw [Nat.pow_zero, Nat.mul_one, ← HX.out]; exact hx2)
                  have hx2' : ((x : Int) == (p : Int) - 1) = true := by simp; omega
                  clear hx2 hx1
                  go_wp2_with fail
                  refine (m1 _).mono ?_
                  rintro e wx ⟨rfl, rfl⟩
                  go_wp2_with fail
                  go_round
                  case rel => exact ⟨k + 1, by omega, by go_num, hsn.out hg.out⟩
                  case measure => simp [intOf]; omega
                · have hx2' : ((x : Int) == (p : Int) - 1) = false := by simp; omega
                  go_wp2_with fail
                  refine (m1 _).mono ?_
                  rintro e wx ⟨rfl, rfl⟩
                  go_wp2_with fail
                  clear m1 hx1 hx1' hx2 hx2'
                  go_loop [8, 9, 10] (fun y c j => ∃ (Y J : Nat), c = .bool true ∧ y = .int .u64 Y ∧ j = .int .i64 J ∧ Y < p ∧ 1 ≤ J ∧ J ≤ S ∧ Hid (Y = b ^ (D * 2 ^ (J - 1)) % p)) (fun _ _ j => S - (intOf j).toNat)
                  case atStart => exact ⟨x, 1, rfl, rfl, rfl, hxp, by omega, by omega, by show _ = _; rw [HX.out]; simp⟩
                  case round =>
                    obtain ⟨Y, J, rfl, rfl, rfl, hY, hJ1, hJ2, HY⟩ := hrel
                    by_cases hJ : J < S
                    · have m2 := mulMod_any Y Y p hp hY (by omega)
                      have hst := mr_step b p D (J - 1) Y HY.out
                      rw [Nat.sub_add_cancel hJ1] at hst
                      obtain ⟨Z, hZ⟩ : ∃ Z, Z = Y * Y % p := ⟨_, rfl⟩
                      have hZp : Z < p := by rw [hZ]; exact Nat.mod_lt _ (by omega)
                      rw [← hZ] at m2 hst
                      have HZ := hidd hst
                      clear hst hZ
                      by_cases hz : Z = p - 1
                      · have hg : Hid (b ^ (p - 1) % p = 1) := mr_end b p D S J (by omega) HD.out hJ (by rw [← HZ.out]; exact hz)
                        have hz' : ((Z : Int) == (p : Int) - 1) = true := by simp; omega
                        clear hz
                        go_wp2_with fail
                        refine (m2 _).mono ?_
                        rintro e wx ⟨rfl, rfl⟩
                        go_wp2_with fail
                        go_round
                        case rel => exact ⟨k + 1, by omega, by go_num, hsn.out hg.out⟩
                        case measure => simp [intOf]; omega
                      · have hz' : ((Z : Int) == (p : Int) - 1) = false := by simp; omega
                        go_wp2_with fail
                        refine (m2 _).mono ?_
                        rintro e wx ⟨rfl, rfl⟩
                        go_wp2_with fail
                        go_round
                        case rel => exact ⟨Z, J + 1, rfl, rfl, by go_num, hZp, by omega, by omega, by show _ = _; rw [Nat.add_sub_cancel]; exact HZ.out⟩
                        case measure => simp [intOf]; omega
                    · go_wp2_with fail
                      go_ret
                      exact ⟨false, _, rfl, HW.out, by simp⟩
            · have : k = 12 := by omega
              subst this
              go_wp2_with fail
              go_ret
              exact ⟨true, _, rfl, HW.out, fun _ => ⟨HB.out 0 (by omega), HB.out 1 (by omega)⟩⟩

end Go.Proofs.Qxb6616212a
