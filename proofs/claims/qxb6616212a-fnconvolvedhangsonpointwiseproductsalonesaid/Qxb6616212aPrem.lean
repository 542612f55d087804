import Derived.Test.Qxb6616212aModu
import Derived.Laws.MakeOwn
import Derived.BigQuiet
namespace Go.Proofs.Qxb6616212a
open Go.RowKit

/-! ### frames -/
/-- w' is w but for new blocks and the blocks in S. -/
structure Kept (S : Nat → Prop) (w w' : World) : Prop where
  os : w'.os = w.os
  tape : w'.tape = w.tape
  output : w'.output = w.output
  size : w.heap.size ≤ w'.heap.size
  block : ∀ k, k < w.heap.size → ¬ S k → w'.heap[k]? = w.heap[k]?

abbrev Kept0 := Kept (fun _ => False)

theorem Kept.refl (S : Nat → Prop) (w : World) : Kept S w w := ⟨rfl, rfl, rfl, Nat.le_refl _, fun _ _ _ => rfl⟩
theorem Kept.trans {S T : Nat → Prop} {a b c : World} (h : Kept S a b) (k : Kept T b c) (hT : ∀ i, i < a.heap.size → T i → S i) : Kept S a c :=
  ⟨k.os.trans h.os, k.tape.trans h.tape, k.output.trans h.output, Nat.le_trans h.size k.size,
   fun i hi hs => (k.block i (Nat.lt_of_lt_of_le hi h.size) (fun t => hs (hT i hi t))).trans (h.block i hi hs)⟩
theorem Kept.trans0 {a b c : World} (h : Kept0 a b) (k : Kept0 b c) : Kept0 a c := h.trans k (fun _ _ h => h)
theorem Kept.mono {S T : Nat → Prop} {a b : World} (h : Kept S a b) (hT : ∀ i, i < a.heap.size → S i → T i) : Kept T a b :=
  ⟨h.os, h.tape, h.output, h.size, fun i hi ht => h.block i hi (fun s => ht (hT i hi s))⟩
theorem Kept.setCell (w : World) (p : Addr) (u : Value) : Kept (fun k => k = p.block) w (w.setCell p u) :=
  ⟨rfl, rfl, rfl, by simp [World.setCell], fun k _ hk => Below.heap_setCell _ _ _ _ hk⟩
theorem Kept.alloc (w : World) (o : Obj) (S : Nat → Prop) : Kept S w (w.alloc o) :=
  ⟨rfl, rfl, rfl, by simp, fun k hk _ => Below.heap_alloc _ _ _ hk⟩
theorem Kept.below {S : Nat → Prop} {B : Nat} {w w' : World} (h : Kept S w w') (hB : B ≤ w.heap.size) (hS : ∀ k, k < B → ¬ S k) : Below B w w' :=
  ⟨h.os, h.tape, h.output, h.size, fun k hk => h.block k (by omega) (hS k hk)⟩
theorem Kept.undrew {S : Nat → Prop} {w w' : World} (h : Kept S w.drew w') : Kept S w w' := ⟨h.os, h.tape, h.output, h.size, h.block⟩
theorem Kept.drewR {S : Nat → Prop} {w w' : World} (h : Kept S w w') : Kept S w w'.drew := ⟨h.os, h.tape, h.output, h.size, h.block⟩
theorem Kept.drewNR {S : Nat → Prop} {w w' : World} (h : Kept S w w') (q : Nat) : Kept S w (w'.drewN q) := ⟨h.os, h.tape, h.output, h.size, h.block⟩
theorem lt_of_heap {w : World} {b : Nat} {o : Obj} (h : w.heap[b]? = some o) : b < w.heap.size := (Array.getElem?_eq_some_iff.1 h).1
theorem frozen_of_heap {w : World} {b : Nat} {cs : Array Value} {T : TypeId} (hb : w.heap[b]? = some (.cells cs T (0, 0))) (j : Nat) : w.frozen? ⟨b, j, none⟩ = false := by simp [World.frozen?, hb]
theorem cell_kept {S : Nat → Prop} {w0 wr : World} {p : Addr} {x : Value} (k : Kept S w0 wr) (hS : ¬ S p.block) (h : w0.cell? p = some x) : wr.cell? p = some x :=
  (World.cell?_of_block (w := w0) (k.block p.block (World.block_lt_of_cell? w0 _ h) hS)).trans h

/-! ### lengths -/
theorem bits_and_i64_nat (a b : Nat) (ha : a < 9223372036854775808) (hb : b < 9223372036854775808) :
    bits .and .i64 (a : Int) (b : Int) = ((a &&& b : Nat) : Int) := by
  have hx : a &&& b < 2 ^ 63 := Nat.and_lt_two_pow _ (by omega)
  have h1 : (BitVec.ofInt 64 (a : Int)).toNat = a := by
    rw [BitVec.ofInt_natCast, BitVec.toNat_ofNat]; exact Nat.mod_eq_of_lt (by omega)
  have h2 : (BitVec.ofInt 64 (b : Int)).toNat = b := by
    rw [BitVec.ofInt_natCast, BitVec.toNat_ofNat]; exact Nat.mod_eq_of_lt (by omega)
  show IntKind.i64.wrap ((BitVec.ofInt 64 (a : Int) &&& BitVec.ofInt 64 (b : Int)).toNat : Int) = _
  rw [BitVec.toNat_and, h1, h2, IntKind.wrap_i64]
  omega

theorem pow_of_and : ∀ h : Nat, 0 < h → h &&& (h - 1) = 0 → ∃ k, h = 2 ^ k := by
  intro h
  induction h using Nat.strongRecOn with
  | _ h ih =>
    intro h0 ha
    have hd : (h / 2) &&& ((h - 1) / 2) = 0 := by rw [← Nat.and_div_two, ha]
    by_cases hev : h % 2 = 0
    · rw [show (h - 1) / 2 = h / 2 - 1 by omega] at hd
      obtain ⟨k, hk⟩ := ih (h / 2) (by omega) (by omega) hd
      exact ⟨k + 1, by rw [Nat.pow_succ, ← hk]; omega⟩
    · rw [show (h - 1) / 2 = h / 2 by omega, Nat.and_self] at hd
      exact ⟨0, by simp; omega⟩

theorem and_of_pow (k : Nat) : 2 ^ k &&& (2 ^ k - 1) = 0 := by
  rw [Nat.and_two_pow_sub_one_eq_mod]; exact Nat.mod_self _

theorem and_of_three (k : Nat) : (3 * 2 ^ k) &&& (3 * 2 ^ k - 1) ≠ 0 := by
  intro h
  obtain ⟨j, hj⟩ := pow_of_and (3 * 2 ^ k) (by have := Nat.two_pow_pos k; omega) h
  have h3 : 3 ∣ 2 ^ j := ⟨2 ^ k, hj.symm⟩
  have : ∀ j, 2 ^ j % 3 = 1 ∨ 2 ^ j % 3 = 2 := by
    intro j
    induction j with
    | zero => simp
    | succ j ih => rw [Nat.pow_succ]; omega
  have := this j
  have := Nat.mod_eq_zero_of_dvd h3
  omega

/-- a transform's length. -/
def Len (n : Nat) : Prop := ∃ k, 2 ≤ k ∧ (n = 2 ^ k ∨ n = 3 * 2 ^ k)

def LenPost (n : Nat) (w : World) (e : Ending) (w' : World) : Prop := ∃ r, e = .returned (.bool r) ∧ w = w' ∧ (r = true → Len n)

theorem len_of (h : Nat) (h4 : 4 ≤ h) (ha : h &&& (h - 1) = 0) : ∃ k, 2 ≤ k ∧ h = 2 ^ k := by
  obtain ⟨k, hk⟩ := pow_of_and h (by omega) ha
  refine ⟨k, ?_, hk⟩
  rcases Nat.lt_or_ge k 2 with hlt | hge
  · exfalso
    match k, hlt with
    | 0, _ => simp at hk; omega
    | 1, _ => simp at hk; omega
  · exact hge

set_option maxRecDepth 100000 in
set_option maxHeartbeats 1000000 in
theorem lenOK_any (n : Nat) (hn : n ≤ 65536) (w : World) : Calls Try.prog 30 #[.int .i64 n] w (LenPost n w) := by
  obtain ⟨r, hr, ra, rb⟩ := rem_nat n 3
  simp only [Int.cast_ofNat_Int] at ra rb
  by_cases h3 : r = 0
  · subst h3
    obtain ⟨h, hh, ya, yb⟩ := quo_nat n 3
    have hnh : n = 3 * h := by omega
    clear hr
    simp only [Int.cast_ofNat_Int] at ya yb
    by_cases h4 : 4 ≤ h
    · have hb := bits_and_i64_nat h (h - 1) (by omega) (by omega)
      have e1 : ((h - 1 : Nat) : Int) = (h : Int) - 1 := by omega
      rw [e1] at hb
      obtain ⟨z, hz⟩ : ∃ z, z = h &&& (h - 1) := ⟨_, rfl⟩
      rw [← hz] at hb
      have HZ := hidd hz
      have HN := hidd hnh
      clear hz e1 hh hnh
      go_enter Try.func30, Try.ntmps30
      go_wp2_with fail
      go_ret
      refine ⟨_, rfl, rfl, fun hr => ?_⟩
      have : z = 0 := by simpa using hr
      rw [HZ.out] at this
      obtain ⟨k, hk, he⟩ := len_of h h4 this
      exact ⟨k, hk, Or.inr (by rw [← he]; exact HN.out)⟩
    · clear hh hnh
      go_enter Try.func30, Try.ntmps30
      go_wp2_with fail
      go_ret
      exact ⟨false, rfl, rfl, by simp⟩
  · have hrf : ((r : Int) == 0) = false := by simp; omega
    clear hr
    by_cases h4 : 4 ≤ n
    · have hb := bits_and_i64_nat n (n - 1) (by omega) (by omega)
      have e1 : ((n - 1 : Nat) : Int) = (n : Int) - 1 := by omega
      rw [e1] at hb
      obtain ⟨z, hz⟩ : ∃ z, z = n &&& (n - 1) := ⟨_, rfl⟩
      rw [← hz] at hb
      have HZ := hidd hz
      clear hz e1
      go_enter Try.func30, Try.ntmps30
      go_wp2_with fail
      go_ret
      refine ⟨_, rfl, rfl, fun hr => ?_⟩
      have : z = 0 := by simpa using hr
      rw [HZ.out] at this
      obtain ⟨k, hk, he⟩ := len_of n h4 this
      exact ⟨k, hk, Or.inl he⟩
    · go_enter Try.func30, Try.ntmps30
      go_wp2_with fail
      go_ret
      exact ⟨false, rfl, rfl, by simp⟩

/-! ### the modulus -/
structure ModOK (p root inv r2 cube cubeInverse : Nat) : Prop where
  lt : p < 4611686018427387904
  big : 12884901888 < p
  odd : p % 2 = 1
  inv : inv * p % 18446744073709551616 = 1
  two : 2 ^ (p - 1) % p = 1
  three : 3 ^ (p - 1) % p = 1
  root : root < p
  r2 : r2 = 2 ^ 128 % p
  cube : cube < p
  cubeInverse : cubeInverse < p

def ModPost (p root inv r2 cube cubeInverse : Nat) (w : World) (e : Ending) (w' : World) : Prop := ∃ r, e = .returned (.bool r) ∧ Kept0 w w' ∧ (r = true → ModOK p root inv r2 cube cubeInverse)

theorem mul_wrap (a b : Nat) : ∃ z : Nat, z = a * b % 18446744073709551616 ∧ IntKind.u64.wrap ((a : Int) * (b : Int)) = (z : Int) ∧ z < 18446744073709551616 := by
  refine ⟨_, rfl, ?_, Nat.mod_lt _ (by decide)⟩
  rw [IntKind.wrap_u64, ← Int.natCast_mul]; omega

set_option maxRecDepth 100000 in
set_option maxHeartbeats 2000000 in
theorem modOK_any (p root inv r2 cube cubeInverse : Nat) (hp : p < 18446744073709551616) (hroot : root < 18446744073709551616) (_hinv : inv < 18446744073709551616) (_hr2 : r2 < 18446744073709551616)
    (_hcu : cube < 18446744073709551616) (_hci : cubeInverse < 18446744073709551616) (w : World) :
    Calls Try.prog 31 #[.int .u64 p, .int .u64 root, .int .u64 inv, .int .u64 r2, .int .u64 cube, .int .u64 cubeInverse] w (ModPost p root inv r2 cube cubeInverse w) := by
  by_cases h1 : 4611686018427387904 ≤ p
  · have hd : decide ((4611686018427387904 : Int) ≤ (p : Int)) = true := by simp; omega
    go_enter Try.func31, Try.ntmps31
    go_wp2_with fail
    go_ret
    exact ⟨false, rfl, Kept.refl _ _, by simp⟩
  have hd : decide ((4611686018427387904 : Int) ≤ (p : Int)) = false := by simp; omega
  by_cases h2 : p < 3
  · go_enter Try.func31, Try.ntmps31
    go_wp2_with fail
    go_ret
    exact ⟨false, rfl, Kept.refl _ _, by simp⟩
  clear hd
  obtain ⟨E, rfl⟩ : ∃ E, p = E + 1 := ⟨p - 1, by omega⟩
  have hd : decide ((4611686018427387904 : Int) ≤ (E : Int) + 1) = false := by simp; omega
  obtain ⟨r, hr, ra, rb⟩ := rem_nat E 12884901888
  simp only [Int.cast_ofNat_Int] at ra rb
  by_cases h3 : ¬ (r = 0)
  · have hrf : ((r : Int) == 0) = false := by simp; omega
    have hrf2 : ((r : Int) != 0) = true := by simp; omega
    clear hr
    go_enter Try.func31, Try.ntmps31
    go_wp2_with fail
    go_ret
    exact ⟨false, rfl, Kept.refl _ _, by simp⟩
  replace h3 := Classical.not_not.1 h3
  subst h3
  have hbig : 12884901888 ≤ E ∧ E % 2 = 0 := by omega
  obtain ⟨hbig, hev⟩ := hbig
  clear hr
  obtain ⟨z, hz, za, zb⟩ := mul_wrap inv (E + 1)
  have zc : IntKind.u64.wrap ((inv : Int) * ((E : Int) + 1)) = (z : Int) := by rw [← za, Int.natCast_add]; rfl
  by_cases h4 : ¬ (z = 1)
  · have hzf : ((z : Int) == 1) = false := by simp; omega
    clear hz za
    go_enter Try.func31, Try.ntmps31
    go_wp2_with fail
    go_ret
    exact ⟨false, rfl, Kept.refl _ _, by simp⟩
  replace h4 := Classical.not_not.1 h4
  subst h4
  have HI := hidd hz
  clear hz za
  have hP := isPrime_any (E + 1) (by omega) (by omega) (by omega)
  have hQ := fun h => primitive_any root E (by omega) hbig h
  have hW1 := powMod_any 2 128 (E + 1) (by omega) (by omega) (by omega) (by omega)
  have hW2 := powMod_any 2 64 (E + 1) (by omega) (by omega) (by omega) (by omega)
  obtain ⟨y, hy, ya, yb⟩ := quo_nat E 3
  have hyb : y ≤ E := by omega
  have hW3 := fun h => powMod_any root y (E + 1) (by omega) (by omega) h (by omega)
  obtain ⟨R2, hR2⟩ : ∃ x, x = 2 ^ 128 % (E + 1) := ⟨_, rfl⟩
  obtain ⟨RR, hRR⟩ : ∃ x, x = 2 ^ 64 % (E + 1) := ⟨_, rfl⟩
  obtain ⟨C, hC⟩ : ∃ x, x = root ^ y % (E + 1) := ⟨_, rfl⟩
  rw [← hR2] at hW1
  rw [← hRR] at hW2
  rw [← hC] at hW3
  have hCp : C < E + 1 := by rw [hC]; exact Nat.mod_lt _ (by omega)
  have hRp : RR < E + 1 := by rw [hRR]; exact Nat.mod_lt _ (by omega)
  have hM1 := mulMod_any C RR (E + 1) (by omega) hCp (by omega)
  have hM2 := mulMod_any C C (E + 1) (by omega) hCp (by omega)
  obtain ⟨A, hA⟩ : ∃ x, x = C * RR % (E + 1) := ⟨_, rfl⟩
  obtain ⟨B, hB⟩ : ∃ x, x = C * C % (E + 1) := ⟨_, rfl⟩
  have hAp : A < E + 1 := by rw [hA]; exact Nat.mod_lt _ (by omega)
  have hBp : B < E + 1 := by rw [hB]; exact Nat.mod_lt _ (by omega)
  rw [← hA] at hM1
  rw [← hB] at hM2
  have hM3 := mulMod_any B RR (E + 1) (by omega) hBp (by omega)
  obtain ⟨D, hD⟩ : ∃ x, x = B * RR % (E + 1) := ⟨_, rfl⟩
  have hDp : D < E + 1 := by rw [hD]; exact Nat.mod_lt _ (by omega)
  rw [← hD] at hM3
  have HR2 := hidd hR2
  clear hR2 hRR hC hA hB hD hy
  simp only [Int.natCast_add, Int.cast_ofNat_Int] at hP hQ hW1 hW2 hW3 hM1 hM2 hM3 ya yb
  by_cases h5 : root = 0
  · subst h5
    go_enter Try.func31, Try.ntmps31
    go_wp2_with fail
    refine (hP _).mono ?_
    rintro e w1 ⟨r, o, rfl, rfl, -⟩
    cases r with
    | false =>
      go_wp2_with fail
      go_ret
      exact ⟨false, rfl, Kept.alloc _ _ _, by simp⟩
    | true =>
      go_wp2_with fail
      go_ret
      exact ⟨false, rfl, Kept.alloc _ _ _, by simp⟩
  have h5f : ((root : Int) == 0) = false := by simp; omega
  by_cases h6 : E + 1 ≤ root
  · go_enter Try.func31, Try.ntmps31
    go_wp2_with fail
    refine (hP _).mono ?_
    rintro e w1 ⟨r, o, rfl, rfl, -⟩
    cases r with
    | false =>
      go_wp2_with fail
      go_ret
      exact ⟨false, rfl, Kept.alloc _ _ _, by simp⟩
    | true =>
      go_wp2_with fail
      go_ret
      exact ⟨false, rfl, Kept.alloc _ _ _, by simp⟩
  have hQ' := hQ (by omega)
  have hW3' := hW3 (by omega)
  clear hQ hW3
  go_enter Try.func31, Try.ntmps31
  go_wp2_with fail
  refine (hP _).mono ?_
  rintro e w1 ⟨r, o, rfl, rfl, hpr⟩
  obtain ⟨W, hW⟩ : ∃ W, W = w.alloc o := ⟨_, rfl⟩
  rw [← hW]
  have kW : Kept0 w W := by rw [hW]; exact Kept.alloc _ _ _
  clear hW hP
  cases r with
  | false =>
    clear hpr
    go_wp2_with fail
    go_ret
    exact ⟨false, rfl, kW, by simp⟩
  | true =>
    obtain ⟨hp2, hp3⟩ := hpr rfl
    have HP2 := hidd hp2
    have HP3 := hidd hp3
    clear hpr hp2 hp3
    go_wp2_with fail
    refine (hQ' _).mono ?_
    rintro e wx ⟨r, rfl, rfl⟩
    clear hQ'
    cases r with
    | false =>
      go_wp2_with fail
      go_ret
      exact ⟨false, rfl, kW, by simp⟩
    | true =>
      go_wp2_with fail
      refine (hW1 _).mono ?_
      rintro e wx ⟨rfl, rfl⟩
      clear hW1
      by_cases h7 : ¬ (r2 = R2)
      · have h7f : ((r2 : Int) == (R2 : Int)) = false := by simp; omega
        go_wp2_with fail
        go_ret
        exact ⟨false, rfl, kW, by simp⟩
      replace h7 := Classical.not_not.1 h7
      subst h7
      go_wp2_with fail
      refine (hW3' _).mono ?_
      rintro e wx ⟨rfl, rfl⟩
      clear hW3'
      go_wp2_with fail
      refine (hW2 _).mono ?_
      rintro e wx ⟨rfl, rfl⟩
      clear hW2
      by_cases h8 : ¬ (cube = A)
      · have h8f : ((cube : Int) == (A : Int)) = false := by simp; omega
        go_wp2_with fail
        refine (hM1 _).mono ?_
        rintro e wx ⟨rfl, rfl⟩
        go_wp2_with fail
        go_ret
        exact ⟨false, rfl, kW, by simp⟩
      replace h8 := Classical.not_not.1 h8
      subst h8
      go_wp2_with fail
      refine (hM1 _).mono ?_
      rintro e wx ⟨rfl, rfl⟩
      clear hM1
      go_wp2_with fail
      refine (hM2 _).mono ?_
      rintro e wx ⟨rfl, rfl⟩
      clear hM2
      go_wp2_with fail
      refine (hM3 _).mono ?_
      rintro e wx ⟨rfl, rfl⟩
      clear hM3
      go_wp2_with fail
      go_ret
      refine ⟨_, rfl, kW, fun hr => ?_⟩
      have h9 : (cubeInverse : Int) = (D : Int) := by simpa using hr
      exact ⟨by omega, by omega, by omega, HI.out.symm, HP2.out, HP3.out, by omega, HR2.out, hAp, by omega⟩

/-! ### slices of words -/
/-- a slice of n words; word i is x i. -/
def Words (w : World) (ao : Option Addr) (n : Nat) (x : Nat → Nat) : Prop :=
  0 < n → ∃ b off, ao = some ⟨b, off, none⟩ ∧ b < w.heap.size ∧ ∀ i, i < n → w.cell? ⟨b, off + i, none⟩ = some (.int .u64 (x i))

theorem Words.kept {w w' : World} {ao : Option Addr} {n : Nat} {x : Nat → Nat} (h : Words w ao n x) (k : Kept0 w w') : Words w' ao n x := by
  intro h0
  obtain ⟨b, off, e, hb, hc⟩ := h h0
  exact ⟨b, off, e, Nat.lt_of_lt_of_le hb k.size, fun i hi => cell_kept k (fun h => h) (hc i hi)⟩

def PremPost (p root inv r2 cube cubeInverse n m : Nat) (x y : Nat → Nat) (w : World) (e : Ending) (w' : World) : Prop :=
  ∃ r, e = .returned (.bool r) ∧ Kept0 w w' ∧ (r = true → n = m ∧ Len n ∧ ModOK p root inv r2 cube cubeInverse ∧ (∀ i, i < n → x i < 2 * p) ∧ (∀ i, i < n → y i < 2 * p))

theorem Len.pos {n : Nat} (h : Len n) : 4 ≤ n := by
  obtain ⟨k, hk, h⟩ := h
  have : 2 ^ 2 ≤ 2 ^ k := Nat.pow_le_pow_right (by omega) hk
  omega

set_option maxRecDepth 100000 in
set_option maxHeartbeats 2000000 in
theorem prem_any (p root inv r2 cube cubeInverse : Nat) (hp : p < 18446744073709551616) (hroot : root < 18446744073709551616) (hinv : inv < 18446744073709551616) (hr2 : r2 < 18446744073709551616)
    (hcu : cube < 18446744073709551616) (hci : cubeInverse < 18446744073709551616) (ao bo : Option Addr) (n m ca cb : Nat) (x y : Nat → Nat) (hn : n ≤ 65536) (hm : m ≤ 65536) (w : World)
    (hx : Words w ao n x) (hy : Words w bo m y) (hxb : ∀ i, i < n → x i < 18446744073709551616) (hyb : ∀ i, i < m → y i < 18446744073709551616) :
    Calls Try.prog 17 #[.int .u64 p, .int .u64 root, .int .u64 inv, .int .u64 r2, .int .u64 cube, .int .u64 cubeInverse, .slice ao n ca, .slice bo m cb] w (PremPost p root inv r2 cube cubeInverse n m x y w) := by
  have hM := modOK_any p root inv r2 cube cubeInverse hp hroot hinv hr2 hcu hci
  have hL := lenOK_any n hn
  by_cases h1 : ¬ n = m
  · have h1f : ((n : Int) == (m : Int)) = false := by simp; omega
    have h1g : ((n : Int) != (m : Int)) = true := by simp; omega
    clear hM hL
    go_enter Try.func17, Try.ntmps17
    go_wp2_with fail
    go_ret
    exact ⟨false, rfl, Kept.refl _ _, by simp⟩
  replace h1 := Classical.not_not.1 h1
  subst h1
  go_enter Try.func17, Try.ntmps17
  go_wp2_with fail
  refine (hL _).mono ?_
  rintro e wx ⟨r, rfl, rfl, hr⟩
  cases r with
  | false =>
    clear hr hM hL
    go_wp2_with fail
    go_ret
    exact ⟨false, rfl, Kept.refl _ _, by simp⟩
  | true =>
    have HL := hr rfl
    clear hr hL
    go_wp2_with fail
    refine (hM _).mono ?_
    rintro e w1 ⟨r, rfl, k1, hr⟩
    clear hM
    cases r with
    | false =>
      clear hr
      go_wp2_with fail
      go_ret
      exact ⟨false, rfl, k1, by simp⟩
    | true =>
      have HM := hr rfl
      have hp2 := HM.lt
      have hx1 := hx.kept k1
      have hy1 := hy.kept k1
      clear hr hx hy
      have hn4 := HL.pos
      obtain ⟨xb, xo, rfl, _, xc⟩ := hx1 (by omega)
      obtain ⟨yb, yo, rfl, _, yc⟩ := hy1 (by omega)
      go_wp2_with fail
      go_loop [17] (fun i => ∃ k : Nat, k ≤ n ∧ i = .int .i64 k ∧ Hid (∀ i, i < k → x i < 2 * p) ∧ Hid (∀ i, i < k → y i < 2 * p)) (fun i => n - (intOf i).toNat)
      case atStart => exact ⟨0, by omega, rfl, fun i hi => by omega, fun i hi => by omega⟩
      case round =>
        obtain ⟨k, hk, rfl, HX, HY⟩ := hrel
        by_cases hlt : k < n
        · have xk := xc k hlt
          have yk := yc k hlt
          have xkb := hxb k hlt
          have ykb := hyb k hlt
          clear xc yc hxb hyb
          by_cases g1 : 2 * p ≤ x k
          · go_wp2_with fail
            go_ret
            exact ⟨false, rfl, k1, by simp⟩
          by_cases g2 : 2 * p ≤ y k
          · go_wp2_with fail
            go_ret
            exact ⟨false, rfl, k1, by simp⟩
          go_wp2_with fail
          go_round
          case rel => exact ⟨k + 1, by omega, by go_num, fun i hi => (Nat.lt_succ_iff_lt_or_eq.1 hi).elim (HX.out i) (fun h => by subst h; omega), fun i hi => (Nat.lt_succ_iff_lt_or_eq.1 hi).elim (HY.out i) (fun h => by subst h; omega)⟩
          case measure => simp [intOf]; omega
        · have hkn : n = k := by omega
          subst hkn
          go_wp2_with fail
          go_ret
          exact ⟨true, rfl, k1, fun _ => ⟨rfl, HL, HM, HX.out, HY.out⟩⟩

end Go.Proofs.Qxb6616212a
