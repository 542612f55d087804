import Derived.Test.Qxb6616212aKeep
namespace Go.Proofs.Qxb6616212a
open Go.RowKit

/-- what a store holds: nothing, or the twiddles g in the block I (and others in F). -/
abbrev Held := Option (Nat × Nat × (Nat → Nat))
def Sto (w : World) (K k : Nat) (m : Md) (o : Held) : Prop :=
  match o with
  | none => StoreL w K 0 (.slice none 0 0) (.slice none 0 0)
  | some v => StoreL w K 0 (.slice (some ⟨v.1, 0, none⟩) (2 ^ k) (2 ^ k)) (.slice (some ⟨v.2.1, 0, none⟩) (2 ^ k) (2 ^ k)) ∧ Row w v.2.1 (2 ^ k) v.2.2 ∧ Tw m k v.2.2

theorem Sto.kept {S : Nat → Prop} {w w' : World} {K k : Nat} {m : Md} {o : Held} (h : Sto w K k m o) (q : Kept S w w') (hK : ¬ S K) (hI : ∀ v, o = some v → ¬ S v.2.1) : Sto w' K k m o := by
  cases o with
  | none => exact StoreL.kept h q hK
  | some v => exact ⟨StoreL.kept h.1 q hK, h.2.1.kept q (hI v rfl), h.2.2⟩
theorem Sto.same {w w' : World} {K k : Nat} {m : Md} {o : Held} (h : Sto w K k m o) (e : w'.heap = w.heap) : Sto w' K k m o := by
  cases o with
  | none => unfold Sto StoreL at *; rw [e]; exact h
  | some v => exact ⟨by unfold StoreL; rw [e]; exact h.1, by unfold Row; rw [e]; exact h.2.1, h.2.2⟩
theorem Sto.lt {w : World} {K k : Nat} {m : Md} {o : Held} (h : Sto w K k m o) : K < w.heap.size := by
  cases o with
  | none => exact lt_of_heap h
  | some v => exact lt_of_heap h.1

/-- what the store holds behind a call that asks it for 2^k twiddles. -/
structure Got (w w' : World) (K k : Nat) (m : Md) (o : Held) (v : Nat × Nat × (Nat → Nat)) : Prop where
  sto : Sto w' K k m (some v)
  same : ∀ u, o = some u → v = u
  new : o = none → w.heap.size ≤ v.2.1
  kept : Kept (fun b => b = K) w w'

set_option maxHeartbeats 400000 in
set_option maxRecDepth 100000 in
theorem kept3_full (M : Nat) (m : Md) (n F I : Nat) (hn : n ≤ 21845) (hn0 : 0 < n) (w : World) (hM : ModAt w M m) (hS : StoreL w m.K3 0 (.slice (some ⟨F, 0, none⟩) (2 * n) (2 * n)) (.slice (some ⟨I, 0, none⟩) (2 * n) (2 * n))) :
    Calls Try.prog 42 #[.pointer (some ⟨M, 0, none⟩), .int .i64 n] w fun e w' => e = .returned (.tuple #[.slice (some ⟨F, 0, none⟩) (2 * n) (2 * n), .slice (some ⟨I, 0, none⟩) (2 * n) (2 * n)]) ∧
      StoreL w' m.K3 0 (.slice (some ⟨F, 0, none⟩) (2 * n) (2 * n)) (.slice (some ⟨I, 0, none⟩) (2 * n) (2 * n)) ∧ Kept (fun b => b = m.K3) w w' := by
  have hmf : ∀ (fn : Fn) (first cap : Array Value) (w : World), (Instr.makeFunc fn first cap).run Try.prog w = .ok (.func fn first cap) w := fun _ _ _ _ => rfl
  have hf := first_full m.K3 (2 * n) (3 * n) F I (.func (.func 54) #[.pointer (some ⟨M, 0, none⟩)] #[]) (by omega) (by omega) (by omega) w hS
  have c7 := hM.c7
  have e1 : ((2 * n : Nat) : Int) = 2 * (n : Int) := by omega
  have e2 : ((3 * n : Nat) : Int) = 3 * (n : Int) := by omega
  rw [e1, e2] at hf
  clear e1 e2
  go_enter Try.func42, Try.ntmps42
  go_wp2_with fail
  refine hf.mono ?_
  rintro e w2 ⟨rfl, r⟩
  go_wp2_with fail
  go_ret2
  exact ⟨rfl, r⟩

theorem kept_both (M : Nat) (m : Md) (hg : Good m) (k : Nat) (hk2 : 2 ≤ k) (hk : k ≤ 16) (w : World) (hM : ModAt w M m) (hMK : M ≠ m.K) (o : Held) (hS : Sto w m.K k m o) (hI : ∀ v, o = some v → v.2.1 ≠ m.K) :
    Calls Try.prog 40 #[.pointer (some ⟨M, 0, none⟩), .int .i64 (2 ^ k : Nat)] w fun e w' => ∃ v : Nat × Nat × (Nat → Nat), e = .returned (.tuple #[.slice (some ⟨v.1, 0, none⟩) (2 ^ k) (2 ^ k), .slice (some ⟨v.2.1, 0, none⟩) (2 ^ k) (2 ^ k)]) ∧ Got w w' m.K k m o v := by
  cases o with
  | none =>
    refine (kept_tw M m hg k hk2 (by omega) w hM hMK hS).mono ?_
    rintro e w' ⟨F, I, f, g, rfl, hs, _, hI, ht, _, _, hsz, hkp⟩
    exact ⟨(F, I, g), rfl, ⟨hs, hI, ht⟩, fun u h => by simp at h, fun _ => hsz, hkp⟩
  | some v =>
    have h2 : 2 ^ k ≤ 2 ^ 16 := Nat.pow_le_pow_right (by omega) hk
    refine (kept_full M m (2 ^ k) v.1 v.2.1 (by omega) (Nat.two_pow_pos k) w hM hS.1).mono ?_
    rintro e w' ⟨rfl, hs, hkp⟩
    exact ⟨v, rfl, ⟨hs, hS.2.1.kept hkp (hI v rfl), hS.2.2⟩, fun u h => by simpa using h, fun h => by simp at h, hkp⟩

theorem kept3_both (M : Nat) (m : Md) (hg : Good m) (k : Nat) (hk2 : 2 ≤ k) (hk : k ≤ 14) (w : World) (hM : ModAt w M m) (hMK : M ≠ m.K3) (o : Held) (hS : Sto w m.K3 (k + 1) m o) (hI : ∀ v, o = some v → v.2.1 ≠ m.K3) :
    Calls Try.prog 42 #[.pointer (some ⟨M, 0, none⟩), .int .i64 (2 ^ k : Nat)] w fun e w' => ∃ v : Nat × Nat × (Nat → Nat), e = .returned (.tuple #[.slice (some ⟨v.1, 0, none⟩) (2 ^ (k + 1)) (2 ^ (k + 1)), .slice (some ⟨v.2.1, 0, none⟩) (2 ^ (k + 1)) (2 ^ (k + 1))]) ∧ Got w w' m.K3 (k + 1) m o v := by
  cases o with
  | none =>
    refine (keptThird_tw M m hg k hk2 hk w hM hMK hS).mono ?_
    rintro e w' ⟨F, I, f, g, rfl, hs, _, hI, ht, _, _, hsz, hkp⟩
    exact ⟨(F, I, g), rfl, ⟨hs, hI, ht⟩, fun u h => by simp at h, fun _ => hsz, hkp⟩
  | some v =>
    have h2 : 2 ^ k ≤ 2 ^ 14 := Nat.pow_le_pow_right (by omega) hk
    have e : 2 ^ (k + 1) = 2 * 2 ^ k := by rw [Nat.pow_succ]; omega
    have hs1 := hS.1
    rw [e] at hs1
    have hc := kept3_full M m (2 ^ k) v.1 v.2.1 (by omega) (Nat.two_pow_pos k) w hM hs1
    rw [← e] at hc
    refine hc.mono ?_
    rintro e w' ⟨rfl, hs, hkp⟩
    exact ⟨v, rfl, ⟨hs, hS.2.1.kept hkp (hI v rfl), hS.2.2⟩, fun u h => by simpa using h, fun h => by simp at h, hkp⟩

end Go.Proofs.Qxb6616212a
