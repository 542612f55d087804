import Derived.Test.Qxb6616212aFirst3
namespace Go.Proofs.Qxb6616212a
open Go.RowKit

set_option maxHeartbeats 400000 in
set_option maxRecDepth 100000 in
theorem kept_full (M : Nat) (m : Md) (n F I : Nat) (hn : n ≤ 131072) (hn0 : 0 < n) (w : World) (hM : ModAt w M m) (hS : StoreL w m.K 0 (.slice (some ⟨F, 0, none⟩) n n) (.slice (some ⟨I, 0, none⟩) n n)) :
    Calls Try.prog 40 #[.pointer (some ⟨M, 0, none⟩), .int .i64 n] w fun e w' => e = .returned (.tuple #[.slice (some ⟨F, 0, none⟩) n n, .slice (some ⟨I, 0, none⟩) n n]) ∧
      StoreL w' m.K 0 (.slice (some ⟨F, 0, none⟩) n n) (.slice (some ⟨I, 0, none⟩) n n) ∧ Kept (fun b => b = m.K) w w' := by
  have hmf : ∀ (fn : Fn) (first cap : Array Value) (w : World), (Instr.makeFunc fn first cap).run Try.prog w = .ok (.func fn first cap) w := fun _ _ _ _ => rfl
  have hf := first_full m.K n n F I (.func (.func 51) #[.pointer (some ⟨M, 0, none⟩)] #[]) hn hn hn0 w hS
  have c6 := hM.c6
  go_enter Try.func40, Try.ntmps40
  go_wp2_with fail
  refine hf.mono ?_
  rintro e w2 ⟨rfl, r⟩
  go_wp2_with fail
  go_ret2
  exact ⟨rfl, r⟩

set_option maxHeartbeats 400000 in
set_option maxRecDepth 100000 in
theorem keptThird_tw (M : Nat) (m : Md) (hg : Good m) (k : Nat) (hk2 : 2 ≤ k) (hk : k ≤ 14) (w : World) (hM : ModAt w M m) (hMK : M ≠ m.K3) (hS : StoreL w m.K3 0 (.slice none 0 0) (.slice none 0 0)) :
    Calls Try.prog 42 #[.pointer (some ⟨M, 0, none⟩), .int .i64 (2 ^ k : Nat)] w fun e w' => ∃ F I f g, e = .returned (.tuple #[.slice (some ⟨F, 0, none⟩) (2 ^ (k + 1)) (2 ^ (k + 1)), .slice (some ⟨I, 0, none⟩) (2 ^ (k + 1)) (2 ^ (k + 1))]) ∧
      StoreL w' m.K3 0 (.slice (some ⟨F, 0, none⟩) (2 ^ (k + 1)) (2 ^ (k + 1))) (.slice (some ⟨I, 0, none⟩) (2 ^ (k + 1)) (2 ^ (k + 1))) ∧ Row w' F (2 ^ (k + 1)) f ∧ Row w' I (2 ^ (k + 1)) g ∧ Tw m (k + 1) g ∧ F ≠ I ∧ w.heap.size ≤ F ∧ w.heap.size ≤ I ∧ Kept (fun b => b = m.K3) w w' := by
  have hmf : ∀ (fn : Fn) (first cap : Array Value) (w : World), (Instr.makeFunc fn first cap).run Try.prog w = .ok (.func fn first cap) w := fun _ _ _ _ => rfl
  have h2 : 2 ^ k ≤ 2 ^ 14 := Nat.pow_le_pow_right (by omega) hk
  have hf := first_third m.K3 M m hg (k + 1) (3 * 2 ^ k) (by omega) (by omega) (by omega) w hM hMK hS
  have c7 := hM.c7
  have e1 : ((2 ^ (k + 1) : Nat) : Int) = 2 * ((2 ^ k : Nat) : Int) := by rw [Nat.pow_succ]; omega
  have e2 : ((3 * 2 ^ k : Nat) : Int) = 3 * ((2 ^ k : Nat) : Int) := by omega
  rw [e1, e2] at hf
  obtain ⟨n, hn⟩ : ∃ n, n = 2 ^ k := ⟨_, rfl⟩
  rw [← hn] at hf ⊢
  have hn14 : n ≤ 16384 := by omega
  clear hn h2 e1 e2
  go_enter Try.func42, Try.ntmps42
  go_wp2_with fail
  refine hf.mono ?_
  rintro e w2 ⟨F, I, f, g, rfl, r⟩
  go_wp2_with fail
  go_ret2
  exact ⟨F, I, f, g, rfl, r⟩

end Go.Proofs.Qxb6616212a
