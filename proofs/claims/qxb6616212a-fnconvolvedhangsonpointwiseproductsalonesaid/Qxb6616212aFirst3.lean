import Derived.Test.Qxb6616212aFirst
import Derived.Test.Qxb6616212aThird
namespace Go.Proofs.Qxb6616212a
open Go.RowKit

set_option maxHeartbeats 1000000 in
set_option maxRecDepth 100000 in
theorem first_third (K M : Nat) (m : Md) (hg : Good m) (k pts : Nat) (hk2 : 2 ≤ k) (hk : k ≤ 17) (hp : pts ≤ 131072) (w : World) (hM : ModAt w M m) (hMK : M ≠ K) (hS : StoreL w K 0 (.slice none 0 0) (.slice none 0 0)) :
    Calls Try.prog 50 #[.pointer (some ⟨K, 0, none⟩), .int .i64 (2 ^ k : Nat), .int .i64 pts, .func (.func 54) #[.pointer (some ⟨M, 0, none⟩)] #[]] w fun e w' => ∃ F I f g, e = .returned (.tuple #[.slice (some ⟨F, 0, none⟩) (2 ^ k) (2 ^ k), .slice (some ⟨I, 0, none⟩) (2 ^ k) (2 ^ k)]) ∧
      StoreL w' K 0 (.slice (some ⟨F, 0, none⟩) (2 ^ k) (2 ^ k)) (.slice (some ⟨I, 0, none⟩) (2 ^ k) (2 ^ k)) ∧ Row w' F (2 ^ k) f ∧ Row w' I (2 ^ k) g ∧ Tw m k g ∧ F ≠ I ∧ w.heap.size ≤ F ∧ w.heap.size ≤ I ∧ Kept (fun b => b = K) w w' := by
  have c0 := hS.c0
  have f0 := hS.fr 0
  have hS1 := hS.set0 1
  have k1 := Kept.setCell w ⟨K, 0, none⟩ (.int .i32 1)
  have c2 := hS1.c2
  have hKl := lt_of_heap hS
  have hT := third_any M m hg k hk2 hk (w.setCell ⟨K, 0, none⟩ (.int .i32 1)) (hM.kept k1 hMK)
  obtain ⟨n, hn⟩ : ∃ n, n = 2 ^ k := ⟨_, rfl⟩
  have hn17 : n ≤ 131072 := by rw [hn]; exact Nat.pow_le_pow_right (by omega) hk
  have hn4 : 4 ≤ n := by rw [hn]; exact Nat.pow_le_pow_right (n := 2) (by omega) hk2
  rw [← hn] at hT ⊢
  clear hn
  go_enter_defers Try.func50, Try.ntmps50
  go_wp2_with (first | (go_at_call 59; refine (lock_free ⟨K, 0, none⟩ _ c0 f0).mono ?_; rintro e w' ⟨rfl, rfl⟩) | (go_at_call 54; refine hT.mono ?_))
  rintro e w2 ⟨F, I, f, g, rfl, rF, rI, tw, hFI, hF, hI, k2⟩
  have hs : (w.setCell ⟨K, 0, none⟩ (.int .i32 1)).heap.size = w.heap.size := by simp [World.setCell]
  rw [hs] at hF hI
  have hS2 := hS1.kept k2 (fun h => h)
  have d2 := hS2.c2
  have d3 := hS2.c3
  have e2 := hS2.fr 2
  have e3 := hS2.fr 3
  have hS3 := hS2.set2 (.slice (some ⟨F, 0, none⟩) n n)
  have d3' := hS3.c3
  have e3' := hS3.fr 3
  have hS4 := hS3.set3 (.slice (some ⟨I, 0, none⟩) n n)
  have g2 := hS4.c2
  have g3 := hS4.c3
  clear hT hS1 c0 f0 c2
  go_wp2_with fail
  go_region
  go_wp2
  refine leaves_cons (f := 60) (args := #[.pointer (some ⟨K, 0, none⟩)]) (by simp) (by simp [go_sem]) ?_
  have hS5 : StoreL ((w2.setCell ⟨K, 2, none⟩ (.slice (some ⟨F, 0, none⟩) n n)).setCell ⟨K, 3, none⟩ (.slice (some ⟨I, 0, none⟩) n n)).drew K 1 (.slice (some ⟨F, 0, none⟩) n n) (.slice (some ⟨I, 0, none⟩) n n) := hS4
  have rF5 : Row ((w2.setCell ⟨K, 2, none⟩ (.slice (some ⟨F, 0, none⟩) n n)).setCell ⟨K, 3, none⟩ (.slice (some ⟨I, 0, none⟩) n n)).drew F n f := ((rF.setOther ⟨K, 2, none⟩ (.slice (some ⟨F, 0, none⟩) n n) (by simp; omega)).setOther ⟨K, 3, none⟩ (.slice (some ⟨I, 0, none⟩) n n) (by simp; omega)).drew
  have rI5 : Row ((w2.setCell ⟨K, 2, none⟩ (.slice (some ⟨F, 0, none⟩) n n)).setCell ⟨K, 3, none⟩ (.slice (some ⟨I, 0, none⟩) n n)).drew I n g := ((rI.setOther ⟨K, 2, none⟩ (.slice (some ⟨F, 0, none⟩) n n) (by simp; omega)).setOther ⟨K, 3, none⟩ (.slice (some ⟨I, 0, none⟩) n n) (by simp; omega)).drew
  refine (unlock_deferred ⟨K, 0, none⟩ .returning _ hS5.c0 (hS5.fr 0)).mono ?_
  rintro e u' w'' ⟨rfl, rfl, rfl⟩
  have kk := (((k1.trans (k2.mono (T := fun b => b = K) (fun _ _ h => h.elim)) (fun _ _ h => h)).trans (Kept.setCell w2 ⟨K, 2, none⟩ (.slice (some ⟨F, 0, none⟩) n n)) (fun _ _ h => h)).trans (Kept.setCell _ ⟨K, 3, none⟩ (.slice (some ⟨I, 0, none⟩) n n)) (fun _ _ h => h)).drewR.trans (Kept.setCell _ ⟨K, 0, none⟩ (.int .i32 0)) (fun _ _ h => h)
  exact ⟨_, results_tmp2 rfl _ _ _, F, I, f, g, rfl, hS5.set0 0, rF5.setOther _ _ (by simp; omega), rI5.setOther _ _ (by simp; omega), tw, hFI, hF, hI, kk⟩

set_option maxHeartbeats 1000000 in
set_option maxRecDepth 100000 in
theorem kept_tw (M : Nat) (m : Md) (hg : Good m) (k : Nat) (hk2 : 2 ≤ k) (hk : k ≤ 17) (w : World) (hM : ModAt w M m) (hMK : M ≠ m.K) (hS : StoreL w m.K 0 (.slice none 0 0) (.slice none 0 0)) :
    Calls Try.prog 40 #[.pointer (some ⟨M, 0, none⟩), .int .i64 (2 ^ k : Nat)] w fun e w' => ∃ F I f g, e = .returned (.tuple #[.slice (some ⟨F, 0, none⟩) (2 ^ k) (2 ^ k), .slice (some ⟨I, 0, none⟩) (2 ^ k) (2 ^ k)]) ∧
      StoreL w' m.K 0 (.slice (some ⟨F, 0, none⟩) (2 ^ k) (2 ^ k)) (.slice (some ⟨I, 0, none⟩) (2 ^ k) (2 ^ k)) ∧ Row w' F (2 ^ k) f ∧ Row w' I (2 ^ k) g ∧ Tw m k g ∧ F ≠ I ∧ w.heap.size ≤ F ∧ w.heap.size ≤ I ∧ Kept (fun b => b = m.K) w w' := by
  have hmf : ∀ (fn : Fn) (first cap : Array Value) (w : World), (Instr.makeFunc fn first cap).run Try.prog w = .ok (.func fn first cap) w := fun _ _ _ _ => rfl
  have h2 : 2 ^ k ≤ 2 ^ 17 := Nat.pow_le_pow_right (by omega) hk
  have hf := first_tw m.K M m hg k (2 ^ k) hk2 hk (by omega) w hM hMK hS
  have c6 := hM.c6
  obtain ⟨n, hn⟩ : ∃ n, n = 2 ^ k := ⟨_, rfl⟩
  rw [← hn] at hf ⊢
  clear hn h2
  go_enter Try.func40, Try.ntmps40
  go_wp2_with fail
  refine hf.mono ?_
  rintro e w2 ⟨F, I, f, g, rfl, r⟩
  go_wp2_with fail
  go_ret2
  exact ⟨F, I, f, g, rfl, r⟩

end Go.Proofs.Qxb6616212a
