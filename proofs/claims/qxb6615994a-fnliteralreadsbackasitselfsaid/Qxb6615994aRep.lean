import Derived.Test.Qxb6615994aBuild
import Derived.Laws.NewBlocks

namespace Go.Proofs.Qxb6615994a
open Go.RowKit

/-- a Replacer at block R. -/
def Repl (R : Nat) (d st : Int) (sm r old : Value) (w : World) : Prop := w.heap[R]? = some (.cells #[.int .u32 d, .int .i32 st, sm, r, old] 47 (0, 0))

/-- the four strings of oldnew at block O. -/
def Olds (O : Nat) (w : World) : Prop :=
  w.cell? ⟨O, 0, none⟩ = some (.string s92) ∧ w.cell? ⟨O, 1, none⟩ = some (.string s9292) ∧ w.cell? ⟨O, 2, none⟩ = some (.string s39) ∧ w.cell? ⟨O, 3, none⟩ = some (.string s9239)

theorem Repl.kept {R : Nat} {d st : Int} {sm r old : Value} {w w' : World} {F : Nat → Prop} (h : Repl R d st sm r old w) (k : Kept F w w') (hF : ¬ F R) : Repl R d st sm r old w' := by
  unfold Repl at *; rw [k.block R (lt_of_heap h) hF]; exact h

theorem Olds.kept {O : Nat} {w w' : World} {F : Nat → Prop} (h : Olds O w) (k : Kept F w w') (hF : ¬ F O) : Olds O w' := by
  have hb : w'.heap[O]? = w.heap[O]? := k.block O (World.block_lt_of_cell? w _ h.1) hF
  have e : ∀ j, w'.cell? ⟨O, j, none⟩ = w.cell? ⟨O, j, none⟩ := fun j => World.cell?_of_block (w := w) (a := ⟨O, j, none⟩) hb
  unfold Olds at *
  rw [e, e, e, e]; exact h

theorem Repl.set0 {R : Nat} {d st : Int} {sm r old : Value} {w : World} (h : Repl R d st sm r old w) (x : Int) : Repl R x st sm r old (w.setCell ⟨R, 0, none⟩ (.int .u32 x)) := by
  unfold Repl; rw [setCell_heap h]; rfl
theorem Repl.set1 {R : Nat} {d st : Int} {sm r old : Value} {w : World} (h : Repl R d st sm r old w) (x : Int) : Repl R d x sm r old (w.setCell ⟨R, 1, none⟩ (.int .i32 x)) := by
  unfold Repl; rw [setCell_heap h]; rfl
theorem Repl.set3 {R : Nat} {d st : Int} {sm r old : Value} {w : World} (h : Repl R d st sm r old w) (x : Value) : Repl R d st sm x old (w.setCell ⟨R, 3, none⟩ x) := by
  unfold Repl; rw [setCell_heap h]; rfl
theorem Repl.set4 {R : Nat} {d st : Int} {sm r old : Value} {w : World} (h : Repl R d st sm r old w) (x : Value) : Repl R d st sm r x (w.setCell ⟨R, 4, none⟩ x) := by
  unfold Repl; rw [setCell_heap h]; rfl

theorem Laid.kept {S : Nat} {t : Value} {w w' : World} {R : Nat} {cs : Array Value} (h : Laid S 2 t w) (k : Kept (fun k => k = R) w w') (hR : w.heap[R]? = some (.cells cs 47 (0, 0))) : Laid S 2 t w' := by
  rcases h with ⟨h, _⟩ | ⟨h, _⟩ | ⟨_, a, b, h1, h2, h3, h4⟩
  · omega
  · omega
  · refine Or.inr (Or.inr ⟨rfl, a, b, h1.kept k ?_, own_kept9 h2 k ?_, h3.kept k ?_, h4.kept k ?_⟩)
    · rintro rfl; unfold TabAt at h1; rw [h1] at hR; simp at hR
    · intro g hg e; exact own_ne9 h2 hR (by decide) (by rw [hg, e])
    · rintro g cs' fr hg rfl; rw [hg] at hR; simp at hR
    · rintro g cs' fr hg rfl; rw [hg] at hR; simp at hR

set_option maxRecDepth 100000 in
set_option maxHeartbeats 1000000 in
theorem buildOnce_any (R O cap : Nat) (d st : Int) (sm r0 : Value) (w : World) (hR : Repl R d st sm r0 (.slice (some ⟨O, 0, none⟩) 4 cap) w) (hO : Olds O w) :
    Calls Try.prog 18 #[.pointer (some ⟨R, 0, none⟩)] w fun e w' => e = .returned (.tuple #[]) ∧ ∃ S t, Repl R d st sm (.iface 66 (.pointer (some ⟨S, 0, none⟩))) (.slice none 0 0) w' ∧ w.heap.size ≤ S ∧ Laid S 2 t w' ∧ Kept (fun k => k = R) w w' := by
  have hRl := lt_of_heap hR
  have hOl := World.block_lt_of_cell? w _ hO.1
  go_enter Try.func18, Try.ntmps18
  have c4 : w.cell? ⟨R, 4, none⟩ = some (.slice (some ⟨O, 0, none⟩) 4 cap) := by rw [cell_of_heap hR]; rfl
  go_wp2_with fail
  refine (build_any R O cap _ hRl hOl c4 hO.1 hO.2.1 hO.2.2.1 hO.2.2.2).mono ?_
  clear c4
  rintro e w1 ⟨S, t, rfl, hS, hL, hk⟩
  have hR1 := hR.kept hk (fun h => h)
  have hb := hR1
  unfold Repl at hb
  have c3 : w1.cell? ⟨R, 3, none⟩ = some r0 := by rw [cell_of_heap hb]; rfl
  have f3 : w1.frozen? ⟨R, 3, none⟩ = false := frozen_of_heap hb _
  have c4 : w1.cell? ⟨R, 4, none⟩ = some (.slice (some ⟨O, 0, none⟩) 4 cap) := by rw [cell_of_heap hb]; rfl
  have f4 : w1.frozen? ⟨R, 4, none⟩ = false := frozen_of_heap hb _
  clear hb
  go_wp2
  go_end0
  have hR2 := hR1.set3 (.iface 66 (.pointer (some ⟨S, 0, none⟩)))
  have k2 := Kept.setCell w1 ⟨R, 3, none⟩ (.iface 66 (.pointer (some ⟨S, 0, none⟩)))
  have k3 := Kept.setCell (w1.setCell ⟨R, 3, none⟩ (.iface 66 (.pointer (some ⟨S, 0, none⟩)))) ⟨R, 4, none⟩ (.slice none 0 0)
  refine ⟨rfl, S, t, hR2.set4 _, hS, (hL.kept k2 hR1).kept k3 hR2, ?_⟩
  exact ((hk.mono (T := fun k => k = R) (fun _ _ h => h.elim)).trans k2 (fun _ _ h => h)).trans k3 (fun _ _ h => h)

set_option maxRecDepth 100000 in
set_option maxHeartbeats 1600000 in
theorem slow_any (R O cap : Nat) (sm r0 : Value) (w : World) (hR : Repl R 0 0 sm r0 (.slice (some ⟨O, 0, none⟩) 4 cap) w) (hO : Olds O w) (hne : O ≠ R) :
    Calls Try.prog 20 #[.pointer (some ⟨R, 0, none⟩), .func (.func 18) #[.pointer (some ⟨R, 0, none⟩)] #[]] w fun e w' => e = .returned (.tuple #[]) ∧ ∃ S t, Repl R 1 0 sm (.iface 66 (.pointer (some ⟨S, 0, none⟩))) (.slice none 0 0) w' ∧ w.heap.size ≤ S ∧ Laid S 2 t w' ∧ Kept (fun k => k = R) w w' := by
  have hb := hR
  unfold Repl at hb
  have c1 : w.cell? ⟨R, 1, none⟩ = some (.int .i32 0) := by rw [cell_of_heap hb]; rfl
  have f1 : w.frozen? ⟨R, 1, none⟩ = false := frozen_of_heap hb _
  have kL := Kept.setCell w ⟨R, 1, none⟩ (.int .i32 1)
  have hR1 := hR.set1 1
  have hO1 := hO.kept kL hne
  have hb1 := hR1
  unfold Repl at hb1
  have d0 : (w.setCell ⟨R, 1, none⟩ (.int .i32 1)).cell? ⟨R, 0, none⟩ = some (.int .u32 0) := by rw [cell_of_heap hb1]; rfl
  have hl := run_call_load (P := Try.prog) Try.func22 (by kernel_rfl) (by kernel_rfl) (by kernel_rfl) .u32 (by kernel_rfl) d0
  have hnot : ∀ (x : Bool) (w : World), (Op.unary .not (.bool x)).run Try.prog w = .ok (.bool (!x)) w := fun _ _ => rfl
  clear hb hb1
  go_enter_defers Try.func20, Try.ntmps20
  go_wp2_with (first | (go_at_call 23; refine (lock_free ⟨R, 1, none⟩ _ c1 f1).mono ?_; rintro e w' ⟨rfl, rfl⟩) | (go_at_call 19; go_in) | (go_at_call 18; refine (buildOnce_any R O cap 0 1 sm r0 _ hR1 hO1).mono ?_))
  rintro e w2 ⟨rfl, S, t, hR2, hS, hL2, hk2⟩
  have hb2 := hR2
  unfold Repl at hb2
  go_wp2
  refine leaves_cons (f := 25) (args := #[.pointer (some ⟨R, 0, none⟩), .bool true]) (by simp) (by simp [go_sem]) ?_
  refine (store_deferred ⟨R, 0, none⟩ (.int .u32 0) .returning _ (by rw [cell_of_heap hb2]; rfl) (frozen_of_heap hb2 _)).mono ?_
  rintro e u' w'' ⟨rfl, rfl, rfl⟩
  have hR3 : Repl R 1 1 sm (.iface 66 (.pointer (some ⟨S, 0, none⟩))) (.slice none 0 0) (w2.drew.setCell ⟨R, 0, none⟩ (.int .u32 1)) := Repl.set0 (w := w2.drew) hR2 1
  have k3 := Kept.setCell w2.drew ⟨R, 0, none⟩ (.int .u32 1)
  have hL3 : Laid S 2 t (w2.drew.setCell ⟨R, 0, none⟩ (.int .u32 1)) := Laid.kept (w := w2.drew) hL2 k3 hR2
  have hb3 := hR3
  unfold Repl at hb3
  refine leaves_cons (f := 24) (args := #[.pointer (some ⟨R, 1, none⟩)]) (by simp [settle]) (by simp [go_sem]) ?_
  refine (unlock_deferred ⟨R, 1, none⟩ _ _ (by rw [cell_of_heap hb3]; rfl) (frozen_of_heap hb3 _)).mono ?_
  rintro e u' w'' ⟨rfl, rfl, rfl⟩
  have k4 := Kept.setCell (w2.drew.setCell ⟨R, 0, none⟩ (.int .u32 1)) ⟨R, 1, none⟩ (.int .i32 0)
  have hS' : w.heap.size ≤ S := by simpa [World.setCell] using hS
  have kk : Kept (fun k => k = R) w ((w2.drew.setCell ⟨R, 0, none⟩ (.int .u32 1)).setCell ⟨R, 1, none⟩ (.int .i32 0)) :=
    ((kL.trans hk2 (fun _ _ h => h)).trans (T := fun k => k = R) ⟨k3.os, k3.tape, k3.output, k3.size, k3.block⟩ (fun _ _ h => h)).trans k4 (fun _ _ h => h)
  exact ⟨_, results_none rfl _ _ _, rfl, S, t, hR3.set1 0, hS', hL3.kept k4 hR3, kk⟩

end Go.Proofs.Qxb6615994a
