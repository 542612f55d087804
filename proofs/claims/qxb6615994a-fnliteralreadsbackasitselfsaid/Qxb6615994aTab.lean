/-
  The table of a byteStringReplacer as build lays it: 256 slices of bytes and the list of what is replaced.
-/
import Derived.Test.Qxb6615994aOnce
import Derived.WalkLawsBesides
import Derived.Maps.AppendAt
import Derived.Lib.ConvBytes
import Derived.Lib.SliceRun
namespace Go.Proofs.Qxb6615994a
open Go.RowKit

/-- w' is w but for new blocks and the blocks in S. -/
structure Kept (S : Nat → Prop) (w w' : World) : Prop where
  os : w'.os = w.os
  tape : w'.tape = w.tape
  output : w'.output = w.output
  size : w.heap.size ≤ w'.heap.size
  block : ∀ k, k < w.heap.size → ¬ S k → w'.heap[k]? = w.heap[k]?

theorem Kept.refl (S : Nat → Prop) (w : World) : Kept S w w := ⟨rfl, rfl, rfl, Nat.le_refl _, fun _ _ _ => rfl⟩
theorem Kept.trans {S T : Nat → Prop} {a b c : World} (h : Kept S a b) (k : Kept T b c) (hT : ∀ i, i < a.heap.size → T i → S i) : Kept S a c :=
  ⟨k.os.trans h.os, k.tape.trans h.tape, k.output.trans h.output, Nat.le_trans h.size k.size,
   fun i hi hs => (k.block i (Nat.lt_of_lt_of_le hi h.size) (fun t => hs (hT i hi t))).trans (h.block i hi hs)⟩
theorem Kept.grown {a b : World} {row : Option Nat} (h : a.grownBy b row) : Kept (fun k => row = some k) a b :=
  ⟨h.os, h.tape, h.output, h.size, fun i hi ht => h.block i hi (fun e => ht e.symm)⟩
theorem Kept.setCell (w : World) (p : Addr) (u : Value) : Kept (fun k => k = p.block) w (w.setCell p u) :=
  ⟨rfl, rfl, rfl, by simp [World.setCell], fun k _ hk => Below.heap_setCell _ _ _ _ hk⟩
theorem Kept.alloc (w : World) (o : Obj) (S : Nat → Prop) : Kept S w (w.alloc o) :=
  ⟨rfl, rfl, rfl, by simp, fun k hk _ => Below.heap_alloc _ _ _ hk⟩
theorem Kept.below {S : Nat → Prop} {B : Nat} {w w' : World} (h : Kept S w w') (hB : B ≤ w.heap.size) (hS : ∀ k, k < B → ¬ S k) : Below B w w' :=
  ⟨h.os, h.tape, h.output, h.size, fun k hk => h.block k (by omega) (hS k hk)⟩
theorem Kept.mono {S T : Nat → Prop} {a b : World} (h : Kept S a b) (hT : ∀ i, i < a.heap.size → S i → T i) : Kept T a b :=
  ⟨h.os, h.tape, h.output, h.size, fun i hi ht => h.block i hi (fun s => ht (hT i hi s))⟩

theorem lt_of_heap {w : World} {b : Nat} {o : Obj} (h : w.heap[b]? = some o) : b < w.heap.size := (Array.getElem?_eq_some_iff.1 h).1
theorem cell_of_heap {w : World} {b : Nat} {cs : Array Value} {T : TypeId} {fr : Nat × Nat} (hb : w.heap[b]? = some (.cells cs T fr)) (j : Nat) : w.cell? ⟨b, j, none⟩ = cs[j]? := by simp [World.cell?, hb]
theorem frozen_of_heap {w : World} {b : Nat} {cs : Array Value} {T : TypeId} (hb : w.heap[b]? = some (.cells cs T (0, 0))) (j : Nat) : w.frozen? ⟨b, j, none⟩ = false := by simp [World.frozen?, hb]

theorem kept_bytes (w : World) (s : ByteArray) : Kept (fun _ => False) w (Lib.bytesWorld w 5 s) := by
  refine ⟨?_, ?_, ?_, by rw [Lib.bytesWorld_size]; omega, fun k hk _ => Lib.bytesWorld_at_old w 5 s k hk⟩
  all_goals
    unfold Lib.bytesWorld World.freeze
    split <;> rfl

/-- n nil slices. -/
def zeros (n : Nat) : List Value := List.replicate n (Value.slice none 0 0)
theorem zeros_len (n : Nat) : (zeros n).length = n := by simp [zeros]
theorem zeros_get (n i : Nat) : (zeros n)[i]? = if i < n then some (Value.slice none 0 0) else none := by simp [zeros, List.getElem?_replicate]
theorem zeros_mem (n : Nat) (v : Value) (h : v ∈ zeros n) : v = .slice none 0 0 := by simp [zeros] at h; exact h.2

/-- the table: at 39, at 92, and the list at 256. -/
def tab (a b t : Value) : Array Value := ((((zeros 257).set 39 a).set 92 b).set 256 t).toArray

theorem zero_list : Try.zeroCells65.toList = zeros 257 := by kernel_rfl
theorem zero_size : Try.zeroCells65.size = 257 := by kernel_rfl

theorem tab_size (a b t : Value) : (tab a b t).size = 257 := by simp [tab, zeros_len]
theorem tab_39 (a b t : Value) : (tab a b t)[39]? = some a := by simp [tab, zeros_len]
theorem tab_92 (a b t : Value) : (tab a b t)[92]? = some b := by simp [tab, zeros_len]
theorem tab_256 (a b t : Value) : (tab a b t)[256]? = some t := by simp [tab, zeros_len]
theorem tab_other (a b t : Value) (c : Nat) (h : c < 256) (h1 : c ≠ 39) (h2 : c ≠ 92) : (tab a b t)[c]? = some (.slice none 0 0) := by
  have h3 : c ≠ 256 := by omega
  have h4 : c < 257 := by omega
  simp only [tab, List.getElem?_toArray, List.getElem?_set, Ne.symm h1, Ne.symm h2, Ne.symm h3, if_false, zeros_get, h4, if_true]
theorem tab_set39 (a b t x : Value) : (tab a b t).set! 39 x = tab x b t := by
  apply Array.ext'
  simp only [tab, Array.set!_eq_setIfInBounds, Array.toList_setIfInBounds]
  apply List.ext_getElem?
  intro i
  simp only [List.getElem?_set, List.length_set, zeros_len]
  by_cases h1 : 39 = i
  · subst h1; simp
  · simp [h1]
theorem tab_set92 (a b t x : Value) : (tab a b t).set! 92 x = tab a x t := by
  apply Array.ext'
  simp only [tab, Array.set!_eq_setIfInBounds, Array.toList_setIfInBounds]
  apply List.ext_getElem?
  intro i
  simp only [List.getElem?_set, List.length_set, zeros_len]
  by_cases h1 : 92 = i
  · subst h1; simp
  · simp [h1]
theorem tab_set256 (a b t x : Value) : (tab a b t).set! 256 x = tab a b x := by
  apply Array.ext'
  simp only [tab, Array.set!_eq_setIfInBounds, Array.toList_setIfInBounds]
  apply List.ext_getElem?
  intro i
  simp only [List.getElem?_set, List.length_set, zeros_len]
  by_cases h1 : 256 = i
  · subst h1; simp
  · simp [h1]

/-- the table at block S. -/
def TabAt (S : Nat) (a b t : Value) (w : World) : Prop := w.heap[S]? = some (.cells (tab a b t) 65 (0, 0))

theorem TabAt.kept {S : Nat} {a b t : Value} {w w' : World} {F : Nat → Prop} (h : TabAt S a b t w) (k : Kept F w w') (hS : ¬ F S) : TabAt S a b t w' := by
  unfold TabAt at *; rw [k.block S (lt_of_heap h) hS]; exact h

theorem setCell_heap {w : World} {S : Nat} {cs : Array Value} {T : TypeId} {fr : Nat × Nat} (h : w.heap[S]? = some (.cells cs T fr)) (j : Nat) (x : Value) : (w.setCell ⟨S, j, none⟩ x).heap[S]? = some (.cells (cs.set! j x) T fr) := by
  simp [World.setCell, Array.getElem?_modify, h]

theorem TabAt.put39 {S : Nat} {a b t : Value} {w : World} (h : TabAt S a b t w) (x : Value) : TabAt S x b t (w.setCell ⟨S, 39, none⟩ x) := by
  unfold TabAt; rw [setCell_heap h, tab_set39]
theorem TabAt.put92 {S : Nat} {a b t : Value} {w : World} (h : TabAt S a b t w) (x : Value) : TabAt S a x t (w.setCell ⟨S, 92, none⟩ x) := by
  unfold TabAt; rw [setCell_heap h, tab_set92]
theorem TabAt.put256 {S : Nat} {a b t : Value} {w : World} (h : TabAt S a b t w) (x : Value) : TabAt S a b x (w.setCell ⟨S, 256, none⟩ x) := by
  unfold TabAt; rw [setCell_heap h, tab_set256]

/-- the struct is stored whole into its new block. -/
theorem store_tab (w : World) :
    ∃ w1, Sem.run Try.prog (storeCells ⟨w.heap.size + 1, 0, none⟩ (Try.zeroCells65.toList.set 256 (.slice (some ⟨w.heap.size, 0, none⟩) 0 2))) ((w.alloc (.cells #[.string ⟨#[]⟩, .string ⟨#[]⟩] 9)).alloc (.cells Try.zeroCells65 65)) = .ok () w1 ∧
      TabAt (w.heap.size + 1) (.slice none 0 0) (.slice none 0 0) (.slice (some ⟨w.heap.size, 0, none⟩) 0 2) w1 ∧ w1.heap[w.heap.size]? = some (.cells #[.string ⟨#[]⟩, .string ⟨#[]⟩] 9 (0, 0)) ∧ Kept (fun _ => False) w w1 := by
  have hg : ((w.alloc (.cells #[.string ⟨#[]⟩, .string ⟨#[]⟩] 9)).alloc (.cells Try.zeroCells65 65)).heap[w.heap.size + 1]? = some (.cells Try.zeroCells65 65 (0, 0)) := by
    have := heap_alloc_new (w.alloc (.cells #[.string ⟨#[]⟩, .string ⟨#[]⟩] 9)) (.cells Try.zeroCells65 65)
    simpa using this
  have hr := run_storeCells_at Try.prog (w.heap.size + 1) 0 65 (Try.zeroCells65.toList.set 256 (.slice (some ⟨w.heap.size, 0, none⟩) 0 2)) 0 Try.zeroCells65 _ hg (by simp) (by
    intro v hv
    rcases List.mem_or_eq_of_mem_set hv with h | h
    · rw [zero_list] at h
      rw [zeros_mem _ _ h]; rfl
    · subst h; rfl)
  refine ⟨_, hr, ?_, ?_, ?_⟩
  · unfold TabAt
    rw [setRow_heap _ _ _ _ _ _ hg]
    refine congrArg (fun c => some (Obj.cells c 65 (0, 0))) ?_
    apply Array.ext'
    simp only [tab, Nat.zero_add, List.take_zero, List.nil_append, Nat.add_zero]
    rw [List.drop_of_length_le (by simp), List.append_nil, zero_list]
    apply List.ext_getElem?
    intro i
    simp only [List.getElem?_set, List.length_set, zeros_len, zeros_get]
    by_cases h1 : 256 = i
    · simp [h1]
    · by_cases h2 : 92 = i
      · subst h2; simp
      · by_cases h3 : 39 = i
        · subst h3; simp
        · simp [h1, h2, h3]
  · rw [setRow_other _ _ _ _ (by omega), Below.heap_alloc _ _ _ (by simp)]
    exact heap_alloc_new w _
  · exact ((Kept.alloc w _ (fun _ => False)).trans (Kept.alloc _ _ (fun _ => False)) (fun _ _ h => h)).trans (T := fun k => k = w.heap.size + 1) ⟨rfl, rfl, rfl, by simp, fun k _ hk => setRow_other _ _ _ _ hk⟩ (fun i hi hs => by omega)

end Go.Proofs.Qxb6615994a
