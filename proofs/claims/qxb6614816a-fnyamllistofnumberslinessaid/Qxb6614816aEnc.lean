import Derived.Test.Qxb6614816aBld
import Derived.WalkLawsBesides
import Derived.Deep.DeepFit
import Derived.Outline
import Derived.Deep.RegionWith
namespace Go.Proofs.Qxb6614816a
open Go.RowKit

/-- The encoder at block E over the builder at block b. -/
def Enc (E b : Nat) (op nx : Value) (le : Bool) (v : Value) (l : List UInt8) (w : World) : Prop :=
  w.heap[E]? = some (.cells #[.iface 41 (.pointer (some ⟨b, 0, none⟩)), op, nx, .bool le] 49 (0, 0)) ∧ Bld b v (Lib.byteCells l) w

/-- What the encoder's operations may turn. -/
def Foot (E b : Nat) (v : Value) : Nat → Prop := fun k => k = E ∨ k = b ∨ v.ownBlock = some k

theorem meth_wb (a : Addr) (w : World) : (method 180 41 (.pointer (some a)) "WriteByte").run Try.prog w = .ok (48, .pointer (some a)) w := by kernel_rfl
theorem meth_ws (a : Addr) (w : World) : (method 180 41 (.pointer (some a)) "WriteString").run Try.prog w = .ok (49, .pointer (some a)) w := by kernel_rfl

theorem Foot.enc {E b : Nat} {v : Value} : Foot E b v E := Or.inl rfl
theorem Foot.of_b {E b : Nat} {v : Value} {k : Nat} (h : k = b ∨ v.ownBlock = some k) : Foot E b v k := Or.inr h

theorem Foot.moved {E b : Nat} {v v' : Value} {w : World} (h : Moved w v v') : ∀ i, i < w.heap.size → Foot E b v' i → Foot E b v i := by
  intro i hi hf
  rcases hf with hf | hf | hf
  · exact Or.inl hf
  · exact Or.inr (Or.inl hf)
  · rcases h with h | ⟨k, h, hk⟩
    · exact Or.inr (Or.inr (h ▸ hf))
    · rw [h] at hf; injection hf with hf; omega

theorem Enc.ne {E b : Nat} {op nx : Value} {le : Bool} {v : Value} {l : List UInt8} {w : World} (h : Enc E b op nx le v l w) : E ≠ b := by
  obtain ⟨hE, p, _, hb, _⟩ := h
  rintro rfl
  rw [hE] at hb
  simp at hb

theorem Enc.neOwn {E b : Nat} {op nx : Value} {le : Bool} {v : Value} {l : List UInt8} {w : World} (h : Enc E b op nx le v l w) : v.ownBlock ≠ some E := by
  obtain ⟨hE, p, _, hb, ho⟩ := h
  exact Lib.ownBlock_ne ho hE (by decide)

/-- a write through the builder leaves an encoder with the longer text. -/
theorem Enc.wrote {E b : Nat} {op nx : Value} {le : Bool} {v v' : Value} {l l' : List UInt8} {w w' : World} (h : Enc E b op nx le v l w) (hB : Bld b v' (Lib.byteCells l') w') (k : Kept (fun k => k = b ∨ v.ownBlock = some k) w w') : Enc E b op nx le v' l' w' := by
  refine ⟨?_, hB⟩
  rw [k.block E (lt_of_heap h.1) ?_]
  · exact h.1
  · rintro (he | he)
    · exact h.ne he
    · exact h.neOwn he

/-- a store of the flag lineEnded. -/
theorem Enc.flag {E b : Nat} {op nx : Value} {le : Bool} {v : Value} {l : List UInt8} {w : World} (h : Enc E b op nx le v l w) (le' : Bool) : Enc E b op nx le' v l (w.setCell ⟨E, 3, none⟩ (.bool le')) := by
  refine ⟨?_, h.2.kept (Kept.setCell w ⟨E, 3, none⟩ (.bool le')) (fun e => h.ne e.symm) (fun g hg e => h.neOwn (by rw [hg, e]))⟩
  simp [World.setCell, Array.getElem?_modify, h.1]

theorem byteCells_snoc (l : List UInt8) (c : UInt8) : Lib.byteCells (l ++ [c]) = Lib.byteCells l ++ [.int .u8 c.toNat] := by simp [Lib.byteCells]
theorem byteCells_app (l : List UInt8) (s : ByteArray) : Lib.byteCells (l ++ s.data.toList) = Lib.byteCells l ++ Lib.strCells s := by simp [Lib.byteCells, Lib.strCells]

set_option maxHeartbeats 1000000 in
set_option maxRecDepth 100000 in
theorem endLine_no (E b : Nat) (op nx : Value) (v : Value) (l : List UInt8) (w : World) (h : Enc E b op nx false v l w) (hlen : l.length + 1 ≤ 140737488355328) :
    Calls Try.prog 28 #[.pointer (some ⟨E, 0, none⟩)] w fun e w' => e = .returned (.tuple #[]) ∧ ∃ v', Enc E b op nx true v' (l ++ [10]) w' ∧ Moved w v v' ∧ Kept (Foot E b v) w w' := by
  have hE := h.1
  have e0 : w.cell? ⟨E, 0, none⟩ = some (.iface 41 (.pointer (some ⟨b, 0, none⟩))) := by rw [Lib.cell_of_heap hE]; rfl
  have e3 : w.cell? ⟨E, 3, none⟩ = some (.bool false) := by rw [Lib.cell_of_heap hE]; rfl
  have mm := meth_wb
  go_enter Try.func28, Try.ntmps28
  go_wp2_with (go_at_call 48; refine (writeByte_any b v (Lib.byteCells l) 10 _ h.2 (by rw [Lib.byteCells_length]; exact hlen)).mono ?_)
  rintro e w1 ⟨rfl, v1, hB1, hm, hk⟩
  rw [show (10 : Int) = ((10 : UInt8).toNat : Int) from rfl, ← byteCells_snoc] at hB1
  have h1 := h.wrote hB1 hk
  have hE1 := h1.1
  have f3 : w1.frozen? ⟨E, 3, none⟩ = false := Lib.frozen_of_heap hE1 3
  have c3 : w1.cell? ⟨E, 3, none⟩ = some (.bool false) := by rw [Lib.cell_of_heap hE1]; rfl
  go_wp2
  go_end0
  exact ⟨rfl, v1, h1.flag true, hm, (hk.mono (T := Foot E b v) (fun i _ hi => Foot.of_b hi)).trans (Kept.setCell w1 ⟨E, 3, none⟩ _) (fun i _ hi => Or.inl hi)⟩

set_option maxHeartbeats 1000000 in
set_option maxRecDepth 100000 in
theorem endLine_yes (E b : Nat) (op nx : Value) (v : Value) (l : List UInt8) (w : World) (h : Enc E b op nx true v l w) :
    Calls Try.prog 28 #[.pointer (some ⟨E, 0, none⟩)] w fun e w' => e = .returned (.tuple #[]) ∧ w' = w := by
  have hE := h.1
  have e3 : w.cell? ⟨E, 3, none⟩ = some (.bool true) := by rw [Lib.cell_of_heap hE]; rfl
  go_enter Try.func28, Try.ntmps28
  go_wp2
  go_end0
  exact ⟨rfl, rfl⟩

/-- endLine: a line break unless the line is ended. -/
def ended (le : Bool) (l : List UInt8) : List UInt8 := if le then l else l ++ [10]

theorem endLine_any (E b : Nat) (op nx : Value) (le : Bool) (v : Value) (l : List UInt8) (w : World) (h : Enc E b op nx le v l w) (hlen : l.length + 1 ≤ 140737488355328) :
    Calls Try.prog 28 #[.pointer (some ⟨E, 0, none⟩)] w fun e w' => e = .returned (.tuple #[]) ∧ ∃ v', Enc E b op nx true v' (ended le l) w' ∧ Moved w v v' ∧ Kept (Foot E b v) w w' := by
  cases le
  · exact endLine_no E b op nx v l w h hlen
  · refine (endLine_yes E b op nx v l w h).mono ?_
    rintro e w' ⟨rfl, rfl⟩
    exact ⟨rfl, v, h, Moved.refl _ _, Kept.refl _ _⟩

/-- 32 blanks. -/
def blanks32 : ByteArray := { data := #[32, 32, 32, 32, 32, 32, 32, 32, 32, 32, 32, 32, 32, 32, 32, 32, 32, 32, 32, 32, 32, 32, 32, 32, 32, 32, 32, 32, 32, 32, 32, 32] }
theorem blanks32_list : blanks32.data.toList = List.replicate 32 32 := rfl
theorem blanks32_size : blanks32.size = 32 := rfl
theorem blanks32_takeF : ∀ m : Fin 33, (blanks32.extract 0 m.val).data.toList = List.replicate m.val 32 := by decide
theorem blanks32_take (m : Nat) (hm : m ≤ 32) : (blanks32.extract 0 m).data.toList = List.replicate m 32 := blanks32_takeF ⟨m, by omega⟩

theorem Kept.undrew {S : Nat → Prop} {w w' : World} (h : Kept S w.drew w') : Kept S w w' := ⟨h.os, h.tape, h.output, h.size, h.block⟩
theorem Enc.drew {E b : Nat} {op nx : Value} {le : Bool} {v : Value} {l : List UInt8} {w : World} (h : Enc E b op nx le v l w) : Enc E b op nx le v l w.drew := h

theorem rep_step (l : List UInt8) (n m : Nat) (hm : m ≤ n) (h32 : 32 < m) : l ++ List.replicate (n - m) 32 ++ List.replicate 32 32 = l ++ List.replicate (n - (m - 32)) 32 := by
  rw [List.append_assoc, List.replicate_append_replicate]
  congr 2; omega

theorem rep_end (l : List UInt8) (n m : Nat) (hm : m ≤ n) : l ++ List.replicate (n - m) 32 ++ List.replicate m 32 = l ++ List.replicate n 32 := by
  rw [List.append_assoc, List.replicate_append_replicate]
  congr 2; omega

set_option maxHeartbeats 1000000 in
set_option maxRecDepth 100000 in
theorem indent_any (E b : Nat) (op nx : Value) (le : Bool) (v : Value) (l : List UInt8) (n : Nat) (w : World) (h : Enc E b op nx le v l w) (_hn : n ≤ 65536) (hlen : l.length + n ≤ 140737488355328) :
    Calls Try.prog 29 #[.pointer (some ⟨E, 0, none⟩), .int .i64 n] w fun e w' => e = .returned (.tuple #[]) ∧ ∃ v', Enc E b op nx le v' (l ++ List.replicate n 32) w' ∧ Moved w v v' ∧ Kept (Foot E b v) w w' := by
  have mm := meth_ws
  go_enter Try.func29, Try.ntmps29
  go_wp2_with fail
  go_loopw [1] (fun t wr => ∃ (m : Nat) (v1 : Value), m ≤ n ∧ t = .int .i64 m ∧ Enc E b op nx le v1 (l ++ List.replicate (n - m) 32) wr ∧ Moved w v v1 ∧ Kept (Foot E b v) w wr) (fun t _ => (intOf t).toNat)
  case atStart => exact ⟨n, v, Nat.le_refl _, rfl, by simpa using h, Moved.refl _ _, Kept.refl _ _⟩
  case round =>
    obtain ⟨m, v1, hm, rfl, h1, hmv, hk⟩ := hrel
    have hE := h1.1
    have e0 : wr.cell? ⟨E, 0, none⟩ = some (.iface 41 (.pointer (some ⟨b, 0, none⟩))) := by rw [Lib.cell_of_heap hE]; rfl
    have hll : (Lib.byteCells (l ++ List.replicate (n - m) 32)).length = l.length + (n - m) := by rw [Lib.byteCells_length]; simp
    by_cases hgt : 32 < m
    · have HL : Hid ((Lib.byteCells (l ++ List.replicate (n - m) 32)).length = l.length + (n - m)) := hll
      clear hll
      go_wp2_with (go_at_call 49; refine (writeString_any b v1 _ blanks32 _ h1.2 ?hl).mono ?_)
      case hl => rw [HL.out, blanks32_size]; omega
      rintro e w2 ⟨rfl, v2, hB2, hm2, hk2⟩
      rw [← byteCells_app, blanks32_list, rep_step l n m hm hgt] at hB2
      have h2 := h1.wrote hB2 hk2
      clear hB2
      go_wp2
      go_roundw
      case rel => exact ⟨m - 32, v2, by omega, by go_num, h2, hmv.trans hm2 hk.size, hk.trans (hk2.mono (T := Foot E b v1) (fun i _ hi => Foot.of_b hi)) (Foot.moved hmv)⟩
      case measure => simp [intOf]; omega
    · have HL : Hid ((Lib.byteCells (l ++ List.replicate (n - m) 32)).length = l.length + (n - m)) := hll
      clear hll
      have hs : (blanks32.extract 0 m).size = m := by
        have := congrArg List.length (blanks32_take m (by omega))
        simpa using this
      have HS : Hid ((blanks32.extract 0 m).size = m) := hs
      clear hs
      have hm32 : m ≤ 32 := by omega
      go_wp2_with fail
      have hl : (Lib.byteCells (l ++ List.replicate (n - m) 32)).length + (blanks32.extract 0 m).size ≤ 140737488355328 := by rw [HL.out, HS.out]; omega
      go_region_with (go_at_call 49; refine (writeString_any b v1 _ (blanks32.extract 0 m) _ h1.drew.2 hl).mono ?_; rintro e w2 ⟨rfl, v2, hB2, hm2, hk2⟩)
      rw [← byteCells_app, blanks32_take m hm32, rep_end l n m hm] at hB2
      have h2 := h1.drew.wrote hB2 hk2
      go_wp2
      go_end0
      exact ⟨rfl, v2, h2, hmv.trans hm2 hk.size, hk.trans (hk2.undrew.mono (T := Foot E b v1) (fun i _ hi => Foot.of_b hi)) (Foot.moved hmv)⟩


theorem ended_length (le : Bool) (l : List UInt8) : (ended le l).length ≤ l.length + 1 := by
  unfold ended; split <;> simp

set_option maxHeartbeats 1000000 in
set_option maxRecDepth 100000 in
theorem lineAt_any (E b : Nat) (op nx : Value) (le : Bool) (v : Value) (l : List UInt8) (n : Nat) (w : World) (h : Enc E b op nx le v l w) (hn : n ≤ 65536) (hlen : l.length + 1 + n ≤ 140737488355328) :
    Calls Try.prog 25 #[.pointer (some ⟨E, 0, none⟩), .int .i64 n] w fun e w' => e = .returned (.tuple #[]) ∧ ∃ v', Enc E b op nx false v' (ended le l ++ List.replicate n 32) w' ∧ Moved w v v' ∧ Kept (Foot E b v) w w' := by
  have hel := ended_length le l
  go_enter Try.func25, Try.ntmps25
  go_wp2_with (go_at_call 28; refine (endLine_any E b op nx le v l _ h (by omega)).mono ?_)
  rintro e w1 ⟨rfl, v1, h1, hm1, hk1⟩
  go_wp2_with (go_at_call 29; refine (indent_any E b op nx true v1 _ n _ h1 hn (by omega)).mono ?_)
  rintro e w2 ⟨rfl, v2, h2, hm2, hk2⟩
  have hE2 := h2.1
  have f3 : w2.frozen? ⟨E, 3, none⟩ = false := Lib.frozen_of_heap hE2 3
  have c3 : w2.cell? ⟨E, 3, none⟩ = some (.bool true) := by rw [Lib.cell_of_heap hE2]; rfl
  go_wp2
  go_end0
  exact ⟨rfl, v2, h2.flag false, hm1.trans hm2 hk1.size, (hk1.trans hk2 (Foot.moved hm1)).trans (Kept.setCell w2 ⟨E, 3, none⟩ _) (fun i _ hi => Or.inl hi)⟩

/-- A level at block L. -/
def Lvl (L : Nat) (im : Bool) (ind pl n : Int) (w : World) : Prop := w.heap[L]? = some (.cells #[.bool im, .int .i64 ind, .int .u8 pl, .int .i64 n] 51 (0, 0))

theorem Enc.notLvl {E b : Nat} {op nx : Value} {le : Bool} {v : Value} {l : List UInt8} {w : World} {L : Nat} {im : Bool} {ind pl n : Int} (h : Enc E b op nx le v l w) (hL : Lvl L im ind pl n w) : ¬ Foot E b v L := by
  unfold Lvl at hL
  obtain ⟨hE, p, _, hb, ho⟩ := h
  rintro (rfl | rfl | hf)
  · rw [hL] at hE; simp at hE
  · rw [hL] at hb; simp at hb
  · exact Lib.ownBlock_ne ho hL (by decide) hf

theorem Lvl.kept {L : Nat} {im : Bool} {ind pl n : Int} {w w' : World} {S : Nat → Prop} (h : Lvl L im ind pl n w) (k : Kept S w w') (hS : ¬ S L) : Lvl L im ind pl n w' := by
  unfold Lvl at *
  rw [k.block L (lt_of_heap h) hS]; exact h

theorem Lvl.put {L : Nat} {im : Bool} {ind pl n : Int} {w : World} (h : Lvl L im ind pl n w) (n' : Int) : Lvl L im ind pl n' (w.setCell ⟨L, 3, none⟩ (.int .i64 n')) := by
  unfold Lvl at *
  simp [World.setCell, Array.getElem?_modify, h]

theorem Enc.kept {E b : Nat} {op nx : Value} {le : Bool} {v : Value} {l : List UInt8} {w w' : World} {S : Nat → Prop} (h : Enc E b op nx le v l w) (k : Kept S w w') (hS : ∀ i, S i → ¬ Foot E b v i) : Enc E b op nx le v l w' := by
  refine ⟨?_, h.2.kept k (fun hs => hS b hs (Or.inr (Or.inl rfl))) (fun g hg hs => hS g hs (Or.inr (Or.inr hg)))⟩
  rw [k.block E (lt_of_heap h.1) (fun hs => hS E hs (Or.inl rfl))]; exact h.1

/-- what one entry writes; whether the line is ended behind it. -/
def entryText (le : Bool) (l : List UInt8) (ind : Nat) (pl n : Int) : List UInt8 := if n = 0 ∧ pl = 1 then l ++ [32] else ended le l ++ List.replicate ind 32
def entryLe (le : Bool) (pl n : Int) : Bool := if n = 0 ∧ pl = 1 then le else false

/-- .. and the level itself. -/
def FootL (E b L : Nat) (v : Value) : Nat → Prop := fun k => k = L ∨ Foot E b v k

set_option maxHeartbeats 1000000 in
set_option maxRecDepth 100000 in
theorem entry_first (E b L : Nat) (op nx : Value) (le im : Bool) (v : Value) (l : List UInt8) (ind : Int) (w : World) (h : Enc E b op nx le v l w) (hL : Lvl L im ind 1 0 w) (hlen : l.length + 1 ≤ 140737488355328) :
    Calls Try.prog 22 #[.pointer (some ⟨E, 0, none⟩), .pointer (some ⟨L, 0, none⟩)] w fun e w' => e = .returned (.tuple #[]) ∧ ∃ v', Enc E b op nx le v' (l ++ [32]) w' ∧ Lvl L im ind 1 1 w' ∧ Moved w v v' ∧ Kept (FootL E b L v) w w' := by
  have hE := h.1
  have hnl := h.notLvl hL
  have hLh := hL
  unfold Lvl at hLh
  have e0 : w.cell? ⟨E, 0, none⟩ = some (.iface 41 (.pointer (some ⟨b, 0, none⟩))) := by rw [Lib.cell_of_heap hE]; rfl
  have l3 : w.cell? ⟨L, 3, none⟩ = some (.int .i64 0) := by rw [Lib.cell_of_heap hLh]; rfl
  have l2 : w.cell? ⟨L, 2, none⟩ = some (.int .u8 1) := by rw [Lib.cell_of_heap hLh]; rfl
  have mm := meth_wb
  go_enter Try.func22, Try.ntmps22
  go_wp2_with (go_at_call 48; refine (writeByte_any b v (Lib.byteCells l) 32 _ h.2 (by rw [Lib.byteCells_length]; exact hlen)).mono ?_)
  rintro e w1 ⟨rfl, v1, hB1, hm, hk⟩
  rw [show (32 : Int) = ((32 : UInt8).toNat : Int) from rfl, ← byteCells_snoc] at hB1
  have h1 := h.wrote hB1 hk
  have hL1 : Lvl L im ind 1 0 w1 := hL.kept hk (fun hs => hnl (Foot.of_b hs))
  have hLh1 := hL1
  unfold Lvl at hLh1
  have m3 : w1.cell? ⟨L, 3, none⟩ = some (.int .i64 0) := by rw [Lib.cell_of_heap hLh1]; rfl
  have g3 : w1.frozen? ⟨L, 3, none⟩ = false := Lib.frozen_of_heap hLh1 3
  clear hLh1 hLh
  go_wp2
  go_end0
  have hnl1 := h1.notLvl hL1
  have hk2 := Kept.setCell w1 ⟨L, 3, none⟩ (.int .i64 1)
  exact ⟨rfl, v1, h1.kept hk2 (fun i hi => by subst hi; exact hnl1), hL1.put 1, hm, (hk.mono (T := FootL E b L v) (fun i _ hi => Or.inr (Foot.of_b hi))).trans hk2 (fun i _ hi => Or.inl hi)⟩

set_option maxHeartbeats 1000000 in
set_option maxRecDepth 100000 in
theorem entry_line (E b L : Nat) (op nx : Value) (le im : Bool) (v : Value) (l : List UInt8) (ind : Nat) (pl n : Int) (w : World) (h : Enc E b op nx le v l w) (hL : Lvl L im ind pl n w) (hind : ind ≤ 65536) (hlen : l.length + 1 + ind ≤ 140737488355328)
    (hnp : (n == 0) = false ∨ (n == 0) = true ∧ (pl == 1) = false) :
    Calls Try.prog 22 #[.pointer (some ⟨E, 0, none⟩), .pointer (some ⟨L, 0, none⟩)] w fun e w' => e = .returned (.tuple #[]) ∧ ∃ v', Enc E b op nx false v' (ended le l ++ List.replicate ind 32) w' ∧ Lvl L im ind pl (wrap64 (n + 1)) w' ∧ Moved w v v' ∧ Kept (FootL E b L v) w w' := by
  have hnl := h.notLvl hL
  have hLh := hL
  unfold Lvl at hLh
  have l3 : w.cell? ⟨L, 3, none⟩ = some (.int .i64 n) := by rw [Lib.cell_of_heap hLh]; rfl
  have l2 : w.cell? ⟨L, 2, none⟩ = some (.int .u8 pl) := by rw [Lib.cell_of_heap hLh]; rfl
  have l1 : w.cell? ⟨L, 1, none⟩ = some (.int .i64 ind) := by rw [Lib.cell_of_heap hLh]; rfl
  clear hLh
  rcases hnp with hn0 | ⟨hn0, hp1⟩
  all_goals
    go_enter Try.func22, Try.ntmps22
    go_wp2_with (go_at_call 25; refine (lineAt_any E b op nx le v l ind _ h hind hlen).mono ?_)
    rintro e w1 ⟨rfl, v1, h1, hm, hk⟩
    have hL1 : Lvl L im ind pl n w1 := hL.kept hk hnl
    have hLh1 := hL1
    unfold Lvl at hLh1
    have m3 : w1.cell? ⟨L, 3, none⟩ = some (.int .i64 n) := by rw [Lib.cell_of_heap hLh1]; rfl
    have g3 : w1.frozen? ⟨L, 3, none⟩ = false := Lib.frozen_of_heap hLh1 3
    clear hLh1
    go_wp2
    go_end0
    have hnl1 := h1.notLvl hL1
    have hk2 := Kept.setCell w1 ⟨L, 3, none⟩ (.int .i64 (wrap64 (n + 1)))
    exact ⟨rfl, v1, h1.kept hk2 (fun i hi => by subst hi; exact hnl1), hL1.put (wrap64 (n + 1)), hm, (hk.mono (T := FootL E b L v) (fun i _ hi => Or.inr hi)).trans hk2 (fun i _ hi => Or.inl hi)⟩

end Go.Proofs.Qxb6614816a
