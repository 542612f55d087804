import Derived.Test.Qxb6614816aEntPlain
namespace Go.Proofs.Qxb6614816a
open Go.RowKit

/-- the list of open levels: one level, at block L. -/
def oneOpen (L : Nat) : Value := .slice (some ⟨L, 0, none⟩) 1 1

theorem entryText_length (le : Bool) (l : List UInt8) (ind : Nat) (pl n : Int) : (entryText le l ind pl n).length ≤ l.length + 1 + ind := by
  unfold entryText
  split
  · simp
  · have := ended_length le l; simp; omega

set_option maxHeartbeats 1000000 in
set_option maxRecDepth 100000 in
theorem value_any (E b L : Nat) (nx : Value) (le : Bool) (v : Value) (l : List UInt8) (ind : Nat) (pl n : Int) (w : World) (h : Enc E b (oneOpen L) nx le v l w) (hL : Lvl L false ind pl n w) (hind : ind ≤ 65536) (hlen : l.length + 2 + ind ≤ 140737488355328) :
    Calls Try.prog 27 #[.pointer (some ⟨E, 0, none⟩)] w fun e w' => e = .returned (.int .u8 1) ∧ ∃ v', Enc E b (oneOpen L) nx (entryLe le pl n) v' (entryText le l ind pl n ++ [45]) w' ∧ Lvl L false ind pl (wrap64 (n + 1)) w' ∧ Moved w v v' ∧ Kept (FootL E b L v) w w' := by
  have hE := h.1
  have hLh := hL
  unfold Lvl at hLh
  have e1 : w.cell? ⟨E, 1, none⟩ = some (.slice (some ⟨L, 0, none⟩) 1 1) := by rw [Lib.cell_of_heap hE]; rfl
  have l0 : w.cell? ⟨L, 0, none⟩ = some (.bool false) := by rw [Lib.cell_of_heap hLh]; rfl
  have hel := entryText_length le l ind pl n
  clear hE hLh
  have mm := meth_wb
  go_enter Try.func27, Try.ntmps27
  go_wp2_with (go_at_call 22; refine (entry_any E b L (oneOpen L) nx le false v l ind pl n _ h hL hind (by omega)).mono ?_)
  rintro e w1 ⟨rfl, v1, h1, hL1, hm1, hk1⟩
  have hE1 := h1.1
  have d0 : w1.cell? ⟨E, 0, none⟩ = some (.iface 41 (.pointer (some ⟨b, 0, none⟩))) := by rw [Lib.cell_of_heap hE1]; rfl
  clear hE1
  go_wp2_with (go_at_call 48; refine (writeByte_any b v1 _ 45 _ h1.2 (by rw [Lib.byteCells_length]; omega)).mono ?_)
  rintro e w2 ⟨rfl, v2, hB2, hm2, hk2⟩
  rw [show (45 : Int) = ((45 : UInt8).toNat : Int) from rfl, ← byteCells_snoc] at hB2
  have h2 := h1.wrote hB2 hk2
  have hL2 := hL1.kept hk2 (fun hs => h1.notLvl hL1 (Foot.of_b hs))
  go_wp2
  go_ret
  refine ⟨rfl, v2, h2, hL2, hm1.trans hm2 hk1.size, hk1.trans hk2 ?_⟩
  intro i hi hs
  rcases Foot.moved (E := E) (b := b) hm1 i hi (Foot.of_b hs) with hs | hs
  · exact Or.inr (Or.inl hs)
  · exact Or.inr (Or.inr hs)

set_option maxHeartbeats 1000000 in
set_option maxRecDepth 100000 in
theorem blank_one (E b : Nat) (op nx : Value) (le : Bool) (v : Value) (l : List UInt8) (w : World) (h : Enc E b op nx le v l w) (hlen : l.length + 1 ≤ 140737488355328) :
    Calls Try.prog 26 #[.pointer (some ⟨E, 0, none⟩), .int .u8 1] w fun e w' => e = .returned (.tuple #[]) ∧ ∃ v', Enc E b op nx le v' (l ++ [32]) w' ∧ Moved w v v' ∧ Kept (Foot E b v) w w' := by
  have hE := h.1
  have e0 : w.cell? ⟨E, 0, none⟩ = some (.iface 41 (.pointer (some ⟨b, 0, none⟩))) := by rw [Lib.cell_of_heap hE]; rfl
  have mm := meth_wb
  go_enter Try.func26, Try.ntmps26
  go_wp2_with (go_at_call 48; refine (writeByte_any b v (Lib.byteCells l) 32 _ h.2 (by rw [Lib.byteCells_length]; exact hlen)).mono ?_)
  rintro e w1 ⟨rfl, v1, hB1, hm, hk⟩
  rw [show (32 : Int) = ((32 : UInt8).toNat : Int) from rfl, ← byteCells_snoc] at hB1
  have h1 := h.wrote hB1 hk
  go_wp2
  go_end0
  exact ⟨rfl, v1, h1, hm, hk.mono (T := Foot E b v) (fun i _ hi => Foot.of_b hi)⟩

/-- one number's line. -/
def numText (le : Bool) (l : List UInt8) (ind : Nat) (pl n : Int) (s : ByteArray) : List UInt8 := entryText le l ind pl n ++ [45] ++ [32] ++ s.data.toList ++ [10]

set_option maxHeartbeats 1000000 in
set_option maxRecDepth 100000 in
theorem scalar_any (E b L : Nat) (nx : Value) (le : Bool) (v : Value) (l : List UInt8) (ind : Nat) (pl n : Int) (s : ByteArray) (w : World) (h : Enc E b (oneOpen L) nx le v l w) (hL : Lvl L false ind pl n w) (hind : ind ≤ 65536) (hlen : l.length + 4 + ind + s.size ≤ 140737488355328) :
    Calls Try.prog 24 #[.pointer (some ⟨E, 0, none⟩), .string s] w fun e w' => e = .returned (.tuple #[]) ∧ ∃ v', Enc E b (oneOpen L) nx true v' (numText le l ind pl n s) w' ∧ Lvl L false ind pl (wrap64 (n + 1)) w' ∧ Moved w v v' ∧ Kept (FootL E b L v) w w' := by
  have hel := entryText_length le l ind pl n
  have hsl : s.data.toList.length = s.size := rfl
  have mm := meth_ws
  go_enter Try.func24, Try.ntmps24
  go_wp2_with (go_at_call 27; refine (value_any E b L nx le v l ind pl n _ h hL hind (by omega)).mono ?_)
  rintro e w1 ⟨rfl, v1, h1, hL1, hm1, hk1⟩
  go_wp2_with (go_at_call 26; refine (blank_one E b (oneOpen L) nx _ v1 _ _ h1 (by simp; omega)).mono ?_)
  rintro e w2 ⟨rfl, v2, h2, hm2, hk2⟩
  have hE2 := h2.1
  have d0 : w2.cell? ⟨E, 0, none⟩ = some (.iface 41 (.pointer (some ⟨b, 0, none⟩))) := by rw [Lib.cell_of_heap hE2]; rfl
  clear hE2
  have hL2 := hL1.kept hk2 (h1.notLvl hL1)
  go_wp2_with (go_at_call 49; refine (writeString_any b v2 _ s _ h2.2 (by rw [Lib.byteCells_length]; simp; omega)).mono ?_)
  rintro e w3 ⟨rfl, v3, hB3, hm3, hk3⟩
  rw [← byteCells_app] at hB3
  have h3 := h2.wrote hB3 hk3
  have hL3 := hL2.kept hk3 (fun hs => h2.notLvl hL2 (Foot.of_b hs))
  have hE3 := h3.1
  have f3 : w3.frozen? ⟨E, 3, none⟩ = false := Lib.frozen_of_heap hE3 3
  have c3 : w3.cell? ⟨E, 3, none⟩ = some (.bool (entryLe le pl n)) := by rw [Lib.cell_of_heap hE3]; rfl
  have h4 := h3.flag false
  have hk4 := Kept.setCell w3 ⟨E, 3, none⟩ (.bool false)
  have hL4 := hL3.kept hk4 (fun hs => h3.notLvl hL3 (Or.inl hs))
  clear hE3
  go_wp2_with (go_at_call 28; refine (endLine_any E b (oneOpen L) nx false v3 _ _ h4 (by simp; omega)).mono ?_)
  rintro e w5 ⟨rfl, v5, h5, hm5, hk5⟩
  have hL5 := hL4.kept hk5 (h4.notLvl hL4)
  go_wp2
  go_end0
  have f12 := Foot.moved (E := E) (b := b) hm1
  have m13 := (hm1.trans hm2 hk1.size)
  have s2 := Nat.le_trans hk1.size hk2.size
  have m14 := m13.trans hm3 s2
  have s3 := Nat.le_trans s2 hk3.size
  have s4 : w.heap.size ≤ (w3.setCell ⟨E, 3, none⟩ (.bool false)).heap.size := Nat.le_trans s3 hk4.size
  refine ⟨rfl, v5, h5, hL5, m14.trans hm5 s4, ?_⟩
  have q2 := hk1.trans hk2 (fun i hi hs => Or.inr (Foot.moved hm1 i hi hs))
  have q3 := q2.trans hk3 (fun i hi hs => Or.inr (Foot.moved (E := E) (b := b) m13 i hi (Foot.of_b hs)))
  have q4 := q3.trans hk4 (fun i hi hs => Or.inr (Or.inl hs))
  exact q4.trans hk5 (fun i hi hs => Or.inr (Foot.moved m14 i hi hs))

set_option maxHeartbeats 1000000 in
set_option maxRecDepth 100000 in
theorem number_any (E b L : Nat) (nx : Value) (le : Bool) (v : Value) (l : List UInt8) (ind : Nat) (pl n : Int) (s : ByteArray) (w : World) (h : Enc E b (oneOpen L) nx le v l w) (hL : Lvl L false ind pl n w) (hind : ind ≤ 65536) (hlen : l.length + 4 + ind + s.size ≤ 140737488355328) :
    Calls Try.prog 17 #[.pointer (some ⟨E, 0, none⟩), .string s] w fun e w' => e = .returned (.tuple #[]) ∧ ∃ v', Enc E b (oneOpen L) nx true v' (numText le l ind pl n s) w' ∧ Lvl L false ind pl (wrap64 (n + 1)) w' ∧ Moved w v v' ∧ Kept (FootL E b L v) w w' := by
  go_enter Try.func17, Try.ntmps17
  go_wp2_with (go_at_call 24; refine (scalar_any E b L nx le v l ind pl n s _ h hL hind hlen).mono ?_)
  rintro e w1 ⟨rfl, h1⟩
  go_wp2
  go_end0
  exact ⟨rfl, h1⟩

set_option maxHeartbeats 1000000 in
set_option maxRecDepth 100000 in
theorem newListEncoder_any (le : Bool) (ind pl n : Int) (w : World) :
    Calls Try.prog 16 #[.bool le, .int .i64 ind, .int .u8 pl, .int .i64 n] w fun e w' => ∃ L, w.heap.size ≤ L ∧ e = .returned (.pointer (some ⟨w.heap.size + 1, 0, none⟩)) ∧ Enc (w.heap.size + 1) w.heap.size (oneOpen L) (.int .u8 0) le (.slice none 0 0) [] w' ∧ Lvl L false ind pl n w' ∧ Kept (fun _ => False) w w' := by
  go_enter Try.func16, Try.ntmps16
  go_wp2_with (go_at_call 8; refine (newEncoder_any le _).mono ?_)
  rintro e w1 ⟨rfl, h1, hk1⟩
  have hE1 := h1.1
  have hlt := lt_of_heap hE1
  have c1 : w1.cell? ⟨w.heap.size + 1, 1, none⟩ = some (.slice none 0 0) := by rw [Lib.cell_of_heap hE1]; rfl
  have f1 : w1.frozen? ⟨w.heap.size + 1, 1, none⟩ = false := Lib.frozen_of_heap hE1 1
  clear hE1
  go_wp2
  go_ret
  have ks := Kept.setCell w1 ⟨w.heap.size + 1, 1, none⟩ (.slice (some ⟨w1.heap.size, 0, none⟩) 1 1)
  have ka := Kept.alloc (w1.setCell ⟨w.heap.size + 1, 1, none⟩ (.slice (some ⟨w1.heap.size, 0, none⟩) 1 1)) (.cells #[.bool false, .int .i64 ind, .int .u8 pl, .int .i64 n] 51) (fun _ => False)
  have hsz : (w1.setCell ⟨w.heap.size + 1, 1, none⟩ (.slice (some ⟨w1.heap.size, 0, none⟩) 1 1)).heap.size = w1.heap.size := by simp [World.setCell]
  have h2 : Enc (w.heap.size + 1) w.heap.size (oneOpen w1.heap.size) (.int .u8 0) le (.slice none 0 0) [] (w1.setCell ⟨w.heap.size + 1, 1, none⟩ (.slice (some ⟨w1.heap.size, 0, none⟩) 1 1)) := by
    refine ⟨?_, h1.2.kept ks (fun e => h1.ne e.symm) (fun g hg e => h1.neOwn (by rw [hg, e]))⟩
    simp [World.setCell, Array.getElem?_modify, h1.1, oneOpen]
  refine ⟨w1.heap.size, by omega, rfl, h2.kept ka (fun _ h => h.elim), ?_, ?_⟩
  · have := heap_alloc_new (w1.setCell ⟨w.heap.size + 1, 1, none⟩ (.slice (some ⟨w1.heap.size, 0, none⟩) 1 1)) (.cells #[.bool false, .int .i64 ind, .int .u8 pl, .int .i64 n] 51)
    rw [hsz] at this
    exact this
  · exact (hk1.trans ks (fun i hi hs => by simp at hs; omega)).trans ka (fun _ _ h => h)

set_option maxHeartbeats 1000000 in
set_option maxRecDepth 100000 in
theorem topN_any (E L : Nat) (x nx : Value) (le : Bool) (ind pl n : Int) (w : World) (hE : w.heap[E]? = some (.cells #[x, oneOpen L, nx, .bool le] 49 (0, 0))) (hL : Lvl L false ind pl n w) :
    Calls Try.prog 18 #[.pointer (some ⟨E, 0, none⟩)] w fun e w' => e = .returned (.int .i64 n) ∧ w' = w.drew := by
  unfold Lvl at hL
  have e1 : w.cell? ⟨E, 1, none⟩ = some (.slice (some ⟨L, 0, none⟩) 1 1) := by rw [Lib.cell_of_heap hE]; rfl
  have l3 : w.cell? ⟨L, 3, none⟩ = some (.int .i64 n) := by rw [Lib.cell_of_heap hL]; rfl
  clear hE hL
  go_enter Try.func18, Try.ntmps18
  go_wp2
  go_region
  all_goals (go_wp2; go_ret; exact ⟨rfl, rfl⟩)


end Go.Proofs.Qxb6614816a
