import Derived.Test.Qxb6616250aProg
import Derived.WalkKit
import Derived.WalkLawsBesides
import Derived.Below
import Derived.Laws.MakeOwn
import Derived.Laws.Rows
import Derived.Deep.RegionWith
import Derived.BigQuiet
namespace Go.Proofs.Qxb6616250a
open Go.RowKit

/-- w' is w but for new blocks and the blocks in S. -/
structure Kept (S : Nat → Prop) (w w' : World) : Prop where
  os : w'.os = w.os
  tape : w'.tape = w.tape
  output : w'.output = w.output
  size : w.heap.size ≤ w'.heap.size
  block : ∀ k, k < w.heap.size → ¬ S k → w'.heap[k]? = w.heap[k]?

theorem Kept.refl (S : Nat → Prop) (w : World) : Kept S w w := ⟨rfl, rfl, rfl, Nat.le_refl _, fun _ _ _ => rfl⟩
theorem Kept.trans {S T : Nat → Prop} {a b c : World} (h : Kept S a b) (k : Kept T b c) (hT : ∀ i, i < a.heap.size → T i → S i) : Kept S a c :=
  ⟨k.os.trans h.os, k.tape.trans h.tape, k.output.trans h.output, Nat.le_trans h.size k.size,
   fun i hi hs => (k.block i (Nat.lt_of_lt_of_le hi h.size) (fun t => hs (hT i hi t))).trans (h.block i hi hs)⟩
theorem Kept.setCell (w : World) (p : Addr) (u : Value) : Kept (fun k => k = p.block) w (w.setCell p u) :=
  ⟨rfl, rfl, rfl, by simp [World.setCell], fun k _ hk => Below.heap_setCell _ _ _ _ hk⟩
theorem Kept.alloc (w : World) (o : Obj) (S : Nat → Prop) : Kept S w (w.alloc o) :=
  ⟨rfl, rfl, rfl, by simp, fun k hk _ => Below.heap_alloc _ _ _ hk⟩
theorem Kept.below {S : Nat → Prop} {B : Nat} {w w' : World} (h : Kept S w w') (hB : B ≤ w.heap.size) (hS : ∀ k, k < B → ¬ S k) : Below B w w' :=
  ⟨h.os, h.tape, h.output, h.size, fun k hk => h.block k (by omega) (hS k hk)⟩

theorem Kept.undrew {S : Nat → Prop} {w w' : World} (h : Kept S w.drew w') : Kept S w w' := ⟨h.os, h.tape, h.output, h.size, h.block⟩

theorem lt_of_heap {w : World} {b : Nat} {o : Obj} (h : w.heap[b]? = some o) : b < w.heap.size := (Array.getElem?_eq_some_iff.1 h).1
theorem cell_of_heap {w : World} {b : Nat} {cs : Array Value} {T : TypeId} {fr : Nat × Nat} (hb : w.heap[b]? = some (.cells cs T fr)) (j : Nat) : w.cell? ⟨b, j, none⟩ = cs[j]? := by simp [World.cell?, hb]
theorem frozen_of_heap {w : World} {b : Nat} {cs : Array Value} {T : TypeId} (hb : w.heap[b]? = some (.cells cs T (0, 0))) (j : Nat) : w.frozen? ⟨b, j, none⟩ = false := by simp [World.frozen?, hb]

/-- a slice of len strings; string i is tx i. -/
def Texts (w : World) (ao : Option Addr) (len : Nat) (tx : Nat → ByteArray) : Prop :=
  0 < len → ∃ b off, ao = some ⟨b, off, none⟩ ∧ b < w.heap.size ∧ ∀ i, i < len → w.cell? ⟨b, off + i, none⟩ = some (.string (tx i))

theorem Texts.below {w w' : World} {ao : Option Addr} {len : Nat} {tx : Nat → ByteArray} (h : Texts w ao len tx) (k : Below w.heap.size w w') : Texts w' ao len tx := by
  intro h0
  obtain ⟨b, off, e, hb, hc⟩ := h h0
  exact ⟨b, off, e, Nat.lt_of_lt_of_le hb k.size, fun i hi => (World.cell?_of_block (w := w) (k.block b hb)).trans (hc i hi)⟩

/-- the first m texts are short. -/
def Short (tx : Nat → ByteArray) (m : Nat) : Prop := ∀ i, i < m → (tx i).size ≤ 1048576

theorem Short.snoc {tx : Nat → ByteArray} {m : Nat} (h : Short tx m) (h1 : (tx m).size ≤ 1048576) : Short tx (m + 1) := by
  intro i hi
  rcases Nat.lt_succ_iff_lt_or_eq.1 hi with h' | h'
  · exact h i h'
  · subst h'; exact h1

def BytesPost (w : World) (len : Nat) (tx : Nat → ByteArray) (e : Ending) (w' : World) : Prop := ∃ r, e = .returned (.bool r) ∧ w = w' ∧ (r = true → len ≤ 1048576 ∧ Short tx len)

set_option maxHeartbeats 1000000 in
set_option maxRecDepth 100000 in
theorem zzBytes_any (ao : Option Addr) (len cap : Nat) (tx : Nat → ByteArray) (m t : ByteArray) (w : World) (ht : Texts w ao len tx) (hcap : len ≤ 9223372036854775807) (htx : ∀ i, i < len → (tx i).size ≤ maxLen) (hm : m.size ≤ maxLen) (htt : t.size ≤ maxLen) :
    Calls Try.prog 4 #[.slice ao len cap, .string m, .string t] w (BytesPost w len tx) := by
  unfold maxLen at hm htt
  by_cases h1 : 1048576 < len
  · go_enter Try.func4, Try.ntmps4
    go_wp2
    go_ret
    exact ⟨false, rfl, rfl, by simp⟩
  · go_enter Try.func4, Try.ntmps4
    go_wp2
    go_loop [7, 8] (fun z i => ∃ (k m : Nat), k ≤ len ∧ m ≤ 1048576 ∧ i = .int .i64 k ∧ z = .int .i64 m ∧ Short tx k) (fun _ i => len - (intOf i).toNat)
    case atStart => exact ⟨0, len, Nat.zero_le _, by omega, rfl, rfl, fun i hi => by omega⟩
    case round =>
      obtain ⟨k, z, hk, hz, rfl, rfl, hsh⟩ := hrel
      by_cases hlt : k < len
      · obtain ⟨b, off, rfl, hb, hc⟩ := ht (by omega)
        have hck := hc k hlt
        have hmx := htx k hlt
        unfold maxLen at hmx
        clear hc htx
        by_cases h2 : 1048576 < (tx k).size
        · go_wp2
          go_ret
          exact ⟨false, rfl, rfl, by simp⟩
        · by_cases h3 : 1048576 < z + (tx k).size
          · go_wp2
            go_ret
            exact ⟨false, rfl, rfl, by simp⟩
          · go_wp2
            go_round
            case rel => exact ⟨k + 1, z + (tx k).size, by omega, by omega, by go_num, by go_num, hsh.snoc (by omega)⟩
            case measure => simp [intOf]; omega
      · have hkl : len = k := by omega
        subst hkl
        by_cases g1 : 1048576 < m.size
        · go_wp2
          go_ret
          exact ⟨false, rfl, rfl, by simp⟩
        by_cases g2 : 1048576 < z + m.size
        · go_wp2
          go_ret
          exact ⟨false, rfl, rfl, by simp⟩
        by_cases g3 : 1048576 < t.size
        · go_wp2
          go_ret
          exact ⟨false, rfl, rfl, by simp⟩
        by_cases g4 : 1048576 < z + m.size + t.size
        · go_wp2
          go_ret
          exact ⟨false, rfl, rfl, by simp⟩
        go_wp2
        go_ret
        exact ⟨true, rfl, rfl, fun _ => ⟨by omega, hsh⟩⟩

def FitsPost (w : World) (len : Nat) (e : Ending) (w' : World) : Prop := ∃ r, e = .returned (.bool r) ∧ w = w' ∧ (r = true → len ≤ 4096)

set_option maxHeartbeats 1000000 in
set_option maxRecDepth 100000 in
theorem fits_any (ao : Option Addr) (len cap : Nat) (tx : Nat → ByteArray) (m t : ByteArray) (w : World) (ht : Texts w ao len tx) (hcap : len ≤ 1048576) (htx : Short tx len) (hm : m.size ≤ maxLen) (htt : t.size ≤ maxLen) :
    Calls Try.prog 5 #[.slice ao len cap, .string m, .string t] w (FitsPost w len) := by
  unfold maxLen at hm htt
  by_cases h1 : 4096 < len
  · go_enter Try.func5, Try.ntmps5
    go_wp2
    go_ret
    exact ⟨false, rfl, rfl, by simp⟩
  by_cases h2 : 1048576 < m.size
  · go_enter Try.func5, Try.ntmps5
    go_wp2
    go_ret
    exact ⟨false, rfl, rfl, by simp⟩
  by_cases h3 : 1048576 < t.size
  · go_enter Try.func5, Try.ntmps5
    go_wp2
    go_ret
    exact ⟨false, rfl, rfl, by simp⟩
  by_cases h4 : 1048576 < m.size + t.size + 16 * len
  · go_enter Try.func5, Try.ntmps5
    go_wp2
    go_ret
    exact ⟨false, rfl, rfl, by simp⟩
  go_enter Try.func5, Try.ntmps5
  go_wp2
  go_loop [7, 8] (fun z i => ∃ (k m : Nat), k ≤ len ∧ m ≤ 1048576 ∧ i = .int .i64 k ∧ z = .int .i64 m) (fun _ i => len - (intOf i).toNat)
  case atStart => exact ⟨0, m.size + t.size + 16 * len, Nat.zero_le _, by omega, rfl, by go_num⟩
  case round =>
    obtain ⟨k, z, hk, hz, rfl, rfl⟩ := hrel
    by_cases hlt : k < len
    · obtain ⟨b, off, rfl, hb, hc⟩ := ht (by omega)
      have hck := hc k hlt
      have hmx := htx k hlt
      clear hc htx
      by_cases h5 : 1048576 < z + (tx k).size
      · go_wp2
        go_ret
        exact ⟨false, rfl, rfl, by simp⟩
      · go_wp2
        go_round
        case rel => exact ⟨k + 1, z + (tx k).size, by omega, by omega, by go_num, by go_num⟩
        case measure => simp [intOf]; omega
    · have hkl : len = k := by omega
      subst hkl
      go_wp2
      go_ret
      exact ⟨true, rfl, rfl, fun _ => by omega⟩

/-- code i, or none. -/
def cd (tx : Nat → ByteArray) (len i : Nat) : ByteArray := if i < len then tx i else { data := #[] }

set_option maxRecDepth 100000 in
theorem codeAt_any (ao : Option Addr) (len cap : Nat) (tx : Nat → ByteArray) (i : Nat) (w : World) (ht : Texts w ao len tx) (hcap : len ≤ 4096) (hi : i ≤ 4096) :
    Calls Try.prog 8 #[.slice ao len cap, .int .i64 i] w fun e w' => e = .returned (.string (cd tx len i)) ∧ w = w' := by
  by_cases h : i < len
  · obtain ⟨b, off, rfl, hb, hc⟩ := ht (by omega)
    have hck := hc i h
    clear hc
    have e : cd tx len i = tx i := by simp [cd, h]
    rw [e]
    go_enter Try.func8, Try.ntmps8
    go_wp2
    go_ret
    exact ⟨rfl, rfl⟩
  · have e : cd tx len i = { data := #[] } := by simp [cd, h]
    rw [e]
    go_enter Try.func8, Try.ntmps8
    go_wp2
    go_ret
    exact ⟨rfl, rfl⟩

set_option maxRecDepth 100000 in
theorem new_any (c m t : ByteArray) (w : World) :
    Calls Try.prog 10 #[.string c, .string m, .string t] w fun e w' => e = .returned (.pointer (some ⟨w.heap.size + 1, 0, none⟩)) ∧ w' = (w.alloc (.cells #[.string t] 43)).alloc (.cells #[.string c, .string m, .iface 41 (.pointer (some ⟨w.heap.size, 0, none⟩))] 31) := by
  go_enter Try.func10, Try.ntmps10
  go_wp2_with (go_at_call 13; go_in)
  go_ret
  exact ⟨rfl, rfl⟩

set_option maxRecDepth 100000 in
theorem wrap_any (c m : ByteArray) (a : Nat) (w : World) :
    Calls Try.prog 11 #[.string c, .string m, .pointer (some ⟨a, 0, none⟩)] w fun e w' => e = .returned (.pointer (some ⟨w.heap.size, 0, none⟩)) ∧ w' = w.alloc (.cells #[.string c, .string m, .iface 26 (.pointer (some ⟨a, 0, none⟩))] 31) := by
  go_enter Try.func11, Try.ntmps11
  go_wp2
  go_ret
  exact ⟨rfl, rfl⟩

set_option maxRecDepth 100000 in
theorem unwrap_any (a : Nat) (c m e : Value) (fr : Nat × Nat) (w : World) (h : w.heap[a]? = some (.cells #[c, m, e] 31 fr)) :
    Calls Try.prog 12 #[.pointer (some ⟨a, 0, none⟩)] w fun r w' => r = .returned e ∧ w = w' := by
  have c2 : w.cell? ⟨a, 2, none⟩ = some e := by rw [cell_of_heap h]; rfl
  clear h
  go_enter Try.func12, Try.ntmps12
  go_wp2
  go_ret
  exact ⟨rfl, rfl⟩

theorem ta26 (a : Addr) (w : World) : (Instr.typeAssert (.iface 26 (.pointer (some a))) 29 26 true).run Try.prog w = .ok (.tuple #[.pointer (some a), .bool true]) w := by kernel_rfl
theorem ta41 (a : Addr) (w : World) : (Instr.typeAssert (.iface 41 (.pointer (some a))) 29 26 true).run Try.prog w = .ok (.tuple #[.pointer none, .bool false]) w := by kernel_rfl

set_option maxRecDepth 100000 in
theorem unwrapRej_any (a b : Nat) (c m : Value) (fr : Nat × Nat) (w : World) (h : w.heap[a]? = some (.cells #[c, m, .iface 26 (.pointer (some ⟨b, 0, none⟩))] 31 fr)) :
    Calls Try.prog 7 #[.pointer (some ⟨a, 0, none⟩)] w fun r w' => r = .returned (.pointer (some ⟨b, 0, none⟩)) ∧ w = w' := by
  have ta := ta26 ⟨b, 0, none⟩ w
  go_enter Try.func7, Try.ntmps7
  go_wp2_with (go_at_call 12; refine (unwrap_any a c m _ fr _ h).mono ?_; rintro e wx ⟨rfl, rfl⟩)
  go_ret
  exact ⟨rfl, rfl⟩

set_option maxRecDepth 100000 in
theorem unwrapRej_none (a b : Nat) (c m : Value) (fr : Nat × Nat) (w : World) (h : w.heap[a]? = some (.cells #[c, m, .iface 41 (.pointer (some ⟨b, 0, none⟩))] 31 fr)) :
    Calls Try.prog 7 #[.pointer (some ⟨a, 0, none⟩)] w fun r w' => r = .returned (.pointer none) ∧ w = w' := by
  have ta := ta41 ⟨b, 0, none⟩ w
  go_enter Try.func7, Try.ntmps7
  go_wp2_with (go_at_call 12; refine (unwrap_any a c m _ fr _ h).mono ?_; rintro e wx ⟨rfl, rfl⟩)
  go_ret
  exact ⟨rfl, rfl⟩

theorem meth_err (a : Addr) (w : World) : (method 160 41 (.pointer (some a)) "Error").run Try.prog w = .ok (30, .pointer (some a)) w := by kernel_rfl

set_option maxRecDepth 100000 in
theorem unwrapText_some (a b : Nat) (c m : Value) (t : ByteArray) (fr fr' : Nat × Nat) (w : World) (h : w.heap[a]? = some (.cells #[c, m, .iface 41 (.pointer (some ⟨b, 0, none⟩))] 31 fr)) (hb : w.heap[b]? = some (.cells #[.string t] 43 fr')) :
    Calls Try.prog 9 #[.pointer (some ⟨a, 0, none⟩)] w fun r w' => r = .returned (.tuple #[.bool false, .string t]) ∧ w = w' := by
  have c0 : w.cell? ⟨b, 0, none⟩ = some (.string t) := by rw [cell_of_heap hb]; rfl
  have mm := meth_err
  go_enter Try.func9, Try.ntmps9
  go_wp2_with (first | (go_at_call 12; refine (unwrap_any a c m _ fr _ h).mono ?_; rintro e wx ⟨rfl, rfl⟩) | (go_at_call 30; go_in))
  go_ret2
  exact ⟨rfl, rfl⟩

set_option maxRecDepth 100000 in
theorem unwrapText_none (a : Nat) (c m : Value) (fr : Nat × Nat) (w : World) (h : w.heap[a]? = some (.cells #[c, m, .nilIface] 31 fr)) :
    Calls Try.prog 9 #[.pointer (some ⟨a, 0, none⟩)] w fun r w' => r = .returned (.tuple #[.bool true, .string { data := #[] }]) ∧ w = w' := by
  go_enter Try.func9, Try.ntmps9
  go_wp2_with (first | (go_at_call 12; refine (unwrap_any a c m _ fr _ h).mono ?_; rintro e wx ⟨rfl, rfl⟩))
  go_ret2
  exact ⟨rfl, rfl⟩

/-- the pointer to layer i, the row at block L. -/
def ptr (L i : Nat) : Value := .pointer (some ⟨L + 2 + i, 0, none⟩)
/-- layer i. -/
def layer (L : Nat) (tx : Nat → ByteArray) (len : Nat) (m : ByteArray) (i : Nat) : Obj :=
  .cells #[.string (cd tx len i), .string m, if i = 0 then .iface 41 (.pointer (some ⟨L + 1, 0, none⟩)) else .iface 26 (.pointer (some ⟨L + 2 + (i - 1), 0, none⟩))] 31

/-- k layers stand; the row of n pointers lies at block L. -/
structure Chain (L : Nat) (tx : Nat → ByteArray) (len : Nat) (m t : ByteArray) (n k : Nat) (cur : Array Value) (w : World) : Prop where
  row : w.heap[L]? = some (.cells cur 26 (0, 0))
  size : cur.size = n
  at_ : ∀ j, j < k → cur[j]? = some (ptr L j)
  lay : ∀ j, j < k → w.heap[L + 2 + j]? = some (layer L tx len m j)
  err : w.heap[L + 1]? = some (.cells #[.string t] 43)
  top : w.heap.size = L + 2 + k

/-- .. and layer k, not yet in the row. -/
structure Half (L : Nat) (tx : Nat → ByteArray) (len : Nat) (m t : ByteArray) (n k : Nat) (cur : Array Value) (w : World) : Prop where
  row : w.heap[L]? = some (.cells cur 26 (0, 0))
  size : cur.size = n
  at_ : ∀ j, j < k → cur[j]? = some (ptr L j)
  lay : ∀ j, j < k + 1 → w.heap[L + 2 + j]? = some (layer L tx len m j)
  err : w.heap[L + 1]? = some (.cells #[.string t] 43)
  top : w.heap.size = L + 2 + (k + 1)

theorem Half.put {L : Nat} {tx : Nat → ByteArray} {len : Nat} {m t : ByteArray} {n k : Nat} {cur : Array Value} {w : World} (h : Half L tx len m t n k cur w) (hk : k < n) :
    Chain L tx len m t n (k + 1) (cur.set! k (ptr L k)) (w.setCell ⟨L, k, none⟩ (ptr L k)) := by
  have hne : ∀ j, j ≠ L → (w.setCell ⟨L, k, none⟩ (ptr L k)).heap[j]? = w.heap[j]? := fun j hj => Below.heap_setCell _ _ _ _ hj
  constructor
  · simp [World.setCell, Array.getElem?_modify, h.row]
  · simp [h.size]
  · intro j hj
    by_cases e : j = k
    · subst e
      have : j < cur.size := by rw [h.size]; exact hk
      simp [this]
    · simp [Ne.symm e]
      exact h.at_ j (by omega)
  · intro j hj
    rw [hne _ (by omega)]
    exact h.lay j hj
  · rw [hne _ (by omega)]; exact h.err
  · simp [World.setCell, h.top]

theorem Chain.half {L : Nat} {tx : Nat → ByteArray} {len : Nat} {m t : ByteArray} {n k : Nat} {cur : Array Value} {w : World} (h : Chain L tx len m t n k cur w) :
    Half L tx len m t n k cur (w.alloc (layer L tx len m k)) := by
  have hs := h.top
  have hold : ∀ j, j < w.heap.size → (w.alloc (layer L tx len m k)).heap[j]? = w.heap[j]? := fun j hj => Below.heap_alloc _ _ _ hj
  refine ⟨(hold L (by omega)).trans h.row, h.size, h.at_, ?_, (hold _ (by omega)).trans h.err, by simp [h.top]; omega⟩
  intro j hj
  by_cases e : j = k
  · subst e
    rw [← h.top]; exact heap_alloc_new w _
  · rw [hold _ (by omega)]; exact h.lay j (by omega)

theorem first_half {tx : Nat → ByteArray} {len : Nat} {m t : ByteArray} {n : Nat} {cur : Array Value} {w w1 : World} (hw : w1 = w.alloc (.cells cur 26 (0, 0))) (hn : cur.size = n) :
    Half w.heap.size tx len m t n 0 cur ((w1.alloc (.cells #[.string t] 43)).alloc (.cells #[.string (cd tx len 0), .string m, .iface 41 (.pointer (some ⟨w1.heap.size, 0, none⟩))] 31)) ∧ w1.heap.size = w.heap.size + 1 := by
  have e1 : w1.heap.size = w.heap.size + 1 := by rw [hw]; simp
  have r1 : w1.heap[w.heap.size]? = some (.cells cur 26 (0, 0)) := by rw [hw]; exact heap_alloc_new w _
  have e2 : (w1.alloc (.cells #[.string t] 43)).heap.size = w.heap.size + 2 := by simp [e1]
  have h1 : (w1.alloc (.cells #[.string t] 43)).heap[w1.heap.size]? = some (.cells #[.string t] 43) := heap_alloc_new w1 _
  refine ⟨⟨?_, hn, fun j hj => by omega, ?_, ?_, ?_⟩, e1⟩
  · rw [Below.heap_alloc _ _ _ (by omega), Below.heap_alloc _ _ _ (by omega)]; exact r1
  · intro j hj
    have : j = 0 := by omega
    subst this
    rw [show w.heap.size + 2 + 0 = (w1.alloc (.cells #[.string t] 43)).heap.size by rw [e2], heap_alloc_new, e1]
    rfl
  · rw [Below.heap_alloc _ _ _ (by omega), ← e1]; exact h1
  · simp [e1]

theorem new_first {tx : Nat → ByteArray} {len : Nat} {m t : ByteArray} {n : Nat} {cur : Array Value} {w w1 : World} (hw : w1 = w.alloc (.cells cur 26 (0, 0))) (hn : cur.size = n) :
    Calls Try.prog 10 #[.string (cd tx len 0), .string m, .string t] w1 fun e w' => e = .returned (.pointer (some ⟨w.heap.size + 2, 0, none⟩)) ∧ Half w.heap.size tx len m t n 0 cur w' ∧ Kept (fun _ => False) w1 w' := by
  obtain ⟨h, e1⟩ := first_half (tx := tx) (len := len) (m := m) (t := t) hw hn
  refine (new_any (cd tx len 0) m t w1).mono ?_
  rintro e w' ⟨rfl, rfl⟩
  exact ⟨by rw [e1], h, (Kept.alloc _ _ _).trans (Kept.alloc _ _ _) (fun _ _ h => h)⟩

theorem wrap_next {L : Nat} {tx : Nat → ByteArray} {len : Nat} {m t : ByteArray} {n k : Nat} {cur : Array Value} {w : World} (h : Chain L tx len m t n (k + 1) cur w) (hl : k + 1 < len) (wd : World) (hd : wd.heap = w.heap) :
    Calls Try.prog 11 #[.string (tx (k + 1)), .string m, .pointer (some ⟨L + 2 + k, 0, none⟩)] wd fun e w' => e = .returned (.pointer (some ⟨L + 2 + (k + 1), 0, none⟩)) ∧ Half L tx len m t n (k + 1) cur w' ∧ Kept (fun _ => False) wd w' := by
  have hc : Chain L tx len m t n (k + 1) cur wd := ⟨hd ▸ h.row, h.size, h.at_, hd ▸ h.lay, hd ▸ h.err, hd ▸ h.top⟩
  refine (wrap_any (tx (k + 1)) m (L + 2 + k) wd).mono ?_
  rintro e w' ⟨rfl, rfl⟩
  refine ⟨by rw [hc.top], ?_, Kept.alloc _ _ _⟩
  have := hc.half
  unfold layer at this
  rw [if_neg (by omega), Nat.add_sub_cancel, show cd tx len (k + 1) = tx (k + 1) by simp [cd, hl]] at this
  exact this

theorem wrapEq' (x : Int) (h0 : 0 ≤ x) (h1 : x ≤ 4096) : IntKind.i64.wrap x = x := by
  rw [IntKind.wrap_i64]; omega
theorem wrapEq (x : Int) (h0 : 0 ≤ x) (h1 : x ≤ 4096) : IntKind.i64.wrap (x + 1 - 1) = x := by
  rw [Int.add_sub_cancel]; exact wrapEq' x h0 h1

theorem info26 : (Try.prog.info? 26).map (fun i => (i.zero, i.size, i.bytes)) = some (some (.pointer none), 1, 8) := by kernel_rfl

theorem make_row (W : World) (n : Nat) (h0 : 0 < n) (h : n ≤ 4096) :
    ∃ w1 cur, (Instr.makeSlice 24 (.int .i64 (n : Int)) (.int .i64 (n : Int))).run Try.prog W = .ok (.slice (some ⟨W.heap.size, 0, none⟩) n n) w1 ∧
      w1 = W.alloc (.cells cur 26 (0, 0)) ∧ cur.size = n := by
  obtain ⟨i0, hi, hz⟩ := Option.map_eq_some_iff.1 info26
  simp only [Prod.mk.injEq] at hz
  obtain ⟨hz0, hz1, hz2⟩ := hz
  have hr := run_make (P := Try.prog) W 24 26 i0 (.pointer none) Try.underlying24 hi hz0 .i64 .i64 (n : Int) (n : Int) (by omega) (by omega) (by rw [hz2]; omega) (by omega)
  have e : (n : Int).toNat = n := by omega
  rw [e, hz1] at hr
  exact ⟨_, _, hr, rfl, by rw [size_madeCells]; omega⟩

set_option maxHeartbeats 2000000 in
set_option maxRecDepth 100000 in
theorem build_any (ao : Option Addr) (len cap : Nat) (tx : Nat → ByteArray) (m t : ByteArray) (n : Nat) (hn : n = if len = 0 then 1 else len) (w : World) (ht : Texts w ao len tx) (hlen : len ≤ 4096) :
    Calls Try.prog 6 #[.slice ao len cap, .string m, .string t] w fun e w' => e = .returned (.slice (some ⟨w.heap.size, 0, none⟩) n n) ∧ ∃ cur, Chain w.heap.size tx len m t n n cur w' ∧ Kept (fun _ => False) w w' := by
  have hn0 : 0 < n := by rw [hn]; split <;> omega
  have hn1 : n ≤ 4096 := by rw [hn]; split <;> omega
  have hnl : n = len ∨ n = 1 := by rw [hn]; split <;> omega
  obtain ⟨w1, cur, hmk, hw1, hcs⟩ := make_row w n hn0 hn1
  have k1 : Kept (fun _ => False) w w1 := by rw [hw1]; exact Kept.alloc _ _ _
  have ht1 : Texts w1 ao len tx := ht.below (k1.below (Nat.le_refl _) (fun _ _ h => h))
  have hF := new_first (tx := tx) (len := len) (m := m) (t := t) hw1 hcs
  clear hw1
  by_cases hz : len = 0
  · have e : n = 1 := by rw [hn, if_pos hz]
    subst e
    subst hz
    have hmk1 : (Instr.makeSlice 24 (.int .i64 1) (.int .i64 1)).run Try.prog w = .ok (.slice (some ⟨w.heap.size, 0, none⟩) 1 1) w1 := hmk
    clear hn hnl hmk
    go_enter Try.func6, Try.ntmps6
    go_wp2_with (first | (go_at_call 8; refine (codeAt_any ao 0 cap tx 0 _ ht1 hlen (by omega)).mono ?_; rintro e wx ⟨rfl, rfl⟩) | (go_at_call 10; refine hF.mono ?_; rintro e w2 ⟨rfl, hH, k2⟩; have f0 := frozen_of_heap hH.row 0; obtain ⟨x0, c0⟩ : ∃ x, w2.cell? ⟨w.heap.size, 0, none⟩ = some x := ⟨_, by rw [cell_of_heap hH.row, Array.getElem?_eq_getElem (by rw [hcs]; exact hn0)]⟩))
    have hC0 := hH.put hn0
    have k3 : Kept (fun _ => False) w (w2.setCell ⟨w.heap.size, 0, none⟩ (ptr w.heap.size 0)) := (k1.trans k2 (fun _ _ h => h)).trans (Kept.setCell _ _ _) (fun i hi h => by simp at h; omega)
    clear hH f0 c0 hF
    go_loopw [9] (fun i wr => i = .int .i64 1 ∧ ∃ cur, Chain w.heap.size tx 0 m t 1 1 cur wr ∧ Kept (fun _ => False) w wr) (fun _ _ => 0)
    case atStart => exact ⟨rfl, _, hC0, k3⟩
    case round =>
      obtain ⟨rfl, cur', hC, kr⟩ := hrel
      go_wp2
      go_ret
      exact ⟨rfl, cur', hC, kr⟩
  · have e : n = len := by rw [hn, if_neg hz]
    subst e
    clear hn hnl
    go_enter Try.func6, Try.ntmps6
    go_wp2_with (first | (go_at_call 8; refine (codeAt_any ao n cap tx 0 _ ht1 hlen (by omega)).mono ?_; rintro e wx ⟨rfl, rfl⟩) | (go_at_call 10; refine hF.mono ?_; rintro e w2 ⟨rfl, hH, k2⟩; have f0 := frozen_of_heap hH.row 0; obtain ⟨x0, c0⟩ : ∃ x, w2.cell? ⟨w.heap.size, 0, none⟩ = some x := ⟨_, by rw [cell_of_heap hH.row, Array.getElem?_eq_getElem (by rw [hcs]; exact hn0)]⟩))
    have hC0 := hH.put hn0
    have k3 : Kept (fun _ => False) w (w2.setCell ⟨w.heap.size, 0, none⟩ (ptr w.heap.size 0)) := (k1.trans k2 (fun _ _ h => h)).trans (Kept.setCell _ _ _) (fun i hi h => by simp at h; omega)
    clear hH f0 c0 hF
    go_loopw [9] (fun i wr => ∃ (k : Nat) (cur : Array Value), k + 1 ≤ n ∧ i = .int .i64 ((k : Int) + 1) ∧ Chain w.heap.size tx n m t n (k + 1) cur wr ∧ Kept (fun _ => False) w wr) (fun i _ => n - (intOf i).toNat)
    case atStart => exact ⟨0, _, by omega, rfl, hC0, k3⟩
    case round =>
      obtain ⟨k, cur', hk, rfl, hC, kr⟩ := hrel
      clear hC0 k3
      by_cases hlt : k + 1 < n
      · have htr : Texts wr ao n tx := ht.below (kr.below (Nat.le_refl _) (fun _ _ h => h))
        obtain ⟨b, off, rfl, hb, hc⟩ := htr (by omega)
        have hck := hc (k + 1) hlt
        have hlk : wr.cell? ⟨w.heap.size, k, none⟩ = some (.pointer (some ⟨w.heap.size + 2 + k, 0, none⟩)) := by rw [cell_of_heap hC.row]; exact hC.at_ k (by omega)
        clear hc ht ht1
        have b1 : (k : Int) < (n : Int) := by omega
        have b2 : (k : Int) + 1 < (n : Int) := by omega
        have b3 : (0 : Int) ≤ (k : Int) + 1 := by omega
        have b4 : IntKind.i64.wrap ((k : Int) + 1 - 1) = (k : Int) := wrapEq _ (by omega) (by omega)
        have b5 : IntKind.i64.wrap (k : Int) = (k : Int) := wrapEq' _ (by omega) (by omega)
        have b6 : ((k : Int) + 1).toNat = k + 1 := by omega
        go_wp2_with fail
        go_region_with (go_at_call 11; refine (wrap_next hC hlt wr.drew rfl).mono ?_; rintro e w3 ⟨rfl, hH, k4⟩; have f0 := frozen_of_heap hH.row (k + 1); obtain ⟨x0, c0⟩ : ∃ x, w3.cell? ⟨w.heap.size, k + 1, none⟩ = some x := ⟨_, by rw [cell_of_heap hH.row, Array.getElem?_eq_getElem (by rw [hH.size]; exact hlt)]⟩)
        all_goals
          go_wp2
          go_roundw
          case rel => exact ⟨k + 1, _, by omega, by go_num, hH.put hlt, (kr.trans k4.undrew (fun _ _ h => h)).trans (Kept.setCell _ _ _) (fun i hi h => by simp at h; omega)⟩
          case measure => simp [intOf]; omega
      · have e : n = k + 1 := by omega
        subst e
        go_wp2
        go_ret
        exact ⟨rfl, cur', hC, kr⟩

end Go.Proofs.Qxb6616250a
