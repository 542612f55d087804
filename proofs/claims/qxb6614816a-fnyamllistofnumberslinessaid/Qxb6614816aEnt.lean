import Derived.Test.Qxb6614816aEnc
namespace Go.Proofs.Qxb6614816a
open Go.RowKit

theorem entry_any (E b L : Nat) (op nx : Value) (le im : Bool) (v : Value) (l : List UInt8) (ind : Nat) (pl n : Int) (w : World) (h : Enc E b op nx le v l w) (hL : Lvl L im ind pl n w) (hind : ind ≤ 65536) (hlen : l.length + 1 + ind ≤ 140737488355328) :
    Calls Try.prog 22 #[.pointer (some ⟨E, 0, none⟩), .pointer (some ⟨L, 0, none⟩)] w fun e w' => e = .returned (.tuple #[]) ∧ ∃ v', Enc E b op nx (entryLe le pl n) v' (entryText le l ind pl n) w' ∧ Lvl L im ind pl (wrap64 (n + 1)) w' ∧ Moved w v v' ∧ Kept (FootL E b L v) w w' := by
  by_cases hc : n = 0 ∧ pl = 1
  · obtain ⟨rfl, rfl⟩ := hc
    refine (entry_first E b L op nx le im v l ind w h hL (by omega)).mono ?_
    rintro e w' ⟨rfl, v', h1, h2, h3, h4⟩
    exact ⟨rfl, v', by simpa [entryLe, entryText] using h1, by simpa [wrap64] using h2, h3, h4⟩
  · refine (entry_line E b L op nx le im v l ind pl n w h hL hind hlen ?_).mono ?_
    · by_cases hn : n = 0
      · right; refine ⟨by simp [hn], ?_⟩
        have : pl ≠ 1 := fun e => hc ⟨hn, e⟩
        simpa using this
      · left; simpa using hn
    · rintro e w' ⟨rfl, v', h1, h2, h3, h4⟩
      exact ⟨rfl, v', by simpa [entryLe, entryText, hc] using h1, h2, h3, h4⟩

set_option maxHeartbeats 1000000 in
set_option maxRecDepth 100000 in
theorem zzentry_any (E b L : Nat) (op nx : Value) (le im : Bool) (v : Value) (l : List UInt8) (ind : Nat) (pl n : Int) (w : World) (h : Enc E b op nx le v l w) (hL : Lvl L im ind pl n w) (hind : ind ≤ 65536) (hlen : l.length + 1 + ind ≤ 140737488355328) :
    Calls Try.prog 10 #[.pointer (some ⟨E, 0, none⟩), .pointer (some ⟨L, 0, none⟩)] w fun e w' => e = .returned (.tuple #[]) ∧ ∃ v', Enc E b op nx (entryLe le pl n) v' (entryText le l ind pl n) w' ∧ Lvl L im ind pl (wrap64 (n + 1)) w' ∧ Moved w v v' ∧ Kept (FootL E b L v) w w' := by
  go_enter Try.func10, Try.ntmps10
  go_wp2_with (go_at_call 22; refine (entry_any E b L op nx le im v l ind pl n _ h hL hind hlen).mono ?_)
  rintro e w1 ⟨rfl, h1⟩
  go_wp2
  go_end0
  exact ⟨rfl, h1⟩

set_option maxHeartbeats 1000000 in
set_option maxRecDepth 100000 in
theorem newEncoder_any (le : Bool) (w : World) :
    Calls Try.prog 8 #[.bool le] w fun e w' => e = .returned (.pointer (some ⟨w.heap.size + 1, 0, none⟩)) ∧ Enc (w.heap.size + 1) w.heap.size (.slice none 0 0) (.int .u8 0) le (.slice none 0 0) [] w' ∧ Kept (fun _ => False) w w' := by
  go_enter Try.func8, Try.ntmps8
  go_wp2
  go_ret
  refine ⟨rfl, ⟨by rw [show w.heap.size + 1 = (w.alloc (.cells #[.pointer none, .slice none 0 0] 43)).heap.size by simp]; exact heap_alloc_new _ _, ⟨.pointer none, Or.inl rfl, ?_, World.ownsRow_nil _ _ _ _⟩⟩, (Kept.alloc w _ (fun _ => False)).trans (Kept.alloc _ _ (fun _ => False)) (fun _ _ h => h)⟩
  rw [Below.heap_alloc _ _ _ (by simp)]
  exact heap_alloc_new w _

set_option maxHeartbeats 1000000 in
set_option maxRecDepth 100000 in
theorem newLevel_any (im : Bool) (ind pl n : Int) (w : World) :
    Calls Try.prog 9 #[.bool im, .int .i64 ind, .int .u8 pl, .int .i64 n] w fun e w' => e = .returned (.pointer (some ⟨w.heap.size, 0, none⟩)) ∧ Lvl w.heap.size im ind pl n w' ∧ Kept (fun _ => False) w w' := by
  go_enter Try.func9, Try.ntmps9
  go_wp2
  go_ret
  exact ⟨rfl, heap_alloc_new w _, Kept.alloc w _ _⟩

theorem ta41 (a : Addr) (w : World) : (Instr.typeAssert (.iface 41 (.pointer (some a))) 45 41 false).run Try.prog w = .ok (.pointer (some a)) w := by kernel_rfl

set_option maxHeartbeats 1000000 in
set_option maxRecDepth 100000 in
theorem written_any (E b : Nat) (op nx : Value) (le : Bool) (v : Value) (l : List UInt8) (w : World) (h : Enc E b op nx le v l w) :
    Calls Try.prog 12 #[.pointer (some ⟨E, 0, none⟩)] w fun e w' => e = .returned (.string ⟨l.toArray⟩) ∧ Kept (fun k => v.ownBlock = some k) w w' := by
  have hE := h.1
  have e0 : w.cell? ⟨E, 0, none⟩ = some (.iface 41 (.pointer (some ⟨b, 0, none⟩))) := by rw [Lib.cell_of_heap hE]; rfl
  have ta := ta41
  go_enter Try.func12, Try.ntmps12
  go_wp2_with (go_at_call 23; refine (string_any b v l _ h.2).mono ?_)
  rintro e w1 ⟨rfl, h1⟩
  go_wp2
  go_ret
  exact ⟨rfl, h1⟩

set_option maxHeartbeats 1000000 in
set_option maxRecDepth 100000 in
theorem levelN_any (L : Nat) (im : Bool) (ind pl n : Int) (w : World) (h : Lvl L im ind pl n w) :
    Calls Try.prog 13 #[.pointer (some ⟨L, 0, none⟩)] w fun e w' => e = .returned (.int .i64 n) ∧ w' = w := by
  unfold Lvl at h
  have l3 : w.cell? ⟨L, 3, none⟩ = some (.int .i64 n) := by rw [Lib.cell_of_heap h]; rfl
  clear h
  go_enter Try.func13, Try.ntmps13
  go_wp2
  go_ret
  exact ⟨rfl, rfl⟩

set_option maxHeartbeats 1000000 in
set_option maxRecDepth 100000 in
theorem lineEnded_any (E : Nat) (x op nx : Value) (le : Bool) (w : World) (hE : w.heap[E]? = some (.cells #[x, op, nx, .bool le] 49 (0, 0))) :
    Calls Try.prog 14 #[.pointer (some ⟨E, 0, none⟩)] w fun e w' => e = .returned (.bool le) ∧ w' = w := by
  have e3 : w.cell? ⟨E, 3, none⟩ = some (.bool le) := by rw [Lib.cell_of_heap hE]; rfl
  clear hE
  go_enter Try.func14, Try.ntmps14
  go_wp2
  go_ret
  exact ⟨rfl, rfl⟩


/-- v is a slice of the call's own that holds the bytes l. -/
def Row (v : Value) (l : List UInt8) (w : World) : Prop := w.ownsRow 0 5 1 v l.length (Lib.byteCells l)

theorem Row.kept {v : Value} {l : List UInt8} {w w' : World} {S : Nat → Prop} (h : Row v l w) (k : Kept S w w') (hS : ∀ g, v.ownBlock = some g → ¬ S g) : Row v l w' := own_kept h k hS

theorem Row.nil (w : World) : Row (.slice none 0 0) [] w := World.ownsRow_nil _ _ _ _

theorem Row.snoc {v v' : Value} {l : List UInt8} {c : UInt8} {w w2 : World} {o : Obj} {m : Nat} (hm : m = l.length + 1) (hown' : w2.ownsRow 0 5 1 v' m (Lib.byteCells l ++ [.int .u8 c.toNat]))
    (hgrow : (w.alloc o).grownBy w2 v.ownBlock) (hat : v'.ownBlock = v.ownBlock ∨ v'.ownBlock = some (w.heap.size + 1)) : Row v' (l ++ [c]) w2 ∧ Moved w v v' ∧ Kept (fun k => v.ownBlock = some k) w w2 := by
  refine ⟨?_, ?_, (Kept.alloc w o _).trans (Kept.grown hgrow) (fun _ _ h => h)⟩
  · unfold Row; rw [byteCells_snoc]; subst hm; simpa using hown'
  · rcases hat with h | h
    · exact Or.inl h
    · exact Or.inr ⟨_, h, by omega⟩

theorem Row.news (w : World) (x : Value) : ∀ j u, [x][j]? = some u → (w.alloc (.cells #[x] 5)).cell? ((⟨w.heap.size, 0, none⟩ : Addr).add j) = some u := by
  intro j u hj
  match j, hj with
  | 0, hj => simp at hj; subst hj; simp [Addr.add]

theorem rep_snoc (l : List UInt8) (k : Nat) : l ++ List.replicate k 32 ++ [32] = l ++ List.replicate (k + 1) 32 := by
  rw [List.append_assoc, ← List.replicate_succ']

set_option maxHeartbeats 1000000 in
set_option maxRecDepth 100000 in
theorem appendBlanks_any (v : Value) (l : List UInt8) (n : Nat) (w : World) (h : Row v l w) (_hn : n ≤ 65536) (hlen : l.length + n ≤ 140737488355328) :
    Calls Try.prog 11 #[v, .int .i64 n] w fun e w' => ∃ v', e = .returned v' ∧ Row v' (l ++ List.replicate n 32) w' ∧ Moved w v v' ∧ Kept (fun k => v.ownBlock = some k) w w' := by
  obtain ⟨i0, hi, hz⟩ := Option.map_eq_some_iff.1 info5
  simp only [Prod.mk.injEq] at hz
  obtain ⟨hz0, hz1, hz2⟩ := hz
  obtain ⟨ao, cap, hv⟩ := slice_of_own h
  subst hv
  go_enter Try.func11, Try.ntmps11
  go_wp2
  go_loopw [0, 5] (fun b i wr => ∃ (k : Nat), k ≤ n ∧ i = .int .i64 k ∧ Row b (l ++ List.replicate k 32) wr ∧ Moved w (.slice ao l.length cap) b ∧ Kept (fun k => (Value.slice ao l.length cap).ownBlock = some k) w wr) (fun _ i _ => n - (intOf i).toNat)
  case atStart => exact ⟨0, Nat.zero_le _, rfl, by simpa using h, Moved.refl _ _, Kept.refl _ _⟩
  case round =>
    obtain ⟨k, hk, rfl, hr, hm, hkp⟩ := hrel
    by_cases hlt : k < n
    · have hl : (l ++ List.replicate k (32 : UInt8)).length = l.length + k := by simp
      have HL : Hid ((l ++ List.replicate k (32 : UInt8)).length = l.length + k) := hl
      clear hl
      go_wp2_with (at_builtin; refine wpList_append_own_at _ rfl _ _ 28 rfl 0 5 i0 _ 1 1 Try.underlying28 hi hz0 hz1 hz2 rfl (by decide) u0 (l ++ List.replicate k (32 : UInt8)).length (Lib.byteCells (l ++ List.replicate k 32)) rfl ?own ⟨wr.heap.size, 0, none⟩ 1 1 [.int .u8 32] rfl rfl ?news ?one ?c3 ?c4 ?c5 ?_)
      case own => exact World.ownsRow.alloc hr _
      case news => exact Row.news wr _
      case one => intro u hu; simp at hu; subst hu; rfl
      case c3 => rw [HL.out]; unfold maxLen; omega
      case c4 => rw [HL.out]; omega
      case c5 => exact Nat.zero_le _
      intro v' w2 hown' hgrow _ hat
      obtain ⟨r1, r2, r3⟩ := Row.snoc (c := 32) (l := l ++ List.replicate k 32) (by simp) hown' hgrow hat
      rw [rep_snoc] at r1
      clear hown' hgrow hat
      go_wp2
      go_roundw
      case rel => exact ⟨k + 1, by omega, by go_num, r1, hm.trans r2 hkp.size, hkp.trans r3 (fun i hi hs => by
          rcases hm with hm | ⟨g, hm, hg⟩
          · rw [← hm]; exact hs
          · rw [hm] at hs; injection hs with hs; omega)⟩
      case measure => simp [intOf]; omega
    · have hkn : k = n := by omega
      subst hkn
      go_wp2
      go_ret
      exact ⟨_, rfl, hr, hm, hkp⟩

end Go.Proofs.Qxb6614816a
