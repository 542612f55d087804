import Derived.Test.Qxb6616212aTwid
import Derived.Defers
import Derived.Laws.Pointers
import Derived.Laws.LoneSync
import Derived.RegionCalls
namespace Go.Proofs.Qxb6616212a
open Go.RowKit

/-- the twiddle store at block K, its lock free. -/
def StoreAt (w : World) (K : Nat) (vF vI : Value) : Prop := w.heap[K]? = some (.cells #[.int .i32 0, .int .u32 0, vF, vI] 72 (0, 0))

set_option maxHeartbeats 400000 in
set_option maxRecDepth 100000 in
theorem newMod_any (p root inv r2 cube ci : Nat) (w : World) :
    Calls Try.prog 21 #[.int .u64 p, .int .u64 root, .int .u64 inv, .int .u64 r2, .int .u64 cube, .int .u64 ci] w fun e w' => e = .returned (.pointer (some ⟨w.heap.size + 1 + 1, 0, none⟩)) ∧
      ModAt w' (w.heap.size + 1 + 1) ⟨p, root, inv, r2, cube, ci, w.heap.size, w.heap.size + 1⟩ ∧ StoreAt w' w.heap.size (.slice none 0 0) (.slice none 0 0) ∧ StoreAt w' (w.heap.size + 1) (.slice none 0 0) (.slice none 0 0) ∧ Kept0 w w' := by
  go_enter Try.func21, Try.ntmps21
  go_wp2_with fail
  go_ret
  refine ⟨rfl, ?_, ?_, ?_, ((Kept.alloc _ _ _).trans0 (Kept.alloc _ _ _)).trans0 (Kept.alloc _ _ _)⟩
  · unfold ModAt
    have := heap_alloc_new ((w.alloc (.cells #[.int .i32 0, .int .u32 0, .slice none 0 0, .slice none 0 0] 72)).alloc (.cells #[.int .i32 0, .int .u32 0, .slice none 0 0, .slice none 0 0] 72)) (.cells (Md.cells ⟨p, root, inv, r2, cube, ci, w.heap.size, w.heap.size + 1⟩) 74)
    simpa [Md.cells] using this
  · unfold StoreAt
    rw [Below.heap_alloc _ _ _ (by simp; omega), Below.heap_alloc _ _ _ (by simp)]
    exact heap_alloc_new w _
  · unfold StoreAt
    rw [Below.heap_alloc _ _ _ (by simp)]
    have := heap_alloc_new (w.alloc (.cells #[.int .i32 0, .int .u32 0, .slice none 0 0, .slice none 0 0] 72)) (.cells #[.int .i32 0, .int .u32 0, .slice none 0 0, .slice none 0 0] 72)
    simpa using this

/-! ### the lock -/
theorem disable (w : World) : (callFunc 66 #[]).run Try.prog w = .ok (.value (.tuple #[])) w := run_call_mark0 Try.func66 (by kernel_rfl) (by kernel_rfl) (by kernel_rfl) .disable (by kernel_rfl) w
theorem enable (w : World) : (callFunc 68 #[]).run Try.prog w = .ok (.value (.tuple #[])) w := run_call_mark0 Try.func68 (by kernel_rfl) (by kernel_rfl) (by kernel_rfl) .enable (by kernel_rfl) w
theorem acquire (a : Addr) (w : World) : (callFunc 69 #[.pointer (some a)]).run Try.prog w = .ok (.value (.tuple #[])) w := run_call_marked Try.func69 (by kernel_rfl) (by kernel_rfl) (by kernel_rfl) .acquire (by kernel_rfl) a w
theorem releaseMerge (a : Addr) (w : World) : (callFunc 71 #[.pointer (some a)]).run Try.prog w = .ok (.value (.tuple #[])) w := run_call_marked Try.func71 (by kernel_rfl) (by kernel_rfl) (by kernel_rfl) .releaseMerge (by kernel_rfl) a w

theorem size68 : (Try.prog.info? 68).map (fun i => decide (i.size = 0)) = some false := by kernel_rfl

/-- a lock's address seen as a bare pointer: the address as it is. -/
theorem lock_raw {a : Addr} {v : Value} {w : World} (hc : w.cell? a = some v) : (convert 102 106 (.pointer (some a))).run Try.prog w = .ok (.pointer (some a)) w := by
  obtain ⟨e, n, hsh, hlt, hsp⟩ := World.shape?_of_cell? hc
  obtain ⟨i, hi, hz0⟩ := Option.map_eq_some_iff.1 size68
  have hz : i.size ≠ 0 := by simpa using hz0
  have hge : ¬ (n ≤ a.off) := by omega
  simp only [convert, run_underlying Try.underlying102, run_underlying Try.underlying106, Sem.run_bind, Result.andThen]
  refine Eq.trans (b := Sem.run Try.prog (underlying 102 >>= _) w) rfl ?_
  simp [run_underlying Try.underlying102, run_underlying Try.underlying106, Conv.seenAt, viewAt, cellsIn, sizeOf, typeInfo, hi, hz, hsh, hge, Result.andThen]

set_option maxRecDepth 100000 in
/-- '(*sync.Mutex).Unlock', entered as a deferred call, the lock held and nobody waiting (state 1): state 0. -/
theorem unlock_deferred (a : Addr) (u : FrameMode) (w : World) (hc : w.cell? a = some (.int .i32 1)) (hz : w.frozen? a = false) :
    CallsD Try.prog 60 #[.pointer (some a)] u w fun e u' w' => u' = u ∧ (e = .returned (.tuple #[]) ∧ w' = w.setCell a (.int .i32 0)) := by
  have hd := disable
  have he := enable
  have hr := releaseMerge
  have hadd := run_call_add (P := Try.prog) Try.func72 (by kernel_rfl) (by kernel_rfl) (by kernel_rfl) .i32 (by kernel_rfl) (y := -1) (s := 0) hc hz (by simp [go_sem]; rfl)
  have hcv := lock_raw hc
  go_enter_d Try.func60, Try.ntmps60
  go_wp2
  go_end0
  go_wp2
  go_end0
  exact ⟨rfl, rfl⟩

set_option maxRecDepth 100000 in
/-- '(*sync.Mutex).Lock', the lock free (state 0): state 1. -/
theorem lock_free (a : Addr) (w : World) (hc : w.cell? a = some (.int .i32 0)) (hz : w.frozen? a = false) :
    Calls Try.prog 59 #[.pointer (some a)] w fun e w' => e = .returned (.tuple #[]) ∧ w' = w.setCell a (.int .i32 1) := by
  have hd := disable
  have he := enable
  have ha := acquire
  have hcas := run_call_cas_hit (P := Try.prog) Try.func67 (by kernel_rfl) (by kernel_rfl) (by kernel_rfl) .i32 (by kernel_rfl) (y := 1) hc hz
  have hc' : (w.setCell a (.int .i32 1)).cell? a = some (.int .i32 1) := World.cell?_setCell_same w a _ hc
  have hcv := lock_raw hc'
  go_enter Try.func59, Try.ntmps59
  go_wp2
  first | go_end0 | (simp only [Exit.inBlock, Exit.then]; refine bodyPost_ret (results_none rfl _ _ _) rfl ?_) | refine bodyPost_ret (results_none rfl _ _ _) rfl ?_
  go_wp2
  go_end0
  exact ⟨rfl, rfl⟩

end Go.Proofs.Qxb6616212a
