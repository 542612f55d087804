/-
  sync.Once, one goroutine, at this dump: the parts that (*strings.Replacer).Replace comes to, each a contract of its own.
-/
import Derived.Test.Qxb6615994aProg
import Derived.WalkKit
import Derived.Defers
import Derived.Laws.Pointers
import Derived.Laws.LoneSync
import Derived.RegionCalls
import Derived.Below
namespace Go.Proofs.Qxb6615994a
open Go.RowKit

theorem disable (w : World) : (callFunc 34 #[]).run Try.prog w = .ok (.value (.tuple #[])) w := run_call_mark0 Try.func34 (by kernel_rfl) (by kernel_rfl) (by kernel_rfl) .disable (by kernel_rfl) w
theorem enable (w : World) : (callFunc 36 #[]).run Try.prog w = .ok (.value (.tuple #[])) w := run_call_mark0 Try.func36 (by kernel_rfl) (by kernel_rfl) (by kernel_rfl) .enable (by kernel_rfl) w
theorem acquire (a : Addr) (w : World) : (callFunc 37 #[.pointer (some a)]).run Try.prog w = .ok (.value (.tuple #[])) w := run_call_marked Try.func37 (by kernel_rfl) (by kernel_rfl) (by kernel_rfl) .acquire (by kernel_rfl) a w
theorem releaseMerge (a : Addr) (w : World) : (callFunc 39 #[.pointer (some a)]).run Try.prog w = .ok (.value (.tuple #[])) w := run_call_marked Try.func39 (by kernel_rfl) (by kernel_rfl) (by kernel_rfl) .releaseMerge (by kernel_rfl) a w

theorem size39 : (Try.prog.info? 39).map (fun i => decide (i.size = 0)) = some false := by kernel_rfl

/-- a lock's address seen as a bare pointer: the address as it is. -/
theorem lock_raw {a : Addr} {v : Value} {w : World} (hc : w.cell? a = some v) : (convert 81 85 (.pointer (some a))).run Try.prog w = .ok (.pointer (some a)) w := by
  obtain ⟨e, n, hsh, hlt, hsp⟩ := World.shape?_of_cell? hc
  obtain ⟨i, hi, hz0⟩ := Option.map_eq_some_iff.1 size39
  have hz : i.size ≠ 0 := by simpa using hz0
  have hge : ¬ (n ≤ a.off) := by omega
  simp only [convert, run_underlying Try.underlying81, run_underlying Try.underlying85, Sem.run_bind, Result.andThen]
  refine Eq.trans (b := Sem.run Try.prog (underlying 81 >>= _) w) rfl ?_
  simp [run_underlying Try.underlying81, run_underlying Try.underlying85, Conv.seenAt, viewAt, cellsIn, sizeOf, typeInfo, hi, hz, hsh, hge, Result.andThen]

/-- '(*sync/atomic.Bool).Store(true)', entered as a deferred call: the cell holds 1. -/
theorem store_deferred (a : Addr) (x : Value) (u : FrameMode) (w : World) (hc : w.cell? a = some x) (hz : w.frozen? a = false) :
    CallsD Try.prog 25 #[.pointer (some a), .bool true] u w fun e u' w' => u' = u ∧ (e = .returned (.tuple #[]) ∧ w' = w.drew.setCell a (.int .u32 1)) := by
  have hc' : w.drew.cell? a = some x := by go_simp
  have hz' : w.drew.frozen? a = false := by go_simp
  have hst := run_call_store (P := Try.prog) Try.func30 (by kernel_rfl) (by kernel_rfl) (by kernel_rfl) (by kernel_rfl) (k := .u32) (y := 1) hc' hz'
  go_enter_d Try.func25, Try.ntmps25
  go_wp2
  go_region_calls
  all_goals (go_end0; exact ⟨rfl, rfl⟩)

set_option maxRecDepth 100000 in
/-- '(*sync.Mutex).Unlock', entered as a deferred call, the lock held and nobody waiting (state 1): state 0. -/
theorem unlock_deferred (a : Addr) (u : FrameMode) (w : World) (hc : w.cell? a = some (.int .i32 1)) (hz : w.frozen? a = false) :
    CallsD Try.prog 24 #[.pointer (some a)] u w fun e u' w' => u' = u ∧ (e = .returned (.tuple #[]) ∧ w' = w.setCell a (.int .i32 0)) := by
  have hd := disable
  have he := enable
  have hr := releaseMerge
  have hadd := run_call_add (P := Try.prog) Try.func40 (by kernel_rfl) (by kernel_rfl) (by kernel_rfl) .i32 (by kernel_rfl) (y := -1) (s := 0) hc hz (by simp [go_sem]; rfl)
  have hcv := lock_raw hc
  go_enter_d Try.func24, Try.ntmps24
  go_wp2
  go_end0
  go_wp2
  go_end0
  exact ⟨rfl, rfl⟩

set_option maxRecDepth 100000 in
/-- '(*sync.Mutex).Lock', the lock free (state 0): state 1. -/
theorem lock_free (a : Addr) (w : World) (hc : w.cell? a = some (.int .i32 0)) (hz : w.frozen? a = false) :
    Calls Try.prog 23 #[.pointer (some a)] w fun e w' => e = .returned (.tuple #[]) ∧ w' = w.setCell a (.int .i32 1) := by
  have hd := disable
  have he := enable
  have ha := acquire
  have hcas := run_call_cas_hit (P := Try.prog) Try.func35 (by kernel_rfl) (by kernel_rfl) (by kernel_rfl) .i32 (by kernel_rfl) (y := 1) hc hz
  have hc' : (w.setCell a (.int .i32 1)).cell? a = some (.int .i32 1) := World.cell?_setCell_same w a _ hc
  have hcv := lock_raw hc'
  go_enter Try.func23, Try.ntmps23
  go_wp2
  first | go_end0 | (simp only [Exit.inBlock, Exit.then]; refine bodyPost_ret (results_none rfl _ _ _) rfl ?_) | refine bodyPost_ret (results_none rfl _ _ _) rfl ?_
  go_wp2
  go_end0
  exact ⟨rfl, rfl⟩

end Go.Proofs.Qxb6615994a
