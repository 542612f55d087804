import Derived.Test.Qxb6614816aProg
import Derived.WalkKit
import Derived.Below
import Derived.Lib.Builder
import Derived.Lib.FrozenHead
import Derived.BigFrame
namespace Go.Proofs.Qxb6614816a
open Go.RowKit

theorem ub43 : (Try.prog.info? 43).map (·.size) = some 2 := by kernel_rfl
theorem lies43 : liesAt Try.prog Try.prog.depth 43 (2 / Try.prog.cellsOf 43) 0 43 1 = true := by kernel_rfl
theorem cells5 : Try.prog.cellsOf 5 = 1 := by kernel_rfl

theorem to_raw (w : World) (b : Nat) (hsh : w.shape? b = some (43, 2)) : (convert 41 77 (.pointer (some ⟨b, 0, none⟩))).run Try.prog w = .ok (.pointer (some ⟨b, 0, none⟩)) w := by
  obtain ⟨j, hj, hjs⟩ := Option.map_eq_some_iff.1 ub43
  simp only [convert, run_underlying Try.underlying41, run_underlying Try.underlying77, Sem.run_bind, Result.andThen]
  refine Eq.trans (b := Sem.run Try.prog (underlying 41 >>= _) w) rfl ?_
  simp [run_underlying Try.underlying41, run_underlying Try.underlying77, Conv.seenAt, viewAt, cellsIn, hsh, sizeOf, typeInfo, hj, hjs]

theorem from_raw (w : World) (b : Nat) (hsh : w.shape? b = some (43, 2)) : (convert 77 41 (.pointer (some ⟨b, 0, none⟩))).run Try.prog w = .ok (.pointer (some ⟨b, 0, none⟩)) w := by
  obtain ⟨j, hj, hjs⟩ := Option.map_eq_some_iff.1 ub43
  have hl := lies43
  simp only [convert, run_underlying Try.underlying41, run_underlying Try.underlying77, Sem.run_bind, Result.andThen]
  refine Eq.trans (b := Sem.run Try.prog (underlying 77 >>= _) w) rfl ?_
  simp [run_underlying Try.underlying41, run_underlying Try.underlying77, Conv.seenAt, viewAt, hsh, sizeOf, typeInfo, hj, variablesAt, hl]

/-- what a builtin's entry gives, without the wrapper that makes it the next step. -/
theorem value_of {P : Program} {w w' : World} {m : Sem Value} {x : Value} (h : Sem.run P (do pure (Next.value (← m))) w = .ok (Next.value x) w') : Sem.run P m w = .ok x w' := by
  simp only [Sem.run_bind] at h
  cases hm : Sem.run P m w with
  | ok a w1 => rw [hm] at h; simp [Result.andThen, Sem.run_pure] at h; rw [h.1, h.2]
  | halt c w1 => rw [hm] at h; simp [Result.andThen] at h

theorem sd_row {w : World} (a : Addr) (n c : Nat) (hc : c ≠ 0) : (builtin (Builtin.ofNat 20) #[28] 58 #[] #[.slice (some a) n c]).run Try.prog w = .ok (Next.value (.pointer (some a))) w := by
  obtain ⟨k, rfl⟩ : ∃ k, c = k + 1 := ⟨c - 1, by omega⟩
  rfl

theorem us_row (w : World) (g cells : Nat) (hsh : w.shape? g = some (5, cells)) (l : List UInt8) (h0 : l ≠ []) (hn : l.length ≤ cells) (h63 : l.length ≤ 9223372036854775807)
    (hcell : ∀ j x, l[j]? = some x → w.cell? ((⟨g, 0, none⟩ : Addr).add j) = some (.int .u8 x.toNat)) :
    (builtin (Builtin.ofNat 21) #[58, 3] 9 #[] #[.pointer (some ⟨g, 0, none⟩), .int .i64 l.length]).run Try.prog w = .ok (Next.value (.string ⟨l.toArray⟩)) (w.freeze ⟨g, 0, none⟩ l.length) := by
  have hl : l.length ≠ 0 := by simpa using h0
  have hlb := Lib.run_loadBytes (P := Try.prog) w l ⟨g, 0, none⟩ .empty hcell
  have hlies := Lib.liesAt_bytes (P := Try.prog) cells5 (cells / Try.prog.cellsOf 5) l.length (by rw [cells5]; simpa using hn)
  have h63' : ¬ (9223372036854775807 : Int) < (l.length : Int) := by omega
  have hmax : IntKind.i64.max = 9223372036854775807 := rfl
  have hneg : ¬ (l.length : Int) < 0 := by omega
  refine Eq.trans (b := Sem.run Try.prog ((asInt (.int .i64 l.length) >>= _) >>= fun x => pure (Next.value x)) w) rfl ?_
  simp [asInt, asIntOf, hmax, h63', hneg, hl, variablesAt, hsh, elemOf, run_underlying Try.underlying58, hlies, hlb]

theorem sd_nil {w : World} : (builtin (Builtin.ofNat 20) #[28] 58 #[] #[.slice none 0 0]).run Try.prog w = .ok (Next.value (.pointer none)) w := rfl

theorem sd_zero (w : World) (g c : Nat) (hsh : w.shape? g = some (5, c)) :
    (builtin (Builtin.ofNat 20) #[28] 58 #[] #[.slice (some ⟨g, 0, none⟩) 0 0]).run Try.prog w = .ok (Next.value (.pointer (some ⟨w.heap.size, 0, none⟩))) (w.alloc (.view ⟨g, 0, none⟩ 5)) := by
  refine Eq.trans (b := Sem.run Try.prog ((viewAt g >>= _) >>= fun x => pure (Next.value x)) w) rfl ?_
  simp [viewAt, hsh, elemOf, run_underlying Try.underlying58]

theorem us_none (w : World) (p : Option Addr) : (builtin (Builtin.ofNat 21) #[58, 3] 9 #[] #[.pointer p, .int .i64 0]).run Try.prog w = .ok (Next.value (.string .empty)) w := by
  have hmax : IntKind.i64.max = 9223372036854775807 := rfl
  cases p with
  | none =>
    refine Eq.trans (b := Sem.run Try.prog ((asInt (.int .i64 0) >>= _) >>= fun x => pure (Next.value x)) w) rfl ?_
    simp [asInt, asIntOf, hmax]
  | some a =>
    refine Eq.trans (b := Sem.run Try.prog ((asInt (.int .i64 0) >>= _) >>= fun x => pure (Next.value x)) w) rfl ?_
    simp [asInt, asIntOf, hmax]

end Go.Proofs.Qxb6614816a
