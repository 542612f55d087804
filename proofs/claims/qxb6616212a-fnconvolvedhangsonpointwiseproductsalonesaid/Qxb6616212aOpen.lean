import Derived.Test.Qxb6616212aLawP
import Derived.WalkKit
import Derived.ProofKit
import Derived.OpenShut
import Derived.Below
namespace Go.Proofs.Qxb6616212a
open Go.ChangeShapes Go.WideShapes Go.ChangeAt Go.RowKit

theorem nat_of_u64 {a : Int} (h : (Lit.int .u64 a).wf = true) : ∃ n : Nat, a = (n : Int) ∧ n < 18446744073709551616 := by
  have := bounds_u64 h
  obtain ⟨n, rfl⟩ := Int.eq_ofNat_of_zero_le (by omega : 0 ≤ a)
  exact ⟨n, rfl, by omega⟩

theorem words_of (w : World) (a : Option Addr) (len cap : Nat) (zs : List Int)
    (h : (a = none ∧ len = 0 ∧ cap = 0 ∧ zs = []) ∨ ∃ x, a = some x ∧ len ≤ cap ∧ cap ≤ maxLen ∧ zs.length = cap ∧ (∀ i, i < zs.length → w.cell? (x.add i) = some (.int .u64 (zs.getD i 0))) ∧ ∀ n ∈ zs, (Lit.int .u64 n).wf = true) :
    ∃ x : Nat → Nat, Words w a len x ∧ (∀ i, i < len → x i < 18446744073709551616) ∧ len ≤ 9223372036854775807 := by
  rcases h with ⟨rfl, rfl, rfl, rfl⟩ | ⟨x, rfl, hl, hm, hz, hc, hw⟩
  · exact ⟨fun _ => 0, fun h => by omega, fun i hi => by omega, by omega⟩
  · have hnum : ∀ i, i < len → ∃ n : Nat, zs.getD i 0 = (n : Int) ∧ n < 18446744073709551616 := fun i hi => by
      refine nat_of_u64 (hw _ ?_)
      rw [List.getD_eq_getElem?_getD, List.getElem?_eq_getElem (by omega)]
      exact List.getElem_mem _
    refine ⟨fun i => (zs.getD i 0).toNat, ?_, fun i hi => ?_, by unfold maxLen at hm; omega⟩
    · intro h0
      obtain ⟨b, off, spot⟩ := x
      have hspot : spot = none := by simpa [Addr.add] using World.cell?_spot (hc 0 (by omega))
      subst hspot
      refine ⟨b, off, rfl, ?_, fun i hi => ?_⟩
      · have := World.block_lt_of_cell? w _ (hc 0 (by omega))
        simpa [Addr.add] using this
      · obtain ⟨n, hn, _⟩ := hnum i hi
        have := hc i (by omega)
        rw [hn] at this
        show _ = some (Value.int IntKind.u64 ((zs.getD i 0).toNat : Int))
        rw [hn, Int.toNat_natCast, ← add_plain]
        exact this
    · obtain ⟨n, hn, hb⟩ := hnum i hi
      show (zs.getD i 0).toNat < _
      rw [hn, Int.toNat_natCast]; exact hb

end Go.Proofs.Qxb6616212a
