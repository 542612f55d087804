import Derived.Test.Qxb6616212aPrem
import Derived.Lib.SliceRun
namespace Go.Proofs.Qxb6616212a
open Go.RowKit

/-- block B is a row of n words; word i is x i. -/
def Row (w : World) (B n : Nat) (x : Nat → Nat) : Prop := ∃ cur, w.heap[B]? = some (.cells cur 22 (0, 0)) ∧ cur.size = n ∧ ∀ i, i < n → cur[i]? = some (.int .u64 (x i))

def upd (x : Nat → Nat) (i v : Nat) : Nat → Nat := fun j => if j = i then v else x j
theorem upd_same (x : Nat → Nat) (i v : Nat) : upd x i v i = v := by simp [upd]
theorem upd_other (x : Nat → Nat) (i v j : Nat) (h : j ≠ i) : upd x i v j = x j := by simp [upd, h]

theorem Row.lt {w : World} {B n : Nat} {x : Nat → Nat} (h : Row w B n x) : B < w.heap.size := by obtain ⟨c, h, _⟩ := h; exact lt_of_heap h
theorem Row.cell {w : World} {B n : Nat} {x : Nat → Nat} (h : Row w B n x) (i : Nat) (hi : i < n) : w.cell? ⟨B, i, none⟩ = some (.int .u64 (x i)) := by
  obtain ⟨c, h, _, hc⟩ := h
  rw [cell_of_heap h]; exact hc i hi
theorem Row.frozen {w : World} {B n : Nat} {x : Nat → Nat} (h : Row w B n x) (i : Nat) : w.frozen? ⟨B, i, none⟩ = false := by
  obtain ⟨c, h, _⟩ := h
  exact frozen_of_heap h i
theorem Row.set {w : World} {B n : Nat} {x : Nat → Nat} (h : Row w B n x) (i v : Nat) : Row (w.setCell ⟨B, i, none⟩ (.int .u64 v)) B n (upd x i v) := by
  obtain ⟨c, h, hs, hc⟩ := h
  refine ⟨c.set! i (.int .u64 v), by simp [World.setCell, Array.getElem?_modify, h], by simp [hs], fun j hj => ?_⟩
  by_cases e : j = i
  · subst e
    have : j < c.size := by omega
    simp [this, upd]
  · simp [Ne.symm e, upd, e]
    exact hc j hj
theorem Row.kept {S : Nat → Prop} {w w' : World} {B n : Nat} {x : Nat → Nat} (h : Row w B n x) (k : Kept S w w') (hS : ¬ S B) : Row w' B n x := by
  have hl := h.lt
  obtain ⟨c, h, r⟩ := h
  exact ⟨c, (k.block B hl hS).trans h, r⟩
theorem Row.kept0 {w w' : World} {B n : Nat} {x : Nat → Nat} (h : Row w B n x) (k : Kept0 w w') : Row w' B n x := h.kept k (fun h => h)
theorem Row.setOther {w : World} {B n : Nat} {x : Nat → Nat} (h : Row w B n x) (p : Addr) (v : Value) (hp : p.block ≠ B) : Row (w.setCell p v) B n x :=
  h.kept (Kept.setCell w p v) (fun e => hp e.symm)
theorem Row.congr {w : World} {B n : Nat} {x y : Nat → Nat} (h : Row w B n x) (e : ∀ i, i < n → x i = y i) : Row w B n y := by
  obtain ⟨c, h, hs, hc⟩ := h
  exact ⟨c, h, hs, fun i hi => by rw [← e i hi]; exact hc i hi⟩
theorem Row.drew {w : World} {B n : Nat} {x : Nat → Nat} (h : Row w B n x) : Row w.drew B n x := h
theorem Row.words {w : World} {B n : Nat} {x : Nat → Nat} (h : Row w B n x) : Words w (some ⟨B, 0, none⟩) n x :=
  fun _ => ⟨B, 0, rfl, h.lt, fun i hi => by rw [Nat.zero_add]; exact h.cell i hi⟩

theorem info22 : (Try.prog.info? 22).map (fun i => (i.zero, i.size, i.bytes)) = some (some (.int .u64 0), 1, 8) := by kernel_rfl

theorem make_row (W : World) (n : Nat) (h : n ≤ 1048576) :
    ∃ w1, (Instr.makeSlice 23 (.int .i64 (n : Int)) (.int .i64 (n : Int))).run Try.prog W = .ok (.slice (some ⟨W.heap.size, 0, none⟩) n n) w1 ∧
      Row w1 W.heap.size n (fun _ => 0) ∧ Kept0 W w1 ∧ w1.heap.size = W.heap.size + 1 := by
  obtain ⟨i0, hi, hz⟩ := Option.map_eq_some_iff.1 info22
  simp only [Prod.mk.injEq] at hz
  obtain ⟨hz0, hz1, hz2⟩ := hz
  have hr := run_make (P := Try.prog) W 23 22 i0 (.int .u64 0) Try.underlying23 hi hz0 .i64 .i64 (n : Int) (n : Int) (by omega) (by omega) (by rw [hz2]; omega) (by omega)
  have e : (n : Int).toNat = n := by omega
  rw [e, hz1] at hr
  refine ⟨_, hr, ⟨_, heap_alloc_new W _, by rw [size_madeCells]; omega, fun i hi => ?_⟩, Kept.alloc _ _ _, by simp⟩
  rw [Nat.mul_one]
  simp [madeCells, Value.cells, hi, Nat.mod_one]

set_option maxRecDepth 100000 in
set_option maxHeartbeats 1000000 in
theorem clone_any (ao : Option Addr) (n cap : Nat) (x : Nat → Nat) (h0 : 0 < n) (hn : n ≤ 65536) (w : World) (hx : Words w ao n x) :
    Calls Try.prog 9 #[.slice ao n cap] w fun e w' => e = .returned (.slice (some ⟨w.heap.size, 0, none⟩) n n) ∧ Row w' w.heap.size n x ∧ Kept0 w w' := by
  obtain ⟨b, off, rfl, hb, hc⟩ := hx h0
  obtain ⟨w1, hmk, hR, k1, hs⟩ := make_row w n (by omega)
  have heq := Lib.run_eql_slice_nil w 23 22 (some ⟨b, off, none⟩) n cap 0 0 Try.underlying23
  go_enter Try.func9, Try.ntmps9
  go_wp2_with fail
  go_loopw [4] (fun i wr => ∃ (k : Nat) (y : Nat → Nat), k ≤ n ∧ i = .int .i64 k ∧ Row wr w.heap.size n y ∧ Hid (∀ j, j < k → y j = x j) ∧ Kept0 w wr) (fun i _ => n - (intOf i).toNat)
  case atStart => exact ⟨0, _, by omega, rfl, hR, fun j hj => by omega, k1⟩
  case round =>
    obtain ⟨k, y, hk, rfl, hr, HY, kr⟩ := hrel
    clear hR k1 hs hmk
    by_cases hlt : k < n
    · have ck := cell_kept kr (fun h => h) (hc k hlt)
      have dk := hr.cell k hlt
      have fk := hr.frozen k
      have hr' := hr.set k (x k)
      clear hc
      go_wp2_with fail
      go_roundw
      case rel => exact ⟨k + 1, _, by omega, by go_num, hr', fun j hj => (by
        rcases Nat.lt_succ_iff_lt_or_eq.1 hj with h | h
        · rw [upd_other _ _ _ _ (by omega)]; exact HY.out j h
        · rw [h, upd_same]), kr.trans (Kept.setCell _ _ _) (fun i hi h => by simp at h; omega)⟩
      case measure => simp [intOf]; omega
    · have e : n = k := by omega
      subst e
      go_wp2_with fail
      go_ret
      exact ⟨rfl, hr.congr (fun i hi => HY.out i hi), kr⟩

end Go.Proofs.Qxb6616212a
