import Derived.Test.Qxb6614816aEnt
namespace Go.Proofs.Qxb6614816a
open Go.RowKit

/-- the text and the flag behind i entries. -/
def runE (le : Bool) (ind : Nat) (pl n : Int) : Nat → List UInt8 × Bool
  | 0 => ([], le)
  | i + 1 => (entryText (runE le ind pl n i).2 (runE le ind pl n i).1 ind pl (wrap64 (n + i)), entryLe (runE le ind pl n i).2 pl (wrap64 (n + i)))

/-- the text that the law reckons behind j rounds. -/
def linesTo (le : Bool) (ind : Nat) (pre : List UInt8) : Nat → List UInt8
  | 0 => pre
  | j + 1 => linesTo le ind pre j ++ (if decide (0 < j) || !le then [10] else []) ++ List.replicate ind 32

theorem wrap_ne (n : Int) (i : Nat) (h0 : 0 ≤ n) (h1 : n ≤ 9223372036854775807) (hi : i ≤ 15) (h : n ≠ 0 ∨ i ≠ 0) : wrap64 (n + i) ≠ 0 := by
  unfold wrap64; omega

theorem runE_other (le : Bool) (ind : Nat) (pl n : Int) (h0 : 0 ≤ n) (h1 : n ≤ 9223372036854775807) (hc : ¬ (n = 0 ∧ pl = 1)) :
    ∀ i, i ≤ 15 → runE le ind pl n i = (linesTo le ind [] i, if i = 0 then le else false) := by
  intro i
  induction i with
  | zero => intro _; rfl
  | succ i ih =>
    intro hi
    have hf : ¬ (wrap64 (n + i) = 0 ∧ pl = 1) := by
      rintro ⟨a, b⟩
      by_cases hz : n = 0
      · exact hc ⟨hz, b⟩
      · exact wrap_ne n i h0 h1 (by omega) (Or.inl hz) a
    simp only [runE, ih (by omega), entryText, entryLe, hf, if_false, linesTo]
    rcases Nat.eq_zero_or_pos i with rfl | hp
    · cases le <;> simp [ended]
    · have : i ≠ 0 := by omega
      simp [ended, this, hp]

theorem runE_first (le : Bool) (ind : Nat) :
    ∀ i, i ≤ 14 → runE le ind 1 0 (i + 1) = (linesTo le ind [32] i, if i = 0 then le else false) := by
  intro i
  induction i with
  | zero => intro _; simp [runE, entryText, entryLe, wrap64, linesTo]
  | succ i ih =>
    intro hi
    have hf : ¬ (wrap64 (0 + ((i + 1 : Nat) : Int)) = 0 ∧ (1 : Int) = 1) := by
      rintro ⟨a, b⟩
      exact wrap_ne 0 (i + 1) (by omega) (by omega) (by omega) (Or.inr (by omega)) a
    rw [runE, ih (by omega)]
    unfold entryText entryLe
    rw [if_neg hf, if_neg hf]
    simp only [linesTo]
    rcases Nat.eq_zero_or_pos i with rfl | hp
    · cases le <;> simp [ended]
    · have : i ≠ 0 := by omega
      simp [ended, this, hp]

theorem linesTo_length (le : Bool) (ind : Nat) (pre : List UInt8) : ∀ j, (linesTo le ind pre j).length ≤ pre.length + j * (ind + 1) := by
  intro j
  induction j with
  | zero => simp [linesTo]
  | succ j ih =>
    simp only [linesTo, List.length_append, List.length_replicate, Nat.succ_mul]
    have : (if decide (0 < j) || !le then [(10 : UInt8)] else []).length ≤ 1 := by split <;> simp
    omega

theorem runE_length (le : Bool) (ind : Nat) (pl n : Int) : ∀ i, (runE le ind pl n i).1.length ≤ i * (ind + 1) := by
  intro i
  induction i with
  | zero => simp [runE]
  | succ i ih =>
    simp only [runE, entryText, Nat.succ_mul]
    split
    · simp; omega
    · have := ended_length (runE le ind pl n i).2 (runE le ind pl n i).1
      simp; omega

/-- rows that are not one. -/
def Apart (v v' : Value) : Prop := ∀ g, v.ownBlock = some g → v'.ownBlock = some g → False

theorem Apart.moved {w : World} {v v1 v' : Value} (h : Apart v v') (hm : Moved w v v1) (hl : ∀ k, v'.ownBlock = some k → k < w.heap.size) : Apart v1 v' := by
  intro g hg hg'
  rcases hm with hm | ⟨k, hm, hk⟩
  · exact h g (hm ▸ hg) hg'
  · have := hl g hg'
    rw [hm] at hg; injection hg with hg; omega

theorem Apart.symm {v v' : Value} (h : Apart v v') : Apart v' v := fun g a b => h g b a

theorem feet_apart {E b E' b' L L' : Nat} {op nx op' nx' : Value} {le le' im im' : Bool} {v v' : Value} {l l' : List UInt8} {ind pl n ind' pl' n' : Int} {w : World}
    (h : Enc E b op nx le v l w) (hL : Lvl L im ind pl n w) (h' : Enc E' b' op' nx' le' v' l' w) (hL' : Lvl L' im' ind' pl' n' w) (hE : E ≠ E') (hb : b ≠ b') (hLL : L ≠ L') (ha : Apart v v') :
    ∀ i, FootL E b L v i → ¬ FootL E' b' L' v' i := by
  have n1 := h.notLvl hL'
  have n2 := h'.notLvl hL
  obtain ⟨hE1, p1, _, hb1, ho1⟩ := h
  obtain ⟨hE2, p2, _, hb2, ho2⟩ := h'
  rintro i (rfl | hi) hi'
  · rcases hi' with hi' | hi'
    · exact hLL hi'
    · exact n2 hi'
  · rcases hi' with rfl | hi'
    · exact n1 hi
    · rcases hi with rfl | rfl | hi <;> rcases hi' with hi' | hi' | hi'
      · exact hE hi'
      · subst hi'; rw [hE1] at hb2; simp at hb2
      · exact Lib.ownBlock_ne ho2 hE1 (by decide) hi'
      · subst hi'; rw [hE2] at hb1; simp at hb1
      · exact hb hi'
      · exact Lib.ownBlock_ne ho2 hb1 (by decide) hi'
      · subst hi'; exact Lib.ownBlock_ne ho1 hE2 (by decide) hi
      · subst hi'; exact Lib.ownBlock_ne ho1 hb2 (by decide) hi
      · exact ha i hi hi'

theorem Row.str {v : Value} {l : List UInt8} {w : World} (h : Row v l w) : (convert 28 9 v).run Try.prog w = .ok (.string ⟨l.toArray⟩) w := by
  rcases h.2 with ⟨rfl, h0⟩ | ⟨g, cap, cur, rfl, _, hg, _, _, _, htake⟩
  · have : l = [] := List.eq_nil_of_length_eq_zero h0
    subst this
    rw [run_convert_bytes_nil w 28 5 Try.underlying28 Try.underlying5 0 0 9 Try.underlying9]
    rfl
  · have hc := h.cells (g := g) rfl
    rw [run_convert_bytes_arg w 28 5 Try.underlying28 Try.underlying5 g 0 l.length cap (l.map fun c => (c.toNat : Int)) (by simp) ?_ 9 Try.underlying9]
    · congr 2
      simp only [strOfNums, List.map_map]
      congr 2
      conv => rhs; rw [← List.map_id l]
      apply List.map_congr_left
      intro c _
      simp
    · intro i hi
      have := hc i (.int .u8 (l.getD i 0).toNat) (by simp [Lib.byteCells, List.getElem?_eq_getElem hi])
      have hadd : (⟨g, 0, none⟩ : Addr).add i = ⟨g, 0 + i, none⟩ := by unfold Addr.add; split <;> simp_all
      rw [hadd] at this
      rw [this]
      simp [List.getElem?_eq_getElem hi]

end Go.Proofs.Qxb6614816a
