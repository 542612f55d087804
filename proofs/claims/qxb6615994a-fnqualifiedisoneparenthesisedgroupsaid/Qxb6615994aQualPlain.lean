import Derived.WalkKit
namespace Go.Proofs.Qxb6615994a

/-- one byte's part in the depth. -/
def delta (c : UInt8) : Int := if c = 40 then 1 else if c = 41 then -1 else 0
/-- the depth behind a text. -/
def dep : List UInt8 → Int
  | [] => 0
  | c :: l => delta c + dep l

theorem dep_append (l m : List UInt8) : dep (l ++ m) = dep l + dep m := by
  induction l with
  | nil => simp [dep]
  | cons c l ih => simp [dep, ih]; omega

theorem delta_bd (c : UInt8) : -1 ≤ delta c ∧ delta c ≤ 1 := by
  unfold delta; split
  · omega
  · split <;> omega

theorem dep_bd (l : List UInt8) : -(l.length : Int) ≤ dep l ∧ dep l ≤ l.length := by
  induction l with
  | nil => simp [dep]
  | cons c l ih =>
    have := delta_bd c
    simp only [dep, List.length_cons]
    omega

theorem take_snoc (s : ByteArray) (k : Nat) (h : k < s.size) : s.data.toList.take (k + 1) = s.data.toList.take k ++ [s[k]] := by
  rw [List.take_succ_eq_append_getElem (by simpa using h)]; rfl

theorem dep_snoc (s : ByteArray) (k : Nat) (h : k < s.size) : dep (s.data.toList.take (k + 1)) = dep (s.data.toList.take k) + delta s[k] := by
  rw [take_snoc s k h, dep_append]; simp [dep]

/-- the text ahead of the expression. -/
def pre : List UInt8 := [40, 83, 69, 76, 69, 67, 84, 32, 112, 103, 95, 99, 97, 116, 97, 108, 111, 103, 46, 102, 111, 114, 109, 97, 116, 40, 39, 37, 73, 46, 37, 73, 39, 44, 32, 110, 46, 110, 115, 112, 110, 97, 109, 101, 44, 32, 99, 46, 114, 101, 108, 110, 97, 109, 101, 41, 32, 70, 82, 79, 77, 32, 112, 103, 95, 99, 97, 116, 97, 108, 111, 103, 46, 112, 103, 95, 99, 108, 97, 115, 115, 32, 65, 83, 32, 99, 10, 9, 9, 74, 79, 73, 78, 32, 112, 103, 95, 99, 97, 116, 97, 108, 111, 103, 46, 112, 103, 95, 110, 97, 109, 101, 115, 112, 97, 99, 101, 32, 65, 83, 32, 110, 32, 79, 78, 32, 110, 46, 111, 105, 100, 32, 61, 32, 99, 46, 114, 101, 108, 110, 97, 109, 101, 115, 112, 97, 99, 101, 32, 87, 72, 69, 82, 69, 32, 99, 46, 111, 105, 100, 32, 61, 32]

theorem pre_len : pre.length = 163 := by decide +kernel
theorem pre_dep : dep pre = 1 := by decide +kernel
theorem pre_heads : ∀ j : Fin 163, 1 ≤ dep (pre.take (j.val + 1)) := by decide +kernel

theorem depth_in (o : List UInt8) (ho : ∀ j, j ≤ o.length → 0 ≤ dep (o.take j)) (k : Nat) (hk : k < 163 + o.length) : 1 ≤ dep ((pre ++ o ++ [41]).take (k + 1)) := by
  rw [List.take_append_of_le_length (by simp [pre_len]; omega)]
  by_cases h : k < 163
  · rw [List.take_append_of_le_length (by rw [pre_len]; omega)]
    exact pre_heads ⟨k, h⟩
  · rw [List.take_append, List.take_of_length_le (by rw [pre_len]; omega), dep_append, pre_dep, pre_len]
    have := ho (k + 1 - 163) (by omega)
    omega

theorem depth_end (o : List UInt8) (ho : dep o = 0) : dep (pre ++ o ++ [41]) = 0 := by
  rw [dep_append, dep_append, pre_dep, ho]; decide

end Go.Proofs.Qxb6615994a
