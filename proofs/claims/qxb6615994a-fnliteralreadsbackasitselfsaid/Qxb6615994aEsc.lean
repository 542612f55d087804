import Derived.WalkKit
namespace Go.Proofs.Qxb6615994a

/-- one byte as literal writes it. -/
def esc (c : UInt8) : List UInt8 := if c = 92 then [92, 92] else if c = 39 then [92, 39] else [c]
/-- the bytes that are written as two. -/
def special (c : UInt8) : Bool := c == 39 || c == 92
def escAll (l : List UInt8) : List UInt8 := l.flatMap esc
def cnt (l : List UInt8) : Nat := l.countP special

theorem escAll_append (l m : List UInt8) : escAll (l ++ m) = escAll l ++ escAll m := by simp [escAll]
theorem escAll_nil : escAll [] = [] := rfl
theorem escAll_one (c : UInt8) : escAll [c] = esc c := by simp [escAll]

theorem esc_len (c : UInt8) : (esc c).length = 1 + (if special c then 1 else 0) := by
  unfold esc special
  by_cases h : c = 92
  · subst h; rfl
  · by_cases h' : c = 39
    · subst h'; rfl
    · simp [h, h']

theorem escAll_len (l : List UInt8) : (escAll l).length = l.length + cnt l := by
  induction l with
  | nil => rfl
  | cons c l ih =>
    have h := esc_len c
    have e : (escAll (c :: l)).length = (esc c).length + (escAll l).length := by simp [escAll]
    rw [e, h, ih]
    simp only [cnt, List.countP_cons, List.length_cons]
    omega

theorem esc_plain {c : UInt8} (h : special c = false) : esc c = [c] := by
  unfold special at h
  simp at h
  simp [esc, h.1, h.2]

theorem escAll_id (l : List UInt8) (h : cnt l = 0) : escAll l = l := by
  induction l with
  | nil => rfl
  | cons c l ih =>
    simp only [cnt, List.countP_cons] at h
    have hc : special c = false := by
      cases hs : special c with
      | false => rfl
      | true => rw [hs] at h; simp at h
    have hl : cnt l = 0 := by unfold cnt; omega
    show esc c ++ escAll l = c :: l
    rw [esc_plain hc, ih hl]; rfl

theorem cnt_split (l : List UInt8) : cnt l = l.count 39 + l.count 92 := by
  induction l with
  | nil => rfl
  | cons c l ih =>
    simp only [cnt, List.countP_cons, List.count_cons] at *
    rw [ih]
    unfold special
    by_cases h : c = 39
    · subst h; simp; omega
    · by_cases h' : c = 92
      · subst h'; simp; omega
      · simp [h, h']

theorem take_snoc' (s : ByteArray) (k : Nat) (h : k < s.size) : s.data.toList.take (k + 1) = s.data.toList.take k ++ [s[k]] := by
  rw [List.take_succ_eq_append_getElem (by simpa using h)]; rfl

theorem cnt_snoc (s : ByteArray) (k : Nat) (h : k < s.size) : cnt (s.data.toList.take (k + 1)) = cnt (s.data.toList.take k) + (if special s[k] then 1 else 0) := by
  rw [take_snoc' s k h]; simp [cnt]

theorem esc_snoc (s : ByteArray) (k : Nat) (h : k < s.size) : escAll (s.data.toList.take (k + 1)) = escAll (s.data.toList.take k) ++ esc s[k] := by
  rw [take_snoc' s k h, escAll_append, escAll_one]

theorem cnt_le (l : List UInt8) : cnt l ≤ l.length := List.countP_le_length

theorem esc_le (s : ByteArray) (k : Nat) (h : k < s.size) : (escAll (s.data.toList.take k)).length + (esc s[k]).length ≤ (escAll s.data.toList).length := by
  have e : escAll s.data.toList = escAll (s.data.toList.take (k + 1)) ++ escAll (s.data.toList.drop (k + 1)) := by rw [← escAll_append, List.take_append_drop]
  rw [e, esc_snoc s k h]
  simp

end Go.Proofs.Qxb6615994a
