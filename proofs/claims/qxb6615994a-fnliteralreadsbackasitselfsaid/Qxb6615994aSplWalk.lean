import Derived.Test.Qxb6615994aLit
namespace Go.Proofs.Qxb6615994a
open Go.RowKit

theorem lit_len (l : List UInt8) : (lit l).length = 3 + (escAll l).length := by simp [lit]; omega

/-- a literal as the walk sees it: a string, told by its bytes. -/
theorem lit_obtain (l : List UInt8) (hl : l.length ≤ 600000) : ∃ L : ByteArray, L = ⟨(lit l).toArray⟩ ∧ 3 ≤ L.size ∧ L.size ≤ 1200003 := by
  refine ⟨_, rfl, ?_, ?_⟩
  · show 3 ≤ (lit l).length
    rw [lit_len]; omega
  · show (lit l).length ≤ 1200003
    have h1 := escAll_len l
    have h2 := cnt_le l
    rw [lit_len]; omega

theorem splice_eq (a b : List UInt8) (LA LB LAB : ByteArray) (hA : LA = ⟨(lit a).toArray⟩) (hB : LB = ⟨(lit b).toArray⟩) (hAB : LAB = ⟨(lit (a ++ b)).toArray⟩) :
    LA.extract 0 (LA.size - 1) ++ LB.extract 2 LB.size = LAB := by
  subst hA hB hAB
  apply ByteArray.ext
  apply Array.ext'
  have e1 : (⟨(lit a).toArray⟩ : ByteArray).size = 3 + (escAll a).length := lit_len a
  have e2 : (⟨(lit b).toArray⟩ : ByteArray).size = 3 + (escAll b).length := lit_len b
  rw [e1, e2]
  simp only [ByteArray.data_append, Array.toList_append, ByteArray.data_extract, Array.toList_extract]
  simp only [lit, escAll_append]
  have t1 : List.extract ([69, 39] ++ escAll a ++ [39]) 0 (3 + (escAll a).length - 1) = [69, 39] ++ escAll a := by
    simp only [List.extract_eq_take_drop, List.drop_zero, Nat.sub_zero]
    rw [List.take_append_of_le_length (by simp; omega), List.take_of_length_le (by simp; omega)]
  have t2 : List.extract ([69, 39] ++ escAll b ++ [39]) 2 (3 + (escAll b).length) = escAll b ++ [39] := by
    simp only [List.extract_eq_take_drop]
    rw [List.take_of_length_le (by simp; omega)]
    simp
  rw [t1, t2]
  simp

set_option maxRecDepth 100000 in
set_option maxHeartbeats 1600000 in
theorem spl_walk (a b : ByteArray) (w : World) (ha : a.size ≤ maxLen) (hb : b.size ≤ maxLen) :
    Calls Try.prog 5 #[.string a, .string b] w fun e w' => e = .returned (.bool true) ∧ Below w.heap.size w w' := by
  unfold maxLen at ha hb
  by_cases h1 : 1048576 < a.size
  · go_enter Try.func5, Try.ntmps5
    go_wp2
    go_ret
    exact ⟨rfl, Below.refl _ _⟩
  by_cases h2 : 1048576 < b.size
  · go_enter Try.func5, Try.ntmps5
    go_wp2
    go_ret
    exact ⟨rfl, Below.refl _ _⟩
  by_cases h3 : 1048576 < a.size + b.size
  · go_enter Try.func5, Try.ntmps5
    go_wp2
    go_ret
    exact ⟨rfl, Below.refl _ _⟩
  by_cases h4 : 262144 < a.size
  · go_enter Try.func5, Try.ntmps5
    go_wp2
    go_ret
    exact ⟨rfl, Below.refl _ _⟩
  by_cases h5 : 262144 < b.size
  · go_enter Try.func5, Try.ntmps5
    go_wp2
    go_ret
    exact ⟨rfl, Below.refl _ _⟩
  have eab : (a ++ b).size = a.size + b.size := ByteArray.size_append
  have dab : (a ++ b).data.toList = a.data.toList ++ b.data.toList := by simp
  obtain ⟨LA, hA, lA1, lA2⟩ := lit_obtain a.data.toList (by show a.size ≤ _; omega)
  obtain ⟨LB, hB, lB1, lB2⟩ := lit_obtain b.data.toList (by show b.size ≤ _; omega)
  obtain ⟨LAB, hAB, lAB1, lAB2⟩ := lit_obtain (a ++ b).data.toList (by show (a ++ b).size ≤ _; omega)
  have heq := splice_eq a.data.toList b.data.toList LA LB LAB hA hB (by rw [hAB, dab])
  have hab6 : (a ++ b).size ≤ 600000 := by omega
  have HA := hidd hA
  have HB := hidd hB
  have HAB := hidd hAB
  clear hA hB hAB eab dab
  go_enter Try.func5, Try.ntmps5
  go_wp2_with (go_at_call 11; go_in)
  refine (zzliteral_any a _ (by omega)).mono ?_
  rintro e w1 ⟨rfl, hk1⟩
  rw [← unhid HA]
  go_wp2_with fail
  refine (zzliteral_any b _ (by omega)).mono ?_
  rintro e w2 ⟨rfl, hk2⟩
  rw [← unhid HB]
  go_wp2_with fail
  refine (zzliteral_any (a ++ b) _ hab6).mono ?_
  rintro e w3 ⟨rfl, hk3⟩
  rw [← unhid HAB]
  go_wp2
  go_region
  all_goals
    go_wp2
    go_ret
    exact ⟨rfl, (((hk1.trans hk2 (fun _ _ h => h)).trans hk3 (fun _ _ h => h)).below (Nat.le_refl _) (fun _ _ h => h)).drew⟩

end Go.Proofs.Qxb6615994a
