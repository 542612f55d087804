import Derived.Test.Qxb6615994aProg
import Derived.Test.Qxb6615994aQualPlain
import Derived.WalkLawsBesides
import Derived.Below
namespace Go.Proofs.Qxb6615994a
open Go.RowKit

set_option maxHeartbeats 1000000 in
set_option maxRecDepth 100000 in
theorem qualified_any (o : ByteArray) (w : World) (ho : o.size ≤ 65536) :
    Calls Try.prog 7 #[.string o] w fun e w' => ∃ q : ByteArray, e = .returned (.string q) ∧ w' = w ∧ q.data.toList = pre ++ o.data.toList ++ [41] := by
  go_enter Try.func7, Try.ntmps7
  go_wp2
  go_ret
  refine ⟨⟨pre.toArray⟩ ++ o ++ ⟨#[41]⟩, rfl, rfl, ?_⟩
  simp [ByteArray.data_append]


theorem delta_open {c : UInt8} (h : ((c.toNat : Int) == 40) = true) : delta c = 1 := by
  have : c = 40 := UInt8.toNat_inj.1 (by simp at h; simp; omega)
  subst this; rfl
theorem delta_close {c : UInt8} (h : ((c.toNat : Int) == 41) = true) : delta c = -1 := by
  have : c = 41 := UInt8.toNat_inj.1 (by simp at h; simp; omega)
  subst this; rfl
theorem delta_other {c : UInt8} (h : ((c.toNat : Int) == 40) = false) (h' : ((c.toNat : Int) == 41) = false) : delta c = 0 := by
  have h1 : c ≠ 40 := fun e => by subst e; simp at h
  have h2 : c ≠ 41 := fun e => by subst e; simp at h'
  simp [delta, h1, h2]

/-- no head of the first k bytes closes more than it opens. -/
def Good (o : ByteArray) (k : Nat) : Prop := ∀ j, j ≤ k → 0 ≤ dep (o.data.toList.take j)

theorem first_byte (q o : ByteArray) (hq : q.data.toList = pre ++ o.data.toList ++ [41]) : ∀ h : 0 < q.size, q[0]'h = 40 := by
  intro h
  have h' : 0 < q.data.toList.length := by simpa using h
  have e : q.data.toList[0]'h' = 40 := by
    have : q.data.toList[0]? = some 40 := by rw [hq]; rfl
    rw [List.getElem?_eq_getElem h'] at this
    exact Option.some.inj this
  exact e

theorem Good.zero (o : ByteArray) : Good o 0 := by
  intro j hj
  have : j = 0 := by omega
  subst this; simp [dep]

set_option maxHeartbeats 2000000 in
set_option maxRecDepth 100000 in
theorem qual_walk (o : ByteArray) (w : World) (hs : o.size ≤ maxLen) :
    Calls Try.prog 3 #[.string o] w fun e w' => e = .returned (.bool true) ∧ w' = w := by
  unfold maxLen at hs
  by_cases h1 : 1048576 < o.size
  · go_enter Try.func3, Try.ntmps3
    go_wp2
    go_ret
    exact ⟨rfl, rfl⟩
  by_cases h2 : 65536 < o.size
  · go_enter Try.func3, Try.ntmps3
    go_wp2
    go_ret
    exact ⟨rfl, rfl⟩
  go_enter Try.func3, Try.ntmps3
  go_wp2
  go_loop [3, 4] (fun d i => ∃ (k : Nat) (x : Int), k ≤ o.size ∧ i = .int .i64 k ∧ d = .int .i64 x ∧ 0 ≤ x ∧ x ≤ k ∧ Hid (x = dep (o.data.toList.take k)) ∧ Good o k) (fun _ i => o.size - (intOf i).toNat)
  case atStart => exact ⟨0, 0, Nat.zero_le _, rfl, rfl, by omega, by omega, rfl, Good.zero o⟩
  case round =>
    obtain ⟨k, x, hk, rfl, rfl, hx0, hxk, hx, hgood⟩ := hrel
    by_cases hlt : k < o.size
    · have hsn : Hid (dep (o.data.toList.take (k + 1)) = x + delta o[k]) := by show _ = _; rw [hx.out]; exact dep_snoc o k hlt
      have step : ∀ y : Int, 0 ≤ y → y = x + delta o[k] → Hid (y = dep (o.data.toList.take (k + 1))) ∧ Good o (k + 1) := by
        intro y hy0 hy
        have e : y = dep (o.data.toList.take (k + 1)) := by rw [hsn.out]; exact hy
        refine ⟨e, fun j hj => ?_⟩
        rcases Nat.lt_or_ge j (k + 1) with hj' | hj'
        · exact hgood j (by omega)
        · have : j = k + 1 := by omega
          subst this; rw [← e]; exact hy0
      have HS : Hid (∀ y : Int, 0 ≤ y → y = x + delta o[k] → Hid (y = dep (o.data.toList.take (k + 1))) ∧ Good o (k + 1)) := step
      clear step hsn
      by_cases c1 : ((o[k].toNat : Int) == 40) = true
      · go_wp2
        go_round
        case rel => obtain ⟨a, b⟩ := HS.out (x + 1) (by omega) (by rw [delta_open c1])
                    exact ⟨k + 1, x + 1, by omega, by go_num, rfl, by omega, by omega, a, b⟩
        case measure => simp [intOf]; omega
      · have c1' : ((o[k].toNat : Int) == 40) = false := by simpa using c1
        clear c1
        by_cases c2 : ((o[k].toNat : Int) == 41) = true
        · by_cases c3 : x - 1 < 0
          · go_wp2
            go_ret
            exact ⟨rfl, rfl⟩
          · go_wp2
            go_round
            case rel => obtain ⟨a, b⟩ := HS.out (x - 1) (by omega) (by rw [delta_close c2]; omega)
                        exact ⟨k + 1, x - 1, by omega, by go_num, rfl, by omega, by omega, a, b⟩
            case measure => simp [intOf]; omega
        · have c2' : ((o[k].toNat : Int) == 41) = false := by simpa using c2
          clear c2
          go_wp2
          go_round
          case rel => obtain ⟨a, b⟩ := HS.out x (by omega) (by rw [delta_other c1' c2']; omega)
                      exact ⟨k + 1, x, by omega, by go_num, rfl, by omega, by omega, a, b⟩
          case measure => simp [intOf]; omega
    · by_cases hx1 : x = 0
      · subst hx1
        have hdep : Hid (dep o.data.toList = 0) := by
          show _ = _
          have := hx.out
          rw [List.take_of_length_le (by simp; omega)] at this
          exact this.symm
        have hgd : Good o o.size := fun j hj => hgood j (by omega)
        clear hx hgood
        go_wp2_with fail
        refine (qualified_any o _ (by omega)).mono ?_
        rintro e w1 ⟨q, rfl, rfl, hq⟩
        have hsz : q.size = 164 + o.size := by
          have := congrArg List.length hq
          simp [pre_len] at this
          omega
        have q1 : 164 + o.size ≤ q.size := by omega
        have q2 : q.size ≤ 164 + o.size := by omega
        have q0 : ∀ h : 0 < q.size, q[0]'h = 40 := first_byte q o hq
        have HQ : Hid (q.data.toList = pre ++ o.data.toList ++ [41]) := hq
        clear hq hsz
        go_wp2
        go_loop [3, 6] (fun d i => ∃ (k : Nat) (x : Int), k ≤ q.size ∧ i = .int .i64 k ∧ d = .int .i64 x ∧ -(k : Int) ≤ x ∧ x ≤ k ∧ Hid (x = dep (q.data.toList.take k))) (fun _ i => q.size - (intOf i).toNat)
        case atStart => exact ⟨0, 0, Nat.zero_le _, rfl, rfl, by omega, by omega, rfl⟩
        case round =>
          obtain ⟨k, x, hk, rfl, rfl, hx0, hxk, hx⟩ := hrel
          by_cases hlt : k < q.size
          · have hsn : dep (q.data.toList.take (k + 1)) = x + delta q[k] := by rw [hx.out]; exact dep_snoc q k hlt
            have HE : Hid (dep (q.data.toList.take (k + 1)) = x + delta q[k]) := hsn
            have hpos : k < q.size - 1 → 1 ≤ x + delta q[k] := by
              intro hk1
              rw [← hsn, HQ.out]
              exact depth_in _ (fun j hj => hgd j (by simpa using hj)) k (by simp; omega)
            have HP : Hid (k < q.size - 1 → 1 ≤ x + delta q[k]) := hpos
            clear hpos hsn hx
            by_cases c1 : ((q[k].toNat : Int) == 40) = true
            · have e1 := delta_open c1
              rw [e1] at HE HP
              clear e1
              by_cases hl : k < q.size - 1
              · have hp := HP.out hl
                go_wp2
                go_round
                case rel => exact ⟨k + 1, x + 1, by omega, by go_num, rfl, by omega, by omega, HE.out.symm⟩
                case measure => simp [intOf]; omega
              · go_wp2
                go_round
                case rel => exact ⟨k + 1, x + 1, by omega, by go_num, rfl, by omega, by omega, HE.out.symm⟩
                case measure => simp [intOf]; omega
            · have c1' : ((q[k].toNat : Int) == 40) = false := by simpa using c1
              clear c1
              by_cases c2 : ((q[k].toNat : Int) == 41) = true
              · have e1 := delta_close c2
                rw [e1] at HE HP
                clear e1
                by_cases hl : k < q.size - 1
                · have hp := HP.out hl
                  go_wp2
                  go_round
                  case rel => exact ⟨k + 1, x - 1, by omega, by go_num, rfl, by omega, by omega, HE.out.symm⟩
                  case measure => simp [intOf]; omega
                · go_wp2
                  go_round
                  case rel => exact ⟨k + 1, x - 1, by omega, by go_num, rfl, by omega, by omega, HE.out.symm⟩
                  case measure => simp [intOf]; omega
              · have c2' : ((q[k].toNat : Int) == 41) = false := by simpa using c2
                clear c2
                have e1 := delta_other c1' c2'
                rw [e1, Int.add_zero] at HE HP
                clear e1
                by_cases hl : k < q.size - 1
                · have hp := HP.out hl
                  go_wp2
                  go_round
                  case rel => exact ⟨k + 1, x, by omega, by go_num, rfl, by omega, by omega, HE.out.symm⟩
                  case measure => simp [intOf]; omega
                · go_wp2
                  go_round
                  case rel => exact ⟨k + 1, x, by omega, by go_num, rfl, by omega, by omega, HE.out.symm⟩
                  case measure => simp [intOf]; omega
          · have hx0 : x = 0 := by
              have := hx.out
              rw [List.take_of_length_le (by simp; omega), HQ.out, depth_end _ hdep.out] at this
              exact this
            subst hx0
            go_wp2
            go_ret
            exact ⟨rfl, rfl⟩
      · go_wp2
        go_ret
        exact ⟨rfl, rfl⟩

end Go.Proofs.Qxb6615994a
