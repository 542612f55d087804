import Derived.Test.Qxb6615994aBsr
namespace Go.Proofs.Qxb6615994a
open Go.RowKit

set_option maxRecDepth 100000 in
set_option maxHeartbeats 1600000 in
/-- '(*sync.Once).Do', not yet done, the lock free. -/
theorem do_first (R O cap : Nat) (sm r0 : Value) (w : World) (hR : Repl R 0 0 sm r0 (.slice (some ⟨O, 0, none⟩) 4 cap) w) (hO : Olds O w) (hne : O ≠ R) :
    Calls Try.prog 17 #[.pointer (some ⟨R, 0, none⟩), .func (.func 18) #[.pointer (some ⟨R, 0, none⟩)] #[]] w fun e w' => e = .returned (.tuple #[]) ∧ ∃ S t, Repl R 1 0 sm (.iface 66 (.pointer (some ⟨S, 0, none⟩))) (.slice none 0 0) w' ∧ w.heap.size ≤ S ∧ Laid S 2 t w' ∧ Kept (fun k => k = R) w w' := by
  have hb := hR
  unfold Repl at hb
  have c0 : w.cell? ⟨R, 0, none⟩ = some (.int .u32 0) := by rw [cell_of_heap hb]; rfl
  have hl := run_call_load (P := Try.prog) Try.func22 (by kernel_rfl) (by kernel_rfl) (by kernel_rfl) .u32 (by kernel_rfl) c0
  have hnot : ∀ (x : Bool) (w : World), (Op.unary .not (.bool x)).run Try.prog w = .ok (.bool (!x)) w := fun _ _ => rfl
  clear hb
  go_enter Try.func17, Try.ntmps17
  go_wp2_with (first | (go_at_call 20; refine (slow_any R O cap sm r0 _ hR hO hne).mono ?_) | (go_at_call 19; go_in))
  rintro e w1 ⟨rfl, h1⟩
  go_wp2
  go_end0
  exact ⟨rfl, h1⟩

theorem meth_rep (a : Addr) (w : World) : (method 242 66 (.pointer (some a)) "Replace").run Try.prog w = .ok (83, .pointer (some a)) w := by kernel_rfl

set_option maxRecDepth 100000 in
set_option maxHeartbeats 1600000 in
theorem replace_any (R O cap : Nat) (sm r0 : Value) (s : ByteArray) (w : World) (hR : Repl R 0 0 sm r0 (.slice (some ⟨O, 0, none⟩) 4 cap) w) (hO : Olds O w) (hne : O ≠ R) (hs : s.size ≤ 600000) :
    Calls Try.prog 16 #[.pointer (some ⟨R, 0, none⟩), .string s] w fun e w' => e = .returned (.string ⟨(escAll s.data.toList).toArray⟩) ∧ Kept (fun k => k = R) w w' := by
  have hmf : ∀ (fn : Fn) (first cap : Array Value) (w : World), (Instr.makeFunc fn first cap).run Try.prog w = .ok (.func fn first cap) w := fun _ _ _ _ => rfl
  have mm := meth_rep
  go_enter Try.func16, Try.ntmps16
  go_wp2_with (go_at_call 17; refine (do_first R O cap sm r0 _ hR hO hne).mono ?_)
  rintro e w1 ⟨rfl, S, t, hR1, hS, hL, hk⟩
  have hb := hR1
  unfold Repl at hb
  have c3 : w1.cell? ⟨R, 3, none⟩ = some (.iface 66 (.pointer (some ⟨S, 0, none⟩))) := by rw [cell_of_heap hb]; rfl
  clear hb
  go_wp2_with fail
  refine (bsr_any S s _ (Tbl.of hL) hs).mono ?_
  rintro e w2 ⟨rfl, hk2⟩
  go_wp2
  go_ret
  exact ⟨rfl, hk.trans hk2 (fun _ _ h => h.elim)⟩


theorem news4 (w : World) (A : Nat) (h : Olds A w) : ∀ j u, [Value.string s92, .string s9292, .string s39, .string s9239][j]? = some u → w.cell? ((⟨A, 0, none⟩ : Addr).add j) = some u := by
  obtain ⟨h0, h1, h2, h3⟩ := h
  intro j u hj
  match j, hj with
  | 0, hj => simp at hj; subst hj; simpa [Addr.add] using h0
  | 1, hj => simp at hj; subst hj; simpa [Addr.add] using h1
  | 2, hj => simp at hj; subst hj; simpa [Addr.add] using h2
  | 3, hj => simp at hj; subst hj; simpa [Addr.add] using h3

theorem olds_of {w : World} {g cap : Nat} (h : w.ownsRow 0 9 1 (.slice (some ⟨g, 0, none⟩) 4 cap) 4 [.string s92, .string s9292, .string s39, .string s9239]) : Olds g w := by
  have e : ∀ j v, [Value.string s92, .string s9292, .string s39, .string s9239][j]? = some v → w.cell? ((⟨g, 0, none⟩ : Addr).add j) = some v := h.cells (g := g) rfl
  exact ⟨by simpa [Addr.add] using e 0 _ rfl, by simpa [Addr.add] using e 1 _ rfl, by simpa [Addr.add] using e 2 _ rfl, by simpa [Addr.add] using e 3 _ rfl⟩

set_option maxRecDepth 100000 in
set_option maxHeartbeats 1600000 in
theorem newReplacer_any (A : Nat) (w : World) (h : Olds A w) :
    Calls Try.prog 15 #[.slice (some ⟨A, 0, none⟩) 4 4] w fun e w' => ∃ R O cap, e = .returned (.pointer (some ⟨R, 0, none⟩)) ∧ Repl R 0 0 (.int .u32 0) .nilIface (.slice (some ⟨O, 0, none⟩) 4 cap) w' ∧ Olds O w' ∧ O ≠ R ∧ w.heap.size ≤ R ∧ Kept (fun _ => False) w w' := by
  obtain ⟨i0, hi, hz⟩ := Option.map_eq_some_iff.1 info9
  simp only [Prod.mk.injEq] at hz
  obtain ⟨hz0, hz1, hz2⟩ := hz
  go_enter Try.func15, Try.ntmps15
  go_wp2_with (at_builtin; refine wpList_append_own_at _ rfl _ _ 31 rfl 0 9 i0 _ 1 16 Try.underlying31 hi hz0 hz1 hz2 rfl (by decide) (.slice none 0 0) 0 [] rfl ?own ⟨A, 0, none⟩ 4 4 [.string s92, .string s9292, .string s39, .string s9239] rfl rfl ?news ?one ?c3 ?c4 ?c5 ?_)
  case own => exact World.ownsRow_nil _ _ _ _
  case news => exact news4 w A h
  case one => intro u hu; simp at hu; rcases hu with rfl | rfl | rfl | rfl <;> rfl
  case c3 => unfold maxLen; omega
  case c4 => omega
  case c5 => exact Nat.zero_le _
  intro v' w2 hown' hgrow hnil hat
  have kg : Kept (fun _ => False) w w2 := (Kept.grown hgrow).mono (fun i _ h => by cases h)
  obtain ⟨g, cap, hv⟩ : ∃ g cap, v' = .slice (some ⟨g, 0, none⟩) 4 cap := by
    rcases hown'.2 with ⟨_, h0⟩ | ⟨g, cap, cur, hv, _⟩
    · omega
    · exact ⟨g, cap, hv⟩
  subst hv
  clear hat hnil
  have hO := olds_of hown'
  go_wp2
  go_ret
  have ka := Kept.alloc w2 (.cells #[.int .u32 0, .int .i32 0, .int .u32 0, .nilIface, .slice (some ⟨g, 0, none⟩) 4 cap] 47) (fun _ => False)
  have hgl : g < w2.heap.size := World.block_lt_of_cell? w2 _ hO.1
  exact ⟨w2.heap.size, g, cap, rfl, heap_alloc_new w2 _, hO.kept ka (fun h => h), by omega, kg.size, kg.trans ka (fun _ _ h => h)⟩

/-- literal's text. -/
def lit (l : List UInt8) : List UInt8 := [69, 39] ++ escAll l ++ [39]

set_option maxRecDepth 100000 in
set_option maxHeartbeats 1600000 in
theorem literal_any (s : ByteArray) (w : World) (hs : s.size ≤ 600000) :
    Calls Try.prog 14 #[.string s] w fun e w' => e = .returned (.string ⟨(lit s.data.toList).toArray⟩) ∧ Kept (fun _ => False) w w' := by
  have hlen : (escAll s.data.toList).length ≤ 1200000 := by
    have h1 := escAll_len s.data.toList
    have h2 := cnt_le s.data.toList
    have h3 : s.data.toList.length = s.size := rfl
    omega
  obtain ⟨E, hE⟩ : ∃ E : ByteArray, E = ⟨(escAll s.data.toList).toArray⟩ := ⟨_, rfl⟩
  have hEs : E.size ≤ 1200000 := by rw [hE]; exact hlen
  have HE := hidd hE
  clear hE hlen
  go_enter Try.func14, Try.ntmps14
  go_wp2_with fail
  have hA : (w.alloc (.cells #[.string s92, .string s9292, .string s39, .string s9239] 9)).heap[w.heap.size]? = some (.cells #[.string s92, .string s9292, .string s39, .string s9239] 9 (0, 0)) := heap_alloc_new w _
  have k0 := Kept.alloc w (.cells #[.string s92, .string s9292, .string s39, .string s9239] 9) (fun _ => False)
  refine (newReplacer_any w.heap.size (w.alloc (.cells #[.string s92, .string s9292, .string s39, .string s9239] 9)) ⟨by rw [cell_of_heap hA]; rfl, by rw [cell_of_heap hA]; rfl, by rw [cell_of_heap hA]; rfl, by rw [cell_of_heap hA]; rfl⟩).mono ?_
  clear hA
  rintro e w1 ⟨R, O, cap, rfl, hR, hO, hne, hRs, hk1⟩
  go_wp2_with fail
  refine (replace_any R O cap _ _ s _ hR hO hne hs).mono ?_
  rintro e w2 ⟨rfl, hk2⟩
  rw [← unhid HE]
  go_wp2
  go_ret
  refine ⟨?_, (k0.trans hk1 (fun _ _ h => h)).trans hk2 (fun i hi h => by simp at hRs; omega)⟩
  rw [unhid HE]
  refine congrArg (fun x => Ending.returned (Value.string x)) ?_
  apply ByteArray.ext
  simp [lit]

set_option maxRecDepth 100000 in
set_option maxHeartbeats 1600000 in
theorem zzliteral_any (s : ByteArray) (w : World) (hs : s.size ≤ 600000) :
    Calls Try.prog 10 #[.string s] w fun e w' => e = .returned (.string ⟨(lit s.data.toList).toArray⟩) ∧ Kept (fun _ => False) w w' := by
  go_enter Try.func10, Try.ntmps10
  go_wp2_with (go_at_call 14; refine (literal_any s _ hs).mono ?_)
  rintro e w1 ⟨rfl, hk⟩
  go_wp2
  go_ret
  exact ⟨rfl, hk⟩

end Go.Proofs.Qxb6615994a
