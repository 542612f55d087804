import Derived.Test.Qxb6614816aRows
import Derived.WalkKit
import Derived.ProofKit
import Derived.OpenShut
import Derived.ShutString
import Derived.ChangeOld
import Derived.SliceStrings
import Derived.Below
import Derived.Test.Qxb6614816aLst
namespace Go.Proofs.Qxb6614816a.fnYAMLListOfNumbersLines
open Go.ChangeShapes Go.WideShapes Go.ChangeAt Go.RowKit
open Go.ChangeMaps (open_string shut_string)
open Go.Proofs.Qxb6614816a

theorem own : ownKnob Try.prog.godebug = none := by kernel_rfl
theorem laidOut : laidOutB Try.prog = true := by kernel_rfl

/-- the slice of strings as the walk wants it. -/
theorem texts_of (W : World) (x : Addr) (len : Nat) (ss : List ByteArray) (hl : len ≤ ss.length) (hcell : ∀ i, i < ss.length → W.cell? (x.add i) = some (.string (ss.getD i ByteArray.empty))) :
    Texts W (some x) len (fun i => ss.getD i ByteArray.empty) := by
  intro h0
  obtain ⟨b, off, spot⟩ := x
  have hspot : spot = none := by simpa [Addr.add] using World.cell?_spot (hcell 0 (by omega))
  subst hspot
  refine ⟨b, off, rfl, ?_, fun i hi => by rw [← add_plain]; exact hcell i (by omega)⟩
  have := World.block_lt_of_cell? W _ (hcell 0 (by omega))
  simpa [Addr.add] using this

theorem walk (a0 : Bool) (a1 a2 a3 : Int) (ao : Option Addr) (len cap : Nat) (tx : Nat → ByteArray) (w3 : (Lit.int .i64 a3).wf = true) (w : World) (ht : Texts w ao len tx) (hcap : len ≤ 9223372036854775807) (htx : ∀ i, i < len → (tx i).size ≤ maxLen) :
    Calls Try.prog 5 #[.bool a0, .int .i64 a1, .int .u8 a2, .int .i64 a3, .slice ao len cap] w fun e w' => e = .returned (.bool true) ∧ Below w.heap.size w w' := by
  have b3 := bounds_i64 w3
  by_cases c1 : a1 < 0
  · exact lst_early a0 a1 a2 a3 ao len cap tx w ht hcap htx (Or.inl c1)
  by_cases c2 : 65536 < a1
  · exact lst_early a0 a1 a2 a3 ao len cap tx w ht hcap htx (Or.inr (Or.inl c2))
  by_cases c3 : a3 < 0
  · exact lst_early a0 a1 a2 a3 ao len cap tx w ht hcap htx (Or.inr (Or.inr ⟨by omega, by omega, c3⟩))
  obtain ⟨ind, rfl⟩ := Int.eq_ofNat_of_zero_le (by omega : 0 ≤ a1)
  exact lst_main a0 ind a2 a3 ao len cap tx w ht hcap htx (by omega) (by omega) (by omega)

set_option maxRecDepth 100000 in
theorem lifted (os : Os) (started : os.Started) (H : Type) (enc : TypeId × Value → H) :
    ReturnsInHanded {} Try.checked os 5 .any (Rows.fnYAMLListOfNumbersLinesSpec.pre6 enc Try.prog Try.f5 Rows.fnYAMLListOfNumbersLinesRow.domain false) (Rows.fnYAMLListOfNumbersLinesSpec.post enc Try.prog Try.f5 false true false false) := by
  refine returnsInHanded_of_change (C := Try.checked) own started (by kernel_rfl) Try.func5
    (ChangeSpec.witness6 (enc := enc) (C := Try.checked) false ⟨#[], #[.bool false, .int .i64 0, .int .u8 0, .int .i64 0, .slice none 0 0], []⟩ 8 (by kernel_rfl) (by kernel_rfl) (by kernel_rfl) (by kernel_rfl)) ?_
  intro W base args ds gs before hval0 hW hcnd _
  have hval : ∀ (j : Nat) t v, Try.f5.params[j]? = some t → args[j]? = some v → Value.okWide Try.prog W .any base t v := hval0
  have hW' := hW
  obtain ⟨p, q, hA0, hV, rfl, hfz, hnd⟩ := hW
  have hA : DataW.TrodAll enc Try.prog W 0 (fun _ => true) true Try.f5.params.toList args.toList ds p := hA0
  rw [Try.params5] at hA hval
  obtain ⟨v0, vs0, d0, ds0, p0, q0, hargs, rfl, rfl, h0, r0⟩ := trodAll_cons hA
  obtain ⟨v1, vs1, d1, ds1, p1, q1, rfl, rfl, rfl, h1, r1⟩ := trodAll_cons r0
  obtain ⟨v2, vs2, d2, ds2, p2, q2, rfl, rfl, rfl, h2, r2⟩ := trodAll_cons r1
  obtain ⟨v3, vs3, d3, ds3, p3, q3, rfl, rfl, rfl, h3, r3⟩ := trodAll_cons r2
  obtain ⟨v4, vs4, d4, ds4, p4, q4, rfl, rfl, rfl, h4, r4⟩ := trodAll_cons r3
  obtain ⟨rfl, rfl, rfl⟩ := trodAll_nil r4
  obtain rfl : args = #[v0, v1, v2, v3, v4] := by cases args; simp_all
  obtain ⟨rfl, rfl⟩ := trodVars_none hV
  obtain ⟨a0, rfl, rfl, rfl⟩ := open_bool Try.underlying4 (hval 0 4 v0 rfl rfl) h0
  obtain ⟨a1, rfl, rfl, rfl, w1⟩ := open_int Try.underlying3 (hval 1 3 v1 rfl rfl) h1
  obtain ⟨a2, rfl, rfl, rfl, w2⟩ := open_int Try.underlying5 (hval 2 5 v2 rfl rfl) h2
  obtain ⟨a3, rfl, rfl, rfl, w3⟩ := open_int Try.underlying3 (hval 3 3 v3 rfl rfl) h3
  obtain ⟨a4, len4, cap4, rfl⟩ := okWide_slice Try.underlying34 (hval 4 34 v4 rfl rfl)
  have k4 := h4
  have lt4 : ∀ x ∈ p4, x.block < W.heap.size := by obtain ⟨m, hm⟩ := k4; exact DataW.trod_lt m _ _ _ hm
  obtain ⟨tx, hT, hcap, htx⟩ : ∃ tx, Texts W a4 len4 tx ∧ len4 ≤ 9223372036854775807 ∧ ∀ i, i < len4 → (tx i).size ≤ maxLen := by
    obtain ⟨fuel, hf⟩ := h4
    rcases open_strings Try.underlying34 Try.underlying9 (by kernel_rfl) hf with ⟨hcs, _⟩ | ⟨x, l, c, ss, hcs, _, hl, hm, hz, _, hcell, hws⟩
    · simp [Value.cells] at hcs
      obtain ⟨rfl, rfl, rfl⟩ := hcs
      exact ⟨fun _ => ByteArray.empty, fun h => by omega, by omega, fun i hi => by omega⟩
    · simp [Value.cells] at hcs
      obtain ⟨rfl, rfl, rfl⟩ := hcs
      have hlen : len4 ≤ ss.length := by simp at hz; omega
      refine ⟨fun i => ss.getD i ByteArray.empty, texts_of W x len4 ss hlen hcell, by unfold maxLen at hm; omega, fun i hi => ?_⟩
      refine hws _ ?_
      show ss.getD i ByteArray.empty ∈ ss
      rw [List.getD_eq_getElem?_getD, List.getElem?_eq_getElem (by omega)]
      exact List.getElem_mem _
  clear hA0 hval0
  refine (walk a0 a1 a2 a3 a4 len4 cap4 tx w3 W hT hcap htx).mono fun e W' ⟨he, bel⟩ => ?_
  subst he
  exact ⟨_, rfl, _, _, _, [], _, [], hW', trodAll_mk1 (shut_bool Try.underlying4 _), (trodAll_cons_mk (shut_bool Try.underlying4 _) (trodAll_cons_mk (shut_int Try.underlying3 w1) (trodAll_cons_mk (shut_int Try.underlying5 w2) (trodAll_cons_mk (shut_int Try.underlying3 w3) (trodAll_cons_mk (Below.trod laidOut (by kernel_rfl) (of_decide_eq_true (by kernel_rfl)) k4 bel lt4) trodAll_mk0))))), rfl, bel.frame _, fun h => by cases h⟩

theorem over : Rows.fnYAMLListOfNumbersLinesRow.holds Try.pinned (OpenSpec.ofChange Rows.fnYAMLListOfNumbersLinesSpec) :=
  OpenClaim.holds_of_wide 5 Try.f5 rfl rfl rfl rfl rfl rfl rfl ⟨rfl, rfl, rfl, rfl, rfl⟩ rfl rfl rfl rfl rfl (by kernel_rfl) Try.func5 (by kernel_rfl)
    (of_decide_eq_true (by kernel_rfl)) (by unfold Func.isWrapper; first | (rw [if_pos (by decide +kernel)]; kernel_rfl) | (rw [if_neg (by decide +kernel)]; exact ⟨rfl, rfl⟩))
    (fun os started H enc _ => lifted os started H enc)

/-- the statement -/
theorem proved : Rows.FnYAMLListOfNumbersLinesSaid := over
#print axioms proved
end Go.Proofs.Qxb6614816a.fnYAMLListOfNumbersLines
