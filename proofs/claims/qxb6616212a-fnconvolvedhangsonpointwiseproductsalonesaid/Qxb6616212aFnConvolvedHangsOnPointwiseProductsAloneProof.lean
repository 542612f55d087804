import Derived.Test.Qxb6616212aRows
import Derived.WalkKit
import Derived.ProofKit
import Derived.OpenShut
import Derived.ShutString
import Derived.ChangeOld
import Derived.Below
import Derived.Test.Qxb6616212aOpen
import Derived.Test.Qxb6616212aLaw6
namespace Go.Proofs.Qxb6616212a.fnConvolvedHangsOnPointwiseProductsAlone
open Go.ChangeShapes Go.WideShapes Go.ChangeAt Go.RowKit
open Go.Proofs.Qxb6616212a

theorem own : ownKnob Try.prog.godebug = none := by kernel_rfl
theorem laidOut : laidOutB Try.prog = true := by kernel_rfl

/-- WHAT THE WALK IS TOLD OF A SLICE OF INTEGERS THAT CAME IN: it is nil; or it leads to a row of 'cap' cells, the numbers 'zs' (the first 'len' are its elements, the rest its spare room), each fitting its kind. -/
def IsRow (k : IntKind) (w : World) (a : Option Addr) (len cap : Nat) (zs : List Int) : Prop :=
  (a = none ∧ len = 0 ∧ cap = 0 ∧ zs = []) ∨
  ∃ x, a = some x ∧ len ≤ cap ∧ cap ≤ maxLen ∧ zs.length = cap ∧ (∀ i, i < zs.length → w.cell? (x.add i) = some (.int k (zs.getD i 0))) ∧ ∀ n ∈ zs, (Lit.int k n).wf = true

/-! ### STEP 1: THE WALK: the Go text returns true, AND WRITES NOTHING THAT WAS THERE: 'Below w.heap.size w w'' (Derived/Below.lean: '.refl', '.alloc', '.drew', '.setCell' at a new block, '.trans'). Open each 'IsRow' by 'rcases' AHEAD of 'go_enter'; part every test ahead of the walk. -/
theorem walk (a0 : Int) (a1 : Int) (a2 : Int) (a3 : Int) (a4 : Int) (a5 : Int) (a6 : Option Addr) (len6 cap6 : Nat) (z6 : List Int) (a7 : Option Addr) (len7 cap7 : Nat) (z7 : List Int) (w : World) (w0 : (Lit.int .u64 a0).wf = true) (w1 : (Lit.int .u64 a1).wf = true) (w2 : (Lit.int .u64 a2).wf = true) (w3 : (Lit.int .u64 a3).wf = true) (w4 : (Lit.int .u64 a4).wf = true) (w5 : (Lit.int .u64 a5).wf = true) (w6 : IsRow .u64 w a6 len6 cap6 z6) (w7 : IsRow .u64 w a7 len7 cap7 z7) :
    Calls Try.prog 6 #[.int .u64 a0, .int .u64 a1, .int .u64 a2, .int .u64 a3, .int .u64 a4, .int .u64 a5, .slice a6 len6 cap6, .slice a7 len7 cap7] w fun e w' => e = .returned (.bool true) ∧ Below w.heap.size w w' := by
  obtain ⟨p, rfl, hp⟩ := nat_of_u64 w0
  obtain ⟨root, rfl, hroot⟩ := nat_of_u64 w1
  obtain ⟨inv, rfl, hinv⟩ := nat_of_u64 w2
  obtain ⟨r2, rfl, hr2⟩ := nat_of_u64 w3
  obtain ⟨cube, rfl, hcu⟩ := nat_of_u64 w4
  obtain ⟨ci, rfl, hci⟩ := nat_of_u64 w5
  obtain ⟨x, hx, hxb, hn⟩ := words_of w a6 len6 cap6 z6 w6
  obtain ⟨z, hz, hzb, hm⟩ := words_of w a7 len7 cap7 z7 w7
  refine (law6_any p root inv r2 cube ci hp hroot hinv hr2 hcu hci a6 a7 len6 len7 cap6 cap7 x z hn hm w hx hz hxb hzb).mono ?_
  rintro e w' ⟨rfl, k⟩
  exact ⟨rfl, k.below (Nat.le_refl _) (fun _ _ h => h)⟩

/-! ### THE ROW's STEP: WRITTEN OUT: LEAVE IT -/
set_option maxRecDepth 100000 in
theorem lifted (os : Os) (started : os.Started) (H : Type) (enc : TypeId × Value → H) :
    ReturnsInHanded {} Try.checked os 6 .any (Rows.fnConvolvedHangsOnPointwiseProductsAloneSpec.pre6 enc Try.prog Try.f6 Rows.fnConvolvedHangsOnPointwiseProductsAloneRow.domain false) (Rows.fnConvolvedHangsOnPointwiseProductsAloneSpec.post enc Try.prog Try.f6 false true false false) := by
  refine returnsInHanded_of_change (C := Try.checked) own started (by kernel_rfl) Try.func6
    (ChangeSpec.witness6 (enc := enc) (C := Try.checked) false ⟨#[], #[.int .u64 0, .int .u64 0, .int .u64 0, .int .u64 0, .int .u64 0, .int .u64 0, .slice none 0 0, .slice none 0 0], []⟩ 8 (by kernel_rfl) (by kernel_rfl) (by kernel_rfl) (by kernel_rfl)) ?_
  intro W base args ds gs before hval0 hW hcnd _
  have hval : ∀ (j : Nat) t v, Try.f6.params[j]? = some t → args[j]? = some v → Value.okWide Try.prog W .any base t v := hval0
  have hW' := hW
  obtain ⟨p, q, hA0, hV, rfl, hfz, hnd⟩ := hW
  have hA : DataW.TrodAll enc Try.prog W 0 (fun _ => true) true Try.f6.params.toList args.toList ds p := hA0
  rw [Try.params6] at hA hval
  obtain ⟨v0, vs0, d0, ds0, p0, q0, hargs, rfl, rfl, h0, r0⟩ := trodAll_cons hA
  obtain ⟨v1, vs1, d1, ds1, p1, q1, rfl, rfl, rfl, h1, r1⟩ := trodAll_cons r0
  obtain ⟨v2, vs2, d2, ds2, p2, q2, rfl, rfl, rfl, h2, r2⟩ := trodAll_cons r1
  obtain ⟨v3, vs3, d3, ds3, p3, q3, rfl, rfl, rfl, h3, r3⟩ := trodAll_cons r2
  obtain ⟨v4, vs4, d4, ds4, p4, q4, rfl, rfl, rfl, h4, r4⟩ := trodAll_cons r3
  obtain ⟨v5, vs5, d5, ds5, p5, q5, rfl, rfl, rfl, h5, r5⟩ := trodAll_cons r4
  obtain ⟨v6, vs6, d6, ds6, p6, q6, rfl, rfl, rfl, h6, r6⟩ := trodAll_cons r5
  obtain ⟨v7, vs7, d7, ds7, p7, q7, rfl, rfl, rfl, h7, r7⟩ := trodAll_cons r6
  obtain ⟨rfl, rfl, rfl⟩ := trodAll_nil r7
  obtain rfl : args = #[v0, v1, v2, v3, v4, v5, v6, v7] := by cases args; simp_all
  obtain ⟨rfl, rfl⟩ := trodVars_none hV
  obtain ⟨a0, rfl, rfl, rfl, w0⟩ := open_int Try.underlying22 (hval 0 22 v0 rfl rfl) h0
  obtain ⟨a1, rfl, rfl, rfl, w1⟩ := open_int Try.underlying22 (hval 1 22 v1 rfl rfl) h1
  obtain ⟨a2, rfl, rfl, rfl, w2⟩ := open_int Try.underlying22 (hval 2 22 v2 rfl rfl) h2
  obtain ⟨a3, rfl, rfl, rfl, w3⟩ := open_int Try.underlying22 (hval 3 22 v3 rfl rfl) h3
  obtain ⟨a4, rfl, rfl, rfl, w4⟩ := open_int Try.underlying22 (hval 4 22 v4 rfl rfl) h4
  obtain ⟨a5, rfl, rfl, rfl, w5⟩ := open_int Try.underlying22 (hval 5 22 v5 rfl rfl) h5
  obtain ⟨a6, len6, cap6, rfl⟩ := okWide_slice Try.underlying23 (hval 6 23 v6 rfl rfl)
  have k6 := h6
  have lt6 : ∀ x ∈ p6, x.block < W.heap.size := by obtain ⟨m, hm⟩ := k6; exact DataW.trod_lt m _ _ _ hm
  obtain ⟨z6, w6⟩ : ∃ zs, IsRow .u64 W a6 len6 cap6 zs := by
    obtain ⟨fuel, hf⟩ := h6
    rcases open_ints Try.underlying23 Try.underlying22 (by kernel_rfl) hf with ⟨hcs, _⟩ | ⟨x, l, c, zs, hcs, _, hl, hm, hz, _, hcell, hwz⟩
    · simp [Value.cells] at hcs
      obtain ⟨rfl, rfl, rfl⟩ := hcs
      exact ⟨[], .inl ⟨rfl, rfl, rfl, rfl⟩⟩
    · simp [Value.cells] at hcs
      obtain ⟨rfl, rfl, rfl⟩ := hcs
      exact ⟨zs, .inr ⟨_, rfl, hl, hm, by simpa using hz, hcell, hwz⟩⟩
  obtain ⟨a7, len7, cap7, rfl⟩ := okWide_slice Try.underlying23 (hval 7 23 v7 rfl rfl)
  have k7 := h7
  have lt7 : ∀ x ∈ p7, x.block < W.heap.size := by obtain ⟨m, hm⟩ := k7; exact DataW.trod_lt m _ _ _ hm
  obtain ⟨z7, w7⟩ : ∃ zs, IsRow .u64 W a7 len7 cap7 zs := by
    obtain ⟨fuel, hf⟩ := h7
    rcases open_ints Try.underlying23 Try.underlying22 (by kernel_rfl) hf with ⟨hcs, _⟩ | ⟨x, l, c, zs, hcs, _, hl, hm, hz, _, hcell, hwz⟩
    · simp [Value.cells] at hcs
      obtain ⟨rfl, rfl, rfl⟩ := hcs
      exact ⟨[], .inl ⟨rfl, rfl, rfl, rfl⟩⟩
    · simp [Value.cells] at hcs
      obtain ⟨rfl, rfl, rfl⟩ := hcs
      exact ⟨zs, .inr ⟨_, rfl, hl, hm, by simpa using hz, hcell, hwz⟩⟩
  clear hA0 hval0
  refine (walk a0 a1 a2 a3 a4 a5 a6 len6 cap6 z6 a7 len7 cap7 z7 W w0 w1 w2 w3 w4 w5 w6 w7).mono fun e W' ⟨he, bel⟩ => ?_
  subst he
  exact ⟨_, rfl, _, _, _, [], _, [], hW', trodAll_mk1 (shut_bool Try.underlying4 _), (trodAll_cons_mk (shut_int Try.underlying22 w0) (trodAll_cons_mk (shut_int Try.underlying22 w1) (trodAll_cons_mk (shut_int Try.underlying22 w2) (trodAll_cons_mk (shut_int Try.underlying22 w3) (trodAll_cons_mk (shut_int Try.underlying22 w4) (trodAll_cons_mk (shut_int Try.underlying22 w5) (trodAll_cons_mk (Below.trod laidOut (by kernel_rfl) (of_decide_eq_true (by kernel_rfl)) k6 bel lt6) (trodAll_cons_mk (Below.trod laidOut (by kernel_rfl) (of_decide_eq_true (by kernel_rfl)) k7 bel lt7) trodAll_mk0)))))))), rfl, bel.frame _, fun h => by cases h⟩

theorem over : Rows.fnConvolvedHangsOnPointwiseProductsAloneRow.holds Try.pinned (OpenSpec.ofChange Rows.fnConvolvedHangsOnPointwiseProductsAloneSpec) :=
  OpenClaim.holds_of_wide 6 Try.f6 rfl rfl rfl rfl rfl rfl rfl ⟨rfl, rfl, rfl, rfl, rfl⟩ rfl rfl rfl rfl rfl (by kernel_rfl) Try.func6 (by kernel_rfl)
    (of_decide_eq_true (by kernel_rfl)) (by unfold Func.isWrapper; first | (rw [if_pos (by decide +kernel)]; kernel_rfl) | (rw [if_neg (by decide +kernel)]; exact ⟨rfl, rfl⟩))
    (fun os started H enc _ => lifted os started H enc)

/-- ████ THE STATEMENT ████ -/
theorem proved : Rows.FnConvolvedHangsOnPointwiseProductsAloneSaid := over
#print axioms proved
end Go.Proofs.Qxb6616212a.fnConvolvedHangsOnPointwiseProductsAlone
