import Derived.Test.Qxb6616250aChain
import Derived.LaidEqlPtr
namespace Go.Proofs.Qxb6616250a
open Go.RowKit

theorem Texts.kept {w w' : World} {ao : Option Addr} {len : Nat} {tx : Nat → ByteArray} (h : Texts w ao len tx) (k : Kept (fun _ => False) w w') : Texts w' ao len tx :=
  h.below (k.below (Nat.le_refl _) (fun _ _ h => h))

theorem Texts.same {w w' : World} {ao : Option Addr} {len : Nat} {tx : Nat → ByteArray} (h : Texts w ao len tx) (k : w'.heap = w.heap) : Texts w' ao len tx := by
  intro h0
  obtain ⟨b, off, e, hb, hc⟩ := h h0
  exact ⟨b, off, e, k ▸ hb, fun i hi => (World.cell?_of_block (w := w) (by rw [k])).trans (hc i hi)⟩

theorem Chain.kept {L : Nat} {tx : Nat → ByteArray} {len : Nat} {m t : ByteArray} {n k : Nat} {cur : Array Value} {w w' : World} (h : Chain L tx len m t n k cur w) (kk : Kept (fun _ => False) w w') :
    (∀ j, j < k → w'.cell? ⟨L, j, none⟩ = some (.pointer (some ⟨L + 2 + j, 0, none⟩))) ∧ (∀ j, j < k → w'.heap[L + 2 + j]? = some (layer L tx len m j)) ∧ w'.heap[L + 1]? = some (.cells #[.string t] 43) := by
  have hs := h.top
  refine ⟨fun j hj => ?_, fun j hj => ?_, ?_⟩
  · have : w'.heap[L]? = some (.cells cur 26 (0, 0)) := (kk.block L (by omega) (fun h => h)).trans h.row
    rw [cell_of_heap this]; exact h.at_ j hj
  · exact (kk.block _ (by omega) (fun h => h)).trans (h.lay j hj)
  · exact (kk.block _ (by omega) (fun h => h)).trans h.err

theorem codeAt_same (ao : Option Addr) (len cap : Nat) (tx : Nat → ByteArray) (i : Nat) (w : World) (ht : Texts w ao len tx) (hcap : len ≤ 4096) (hi : i ≤ 4096) :
    Calls Try.prog 8 #[.slice ao len cap, .int .i64 i] w fun e w' => e = .returned (.string (cd tx len i)) ∧ w' = w :=
  (codeAt_any ao len cap tx i w ht hcap hi).mono fun _ _ h => ⟨h.1, h.2.symm⟩

theorem neq26 (a : Addr) (w : World) : (binOp .neq 26 (.pointer (some a)) (.pointer (some a))).run Try.prog w = .ok (.bool false) w := by
  obtain ⟨i, hi⟩ : ∃ i, Try.prog.info? 31 = some i := by
    have : (Try.prog.info? 31).isSome = true := by kernel_rfl
    exact Option.isSome_iff_exists.1 this
  have h : ∀ d : Nat, (Op.equalIn (d + 1) 26 (.pointer (some a)) (.pointer (some a))).run Try.prog w = .ok true w := fun d => by
    simp [Op.equalIn, run_underlying Try.underlying26, sizeOf, typeInfo, hi, run_sameAddr_same]
  simp only [binOp]
  simp [Op.equal, Op.maxDepth, h 9999]

theorem Kept.drewNR {S : Nat → Prop} {w w' : World} (h : Kept S w w') (q : Nat) : Kept S w (w'.drewN q) := ⟨h.os, h.tape, h.output, h.size, h.block⟩
theorem Kept.drewR {S : Nat → Prop} {w w' : World} (h : Kept S w w') : Kept S w w'.drew := ⟨h.os, h.tape, h.output, h.size, h.block⟩

set_option maxHeartbeats 4000000 in
set_option maxRecDepth 100000 in
theorem chain_walk (ao : Option Addr) (len cap : Nat) (tx : Nat → ByteArray) (m t : ByteArray) (w : World) (ht : Texts w ao len tx) (hcap : len ≤ 9223372036854775807) (htx : ∀ i, i < len → (tx i).size ≤ maxLen) (hm : m.size ≤ maxLen) (htt : t.size ≤ maxLen) :
    Calls Try.prog 3 #[.slice ao len cap, .string m, .string t] w fun e w' => e = .returned (.bool true) ∧ Below w.heap.size w w' := by
  have hB := zzBytes_any ao len cap tx m t w ht hcap htx hm htt
  have hFt := fun (a : len ≤ 1048576) (b : Short tx len) => fits_any ao len cap tx m t w ht a b hm htt
  obtain ⟨n, hn⟩ : ∃ n, n = if len = 0 then 1 else len := ⟨_, rfl⟩
  have hn0 : 0 < n := by rw [hn]; split <;> omega
  have hnl : 1 < n → n = len := by rw [hn]; split <;> omega
  have hBd := fun (a : len ≤ 4096) => build_any ao len cap tx m t n hn w ht a
  have hn1 : len ≤ 4096 → n ≤ 4096 := by intro a; rw [hn]; split <;> omega
  clear hn htx hm htt
  go_enter Try.func3, Try.ntmps3
  go_wp2_with fail
  refine hB.mono ?_
  rintro e wx ⟨r, rfl, rfl, hr⟩
  cases r with
  | false =>
    go_wp2
    go_ret
    exact ⟨rfl, Below.refl _ _⟩
  | true =>
    obtain ⟨hl1, hsh⟩ := hr rfl
    clear hr hB
    go_wp2_with fail
    refine (hFt hl1 hsh).mono ?_
    rintro e wx ⟨r, rfl, rfl, hr⟩
    cases r with
    | false =>
      go_wp2
      go_ret
      exact ⟨rfl, Below.refl _ _⟩
    | true =>
      have hlen := hr rfl
      clear hr hFt hsh hl1 hcap
      have hnn := hn1 hlen
      go_wp2_with fail
      refine (hBd hlen).mono ?_
      rintro e w1 ⟨rfl, cur, hC, k1⟩
      clear hBd hn1
      go_wp2_with fail
      go_loopw [8] (fun i wr => ∃ k : Nat, k < n ∧ i = .int .i64 k ∧ Kept (fun _ => False) w1 wr) (fun i _ => (intOf i).toNat)
      case atStart => exact ⟨n - 1, by omega, by go_num, Kept.refl _ _⟩
      case round =>
        obtain ⟨k, hk, rfl, kr⟩ := hrel
        obtain ⟨q1, q2, q3⟩ := hC.kept kr
        by_cases hk1 : 1 ≤ k
        · obtain ⟨j, rfl⟩ : ∃ j, k = j + 1 := ⟨k - 1, by omega⟩
          have c1 := q1 (j + 1) hk
          have c0 := q1 j (by omega)
          have l1 := q2 (j + 1) hk
          have l0 := q2 j (by omega)
          unfold layer at l1 l0
          rw [if_neg (by omega), Nat.add_sub_cancel] at l1
          have d0 : wr.cell? ⟨w.heap.size + 2 + j, 0, none⟩ = some (.string (cd tx len j)) := by rw [cell_of_heap l0]; rfl
          have d1 : wr.cell? ⟨w.heap.size + 2 + j, 1, none⟩ = some (.string m) := by rw [cell_of_heap l0]; rfl
          clear q1 q2 q3 l0
          have htD : ∀ q, Texts (wr.drewN q) ao len tx := fun q => ((ht.kept k1).kept kr).same rfl
          have hj4 : j ≤ 4096 := by omega
          have hne := neq26
          have b1 : (j : Int) < (n : Int) := by omega
          have b2 : (j : Int) + 1 < (n : Int) := by omega
          have b4 : IntKind.i64.wrap ((j : Int) + 1 - 1) = (j : Int) := wrapEq _ (by omega) (by omega)
          have b5 : IntKind.i64.wrap (j : Int) = (j : Int) := wrapEq' _ (by omega) (by omega)
          go_wp2_with (go_at_call 7; refine (unwrapRej_any _ _ _ _ _ _ l1).mono ?_; rintro e wx ⟨rfl, rfl⟩)
          go_quiet (first | (go_at_call 8; exact Calls.quiet_of_same (codeAt_same ao len cap tx j _ (htD _) hlen hj4)))
          go_wp2
          go_roundw
          case rel => exact ⟨j, by omega, by go_num, kr.drewNR nq⟩
          case measure => simp [intOf]
        · have hk0 : k = 0 := by omega
          subst hk0
          have c0 := q1 0 hk
          have l0 := q2 0 hk
          unfold layer at l0
          rw [if_pos rfl] at l0
          rw [Nat.add_zero] at c0 l0
          clear q1 q2 hk1
          have htw := (ht.kept k1).kept kr
          have kk := k1.trans kr (fun _ _ h => h)
          have u1 := unwrapText_some _ _ _ _ t _ _ _ l0 q3
          have u2 := unwrapRej_none _ _ _ _ _ _ l0
          have u3 := codeAt_any ao len cap tx 0 wr htw hlen (by omega)
          have u4 := unwrapText_none _ (.string (cd tx len 0)) (.string m) _ _ (heap_alloc_new wr (.cells #[.string (cd tx len 0), .string m, .nilIface] 31))
          clear l0 q3
          go_wp2_with fail
          refine u1.mono ?_
          rintro e wx ⟨rfl, rfl⟩
          clear u1
          go_wp2_with fail
          refine u2.mono ?_
          rintro e wx ⟨rfl, rfl⟩
          clear u2
          go_wp2_with fail
          refine u3.mono ?_
          rintro e wx ⟨rfl, rfl⟩
          clear u3
          go_wp2_with fail
          refine u4.mono ?_
          rintro e wx ⟨rfl, rfl⟩
          clear u4
          go_wp2
          go_ret
          exact ⟨rfl, (kk.trans (Kept.alloc _ _ _) (fun _ _ h => h)).below (Nat.le_refl _) (fun _ _ h => h)⟩

end Go.Proofs.Qxb6616250a
