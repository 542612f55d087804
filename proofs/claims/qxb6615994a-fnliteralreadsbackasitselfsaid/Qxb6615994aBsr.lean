import Derived.Test.Qxb6615994aRep
import Derived.Test.Qxb6615994aEsc
import Derived.Lib.Bytealg
import Derived.Lib.ConvBytes
import Derived.Laws.MakeOwn
import Derived.WalkSpells
namespace Go.Proofs.Qxb6615994a
open Go.RowKit

theorem neq_nil27 (w : World) (a : Option Addr) (n c : Nat) : (binOp .neq 27 (.slice a n c) (.slice none 0 0)).run Try.prog w = .ok (.bool (!a.isNone)) w :=
  run_neq_slice_nil_any w 27 5 a n c 0 0 Try.underlying27

theorem info5 : (Try.prog.info? 5).map (fun i => (i.zero, i.size, i.bytes)) = some (some (.int .u8 0), 1, 1) := by kernel_rfl

set_option maxHeartbeats 1000000 in
set_option maxRecDepth 100000 in
theorem count_one (s : ByteArray) (c : UInt8) (w : World) (x : ByteArray) (hx : x = ⟨#[c]⟩) :
    Calls Try.prog 85 #[.string s, .string x] w fun e w' => e = .returned (.int .i64 (s.data.toList.count c)) ∧ w' = w := by
  subst hx
  go_enter Try.func85, Try.ntmps85
  go_wp2
  rw [run_callFunc_extern Try.func87 (by kernel_rfl) (by kernel_rfl) (by kernel_rfl) (e := Extern.BytealgCount.count) (by kernel_rfl), Lib.run_countString]
  simp only [Result.andThen]
  rw [Oper.upon_value]
  go_wp2
  go_ret
  refine ⟨?_, rfl⟩
  have e : ∀ h, (⟨#[c]⟩ : ByteArray)[0]'h = c := fun _ => rfl
  simp [Lib.countByte, e]

/-- the table as the walk of Replace reads it. -/
structure Tbl (S : Nat) (w : World) : Prop where
  ex : ∃ ga ca gb cb gt ct, w.cell? ⟨S, 39, none⟩ = some (.slice (some ⟨ga, 0, none⟩) 2 ca) ∧ w.cell? ⟨S, 92, none⟩ = some (.slice (some ⟨gb, 0, none⟩) 2 cb) ∧ w.cell? ⟨S, 256, none⟩ = some (.slice (some ⟨gt, 0, none⟩) 2 ct) ∧
    w.cell? ⟨ga, 0, none⟩ = some (.int .u8 92) ∧ w.cell? ⟨ga, 1, none⟩ = some (.int .u8 39) ∧ w.cell? ⟨gb, 0, none⟩ = some (.int .u8 92) ∧ w.cell? ⟨gb, 1, none⟩ = some (.int .u8 92) ∧
    w.cell? ⟨gt, 0, none⟩ = some (.string s39) ∧ w.cell? ⟨gt, 1, none⟩ = some (.string s92) ∧ (∀ c, c < 256 → c ≠ 39 → c ≠ 92 → w.cell? ⟨S, c, none⟩ = some (.slice none 0 0))

theorem Tbl.of {S : Nat} {t : Value} {w : World} (h : Laid S 2 t w) : Tbl S w := by
  rcases h with ⟨h, _⟩ | ⟨h, _⟩ | ⟨_, a, b, h1, h2, h3, h4⟩
  · omega
  · omega
  · obtain ⟨ga, ca, csa, fra, rfl, ha, ha0, ha1⟩ := h3
    obtain ⟨gb, cb, csb, frb, rfl, hb, hb0, hb1⟩ := h4
    rcases h2.2 with ⟨_, h0⟩ | ⟨gt, ct, cur, rfl, _, ht, _, _, _, htake⟩
    · omega
    · have e : ∀ j v, [Value.string s39, .string s92][j]? = some v → w.cell? ((⟨gt, 0, none⟩ : Addr).add j) = some v := h2.cells (g := gt) rfl
      have e0 := e 0 _ rfl
      have e1 := e 1 _ rfl
      refine ⟨ga, ca, gb, cb, gt, ct, ?_, ?_, ?_, ?_, ?_, ?_, ?_, by simpa [Addr.add] using e0, by simpa [Addr.add] using e1, ?_⟩
      · rw [cell_of_heap h1]; exact tab_39 _ _ _
      · rw [cell_of_heap h1]; exact tab_92 _ _ _
      · rw [cell_of_heap h1]; exact tab_256 _ _ _
      · rw [cell_of_heap ha]; exact ha0
      · rw [cell_of_heap ha]; exact ha1
      · rw [cell_of_heap hb]; exact hb0
      · rw [cell_of_heap hb]; exact hb1
      · intro c hc h39 h92
        rw [cell_of_heap h1]; exact tab_other _ _ _ c hc h39 h92

theorem Tbl.kept {S : Nat} {w w' : World} (h : Tbl S w) (k : Kept (fun _ => False) w w') : Tbl S w' := by
  obtain ⟨ga, ca, gb, cb, gt, ct, h1, h2, h3, h4, h5, h6, h7, h8, h9, h10⟩ := h.ex
  have e : ∀ {p : Addr} {x : Value}, w.cell? p = some x → w'.cell? p = some x := fun {p x} h => (World.cell?_of_block (w := w) (k.block p.block (World.block_lt_of_cell? w _ h) (fun h => h))).trans h
  exact ⟨ga, ca, gb, cb, gt, ct, e h1, e h2, e h3, e h4, e h5, e h6, e h7, e h8, e h9, fun c hc a b => e (h10 c hc a b)⟩

/-- LEMMAS -/
theorem hidd {p : Prop} (h : p) : Hid p := h
theorem unhid {p : Prop} (h : Hid p) : p := h

/-- bytes as cells. -/
def bc (l : List UInt8) : List Value := l.map fun b => Value.int .u8 b.toNat
theorem bc_len (l : List UInt8) : (bc l).length = l.length := by simp [bc]
theorem bc_append (l m : List UInt8) : bc (l ++ m) = bc l ++ bc m := by simp [bc]

theorem conv_row (W : World) (B N : Nat) (l : List UInt8) (cur : Array Value) (hB : W.heap[B]? = some (.cells cur 5 (0, 0))) (hN : N = l.length) (ht : cur.toList.take N = bc l) :
    (convert 27 9 (.slice (some ⟨B, 0, none⟩) N N)).run Try.prog W = .ok (.string ⟨l.toArray⟩) W := by
  subst hN
  rw [run_convert_bytes_arg W 27 5 Try.underlying27 Try.underlying5 B 0 l.length l.length (l.map fun c => (c.toNat : Int)) (by simp) ?_ 9 Try.underlying9]
  · congr 2
    simp only [strOfNums, List.map_map]
    congr 2
    conv => rhs; rw [← List.map_id l]
    apply List.map_congr_left
    intro c _
    simp
  · intro i hi
    rw [cell_of_heap hB, Nat.zero_add, ← Array.getElem?_toList]
    have h1 : (cur.toList.take l.length)[i]? = cur.toList[i]? := by rw [List.getElem?_take, if_pos hi]
    rw [← h1, ht]
    simp [bc, List.getElem?_eq_getElem hi]

theorem make_row (W : World) (a c : Nat) (h : a + c ≤ 2000000) :
    ∃ w1 cur, (Instr.makeSlice 27 (.int .i64 ((a : Int) + (c : Int))) (.int .i64 ((a : Int) + (c : Int)))).run Try.prog W = .ok (.slice (some ⟨W.heap.size, 0, none⟩) (a + c) (a + c)) w1 ∧
      w1.heap[W.heap.size]? = some (.cells cur 5 (0, 0)) ∧ cur.size = a + c ∧ Kept (fun _ => False) W w1 := by
  obtain ⟨i0, hi, hz⟩ := Option.map_eq_some_iff.1 info5
  simp only [Prod.mk.injEq] at hz
  obtain ⟨hz0, hz1, hz2⟩ := hz
  have hr := run_make (P := Try.prog) W 27 5 i0 (.int .u8 0) Try.underlying27 hi hz0 .i64 .i64 ((a : Int) + c) ((a : Int) + c) (by omega) (by omega) (by rw [hz2]; omega) (by omega)
  have e : ((a : Int) + (c : Int)).toNat = a + c := by omega
  rw [e, hz1] at hr
  refine ⟨_, _, hr, heap_alloc_new W _, by rw [size_madeCells]; omega, Kept.alloc W _ _⟩

theorem copy_two (W : World) (B j N g c : Nat) (x y : UInt8) (cur : Array Value) (hB : W.heap[B]? = some (.cells cur 5 (0, 0))) (hN : cur.size = N) (hj : j + 2 ≤ N)
    (c0 : W.cell? ⟨g, 0, none⟩ = some (.int .u8 x.toNat)) (c1 : W.cell? ⟨g, 1, none⟩ = some (.int .u8 y.toNat)) :
    ∃ w3 cur', (∀ ty, (Builtin.copy_ #[27, 27] ty #[.slice (some ⟨B, j, none⟩) (N - j) (N - j), .slice (some ⟨g, 0, none⟩) 2 c]).run Try.prog W = .ok (.int .i64 2) w3) ∧
      w3.heap[B]? = some (.cells cur' 5 (0, 0)) ∧ cur'.size = N ∧ cur'.toList.take (j + 2) = cur.toList.take j ++ bc [x, y] ∧ Kept (fun k => k = B) W w3 := by
  have hl : (bc [x, y]).length = 2 := rfl
  have hmin : Nat.min 2 (N - j) = 2 := by have := Nat.min_eq_left (show 2 ≤ N - j by omega); exact this
  have hr := fun ty => run_copy_row (P := Try.prog) W 27 27 ty 5 B j (N - j) (N - j) ⟨g, 0, none⟩ 2 c cur 5 (bc [x, y]) Try.underlying27 (by kernel_rfl) hB (by rw [hl, hmin])
    (fun k v hv => by
      match k, hv with
      | 0, hv => simp [bc] at hv; subst hv; simpa [Addr.add] using c0
      | 1, hv => simp [bc] at hv; subst hv; simpa [Addr.add] using c1) (by rw [hl]; omega) (by intro v hv; simp [bc] at hv; rcases hv with rfl | rfl <;> rfl)
  have hcl : cur.toList.length = N := by simpa using hN
  refine ⟨_, _, hr, setRow_heap _ _ _ _ _ _ hB, ?_, ?_, ⟨rfl, rfl, rfl, by simp, fun k _ hk => setRow_other _ _ _ _ hk⟩⟩
  · simp [hl]; omega
  · have h1 : (cur.toList.take j ++ bc [x, y]).length = j + 2 := by simp [hl]; omega
    simp only []
    rw [← h1, List.take_left' rfl]

theorem put_one {W : World} {B j : Nat} {cur : Array Value} {v : Value} (hB : W.heap[B]? = some (.cells cur 5 (0, 0))) (hj : j < cur.size) :
    (W.setCell ⟨B, j, none⟩ v).heap[B]? = some (.cells (cur.set! j v) 5 (0, 0)) ∧ (cur.set! j v).size = cur.size ∧ (cur.set! j v).toList.take (j + 1) = cur.toList.take j ++ [v] := by
  refine ⟨setCell_heap hB j v, by simp, ?_⟩
  rw [Array.set!_eq_setIfInBounds, Array.toList_setIfInBounds]
  have hj' : j < cur.toList.length := by simpa using hj
  rw [List.take_succ_eq_append_getElem (by simpa using hj)]
  have e : List.take j (cur.toList.set j v) = List.take j cur.toList := by
    apply List.ext_getElem?
    intro i
    rw [List.getElem?_take, List.getElem?_take]
    by_cases h : i < j
    · rw [if_pos h, if_pos h, List.getElem?_set_ne (by omega)]
    · rw [if_neg h, if_neg h]
  rw [e]
  simp

theorem cell_kept {w0 wr : World} {p : Addr} {x : Value} (k : Kept (fun _ => False) w0 wr) (h : w0.cell? p = some x) : wr.cell? p = some x :=
  (World.cell?_of_block (w := w0) (k.block p.block (World.block_lt_of_cell? w0 _ h) (fun h => h))).trans h
theorem Kept.drewR {S : Nat → Prop} {w w' : World} (h : Kept S w w') : Kept S w w'.drew := ⟨h.os, h.tape, h.output, h.size, h.block⟩

theorem esc39 {c : UInt8} (h : c = 39) : esc c = [92, 39] := by subst h; rfl
theorem esc92 {c : UInt8} (h : c = 92) : esc c = [92, 92] := by subst h; rfl
theorem not_special {c : UInt8} (h1 : ¬ c = 39) (h2 : ¬ c = 92) : special c = false := by simp [special, h1, h2]
theorem toNat_ne {c : UInt8} {n : UInt8} (h : ¬ c = n) : c.toNat ≠ n.toNat := fun e => h (UInt8.toNat_inj.1 e)
theorem str_self (s : ByteArray) (h : cnt s.data.toList = 0) : s = ⟨(escAll s.data.toList).toArray⟩ := by rw [escAll_id _ h]

set_option maxHeartbeats 4000000 in
set_option maxRecDepth 100000 in
theorem bsr_short (S : Nat) (s : ByteArray) (w : World) (h : Tbl S w) (hs : s.size < 16) :
    Calls Try.prog 83 #[.pointer (some ⟨S, 0, none⟩), .string s] w fun e w' => e = .returned (.string ⟨(escAll s.data.toList).toArray⟩) ∧ Kept (fun _ => False) w w' := by
  obtain ⟨ga, ca, gb, cb, gt, ct, h39, h92, h256, a0, a1, b0, b1, t0, t1, hoth⟩ := h.ex
  have hneq := neq_nil27
  go_enter Try.func83, Try.ntmps83
  go_wp2_with fail
  go_loop [5, 6, 10] (fun ns ch i => ∃ (k c : Nat), k ≤ s.size ∧ c ≤ k ∧ i = .int .i64 k ∧ ns = .int .i64 (s.size + c : Nat) ∧ ch = .bool (decide (0 < c)) ∧ Hid (c = cnt (s.data.toList.take k))) (fun _ _ i => s.size - (intOf i).toNat)
  case atStart => exact ⟨0, 0, Nat.zero_le _, Nat.le_refl _, rfl, by simp, by simp, rfl⟩
  case round =>
    obtain ⟨k, c, hk, hck, rfl, rfl, rfl, HC⟩ := hrel
    by_cases hlt : k < s.size
    · have hsn : Hid (cnt (s.data.toList.take (k + 1)) = c + (if special s[k] then 1 else 0)) := by show _ = _; rw [HC.out]; exact cnt_snoc s k hlt
      have h256b : s[k].toNat < 256 := s[k].toNat_lt
      by_cases c1 : s[k] = 39
      · have hc : w.cell? ⟨S, s[k].toNat, none⟩ = some (.slice (some ⟨ga, 0, none⟩) 2 ca) := by rw [c1]; exact h39
        have hsp : Hid (special s[k] = true) := by show _ = _; rw [c1]; rfl
        clear c1
        go_wp2
        go_round
        case rel => exact ⟨k + 1, c + 1, by omega, by omega, by go_num, by go_num, by simp, by show _ = _; rw [hsn.out, hsp.out]; rfl⟩
        case measure => simp [intOf]; omega
      · by_cases c2 : s[k] = 92
        · have hc : w.cell? ⟨S, s[k].toNat, none⟩ = some (.slice (some ⟨gb, 0, none⟩) 2 cb) := by rw [c2]; exact h92
          have hsp : Hid (special s[k] = true) := by show _ = _; rw [c2]; rfl
          clear c1 c2
          go_wp2
          go_round
          case rel => exact ⟨k + 1, c + 1, by omega, by omega, by go_num, by go_num, by simp, by show _ = _; rw [hsn.out, hsp.out]; rfl⟩
          case measure => simp [intOf]; omega
        · have hc : w.cell? ⟨S, s[k].toNat, none⟩ = some (.slice none 0 0) := hoth _ h256b (toNat_ne c1) (toNat_ne c2)
          have hsp : Hid (special s[k] = false) := not_special c1 c2
          clear c1 c2
          go_wp2
          go_round
          case rel => exact ⟨k + 1, c, by omega, by omega, by go_num, rfl, rfl, by show _ = _; rw [hsn.out, hsp.out]; rfl⟩
          case measure => simp [intOf]; omega
    · have HC2 : Hid (c = cnt s.data.toList) := by show _ = _; rw [HC.out, List.take_of_length_le (by simp; omega)]
      clear HC hoth t0 t1 b0 b1 h39 h92 h256 a0 a1
      have HC := HC2
      clear HC2
      have hT := h
      have kW := Kept.refl (fun _ => False) w
      obtain ⟨W, rfl⟩ : ∃ W, W = w := ⟨_, rfl⟩
      by_cases hc0 : c = 0
      · subst hc0
        go_wp2
        go_ret
        exact ⟨congrArg (fun x => Ending.returned (Value.string x)) (str_self s HC.out.symm), kW⟩
      · have hcp : 0 < c := by omega
        have hN : Hid (s.size + c = (escAll s.data.toList).length) := by show _ = _; rw [escAll_len, HC.out]; rfl
        obtain ⟨wM, cur0, hmk, hB0, hs0, kM⟩ := make_row W s.size c (by omega)
        have HS0 : Hid (cur0.size = s.size + c) := hs0
        clear hs0
        go_wp2_with fail
        go_loopw [13, 14] (fun tj ti wr => ∃ (i j : Nat) (cur : Array Value), i ≤ s.size ∧ ti = .int .i64 i ∧ tj = .int .i64 j ∧ j ≤ s.size + c ∧ Hid (j = (escAll (s.data.toList.take i)).length) ∧ wr.heap[W.heap.size]? = some (.cells cur 5 (0, 0)) ∧ Hid (cur.size = s.size + c) ∧ Hid (cur.toList.take j = bc (escAll (s.data.toList.take i))) ∧ Kept (fun _ => False) W wr) (fun _ ti _ => s.size - (intOf ti).toNat)
        case atStart => exact ⟨0, 0, cur0, Nat.zero_le _, rfl, rfl, by omega, rfl, hB0, HS0, rfl, kM⟩
        case round =>
          obtain ⟨i, j, cur, hi2, rfl, rfl, hjN, HJ, hB, HSz, HTk, kr⟩ := hrel
          by_cases hlt : i < s.size
          · have hsn := esc_snoc s i hlt
            have HSN : Hid (escAll (s.data.toList.take (i + 1)) = escAll (s.data.toList.take i) ++ esc s[i]) := hsn
            have hle : j + (esc s[i]).length ≤ s.size + c := by rw [hN.out, HJ.out]; exact esc_le s i hlt
            have HLE : Hid (j + (esc s[i]).length ≤ s.size + c) := hle
            clear hsn hle
            obtain ⟨ga, ca, gb, cb, gt, ct, h39, h92, h256, a0, a1, b0, b1, t0, t1, hoth⟩ := (hT.kept kr).ex
            have h256b : s[i].toNat < 256 := s[i].toNat_lt
            have hBl := lt_of_heap hB
            by_cases c1 : s[i] = 39
            · have HE := hidd (esc39 c1)
              have hc : wr.cell? ⟨S, s[i].toNat, none⟩ = some (.slice (some ⟨ga, 0, none⟩) 2 ca) := by rw [c1]; exact h39
              have hj2 : j + 2 ≤ s.size + c := by have := HLE.out; rw [unhid HE] at this; simpa using this
              obtain ⟨w3, cur', hcp3, hB3, hs3, htk3, k3⟩ := copy_two wr.drew W.heap.size j (s.size + c) ga ca 92 39 cur hB HSz.out hj2 a0 a1
              have HS3 := hidd hs3
              have HT3 := hidd htk3
              clear c1 hs3 htk3 hoth t0 t1 b0 b1 h39 h92 h256 a0 a1
              go_wp2
              go_region
              go_wp2
              go_roundw
              case rel => exact ⟨i + 1, j + 2, cur', by omega, by go_num, by go_num, by omega, by show _ = _; rw [HSN.out, unhid HE, List.length_append, ← HJ.out]; rfl, hB3, unhid HS3, by show _ = _; rw [unhid HT3, HTk.out, HSN.out, unhid HE, bc_append], kr.trans (T := fun k => k = W.heap.size) ⟨k3.os, k3.tape, k3.output, k3.size, k3.block⟩ (fun x hx hs => by omega)⟩
              case measure => simp [intOf]; omega
            · by_cases c2 : s[i] = 92
              · have HE := hidd (esc92 c2)
                have hc : wr.cell? ⟨S, s[i].toNat, none⟩ = some (.slice (some ⟨gb, 0, none⟩) 2 cb) := by rw [c2]; exact h92
                have hj2 : j + 2 ≤ s.size + c := by have := HLE.out; rw [unhid HE] at this; simpa using this
                obtain ⟨w3, cur', hcp3, hB3, hs3, htk3, k3⟩ := copy_two wr.drew W.heap.size j (s.size + c) gb cb 92 92 cur hB HSz.out hj2 b0 b1
                have HS3 := hidd hs3
                have HT3 := hidd htk3
                clear c1 c2 hs3 htk3 hoth t0 t1 b0 b1 h39 h92 h256 a0 a1
                go_wp2
                go_region
                go_wp2
                go_roundw
                case rel => exact ⟨i + 1, j + 2, cur', by omega, by go_num, by go_num, by omega, by show _ = _; rw [HSN.out, unhid HE, List.length_append, ← HJ.out]; rfl, hB3, unhid HS3, by show _ = _; rw [unhid HT3, HTk.out, HSN.out, unhid HE, bc_append], kr.trans (T := fun k => k = W.heap.size) ⟨k3.os, k3.tape, k3.output, k3.size, k3.block⟩ (fun x hx hs => by omega)⟩
                case measure => simp [intOf]; omega
              · have HE := hidd (esc_plain (not_special c1 c2))
                have hc : wr.cell? ⟨S, s[i].toNat, none⟩ = some (.slice none 0 0) := hoth _ h256b (toNat_ne c1) (toNat_ne c2)
                have hj1 : j + 1 ≤ s.size + c := by have := HLE.out; rw [unhid HE] at this; simpa using this
                have hjs : j < cur.size := by rw [HSz.out]; omega
                have hcj : ∃ x, wr.cell? ⟨W.heap.size, j, none⟩ = some x := ⟨_, by rw [cell_of_heap hB, Array.getElem?_eq_getElem hjs]⟩
                obtain ⟨x, hcj⟩ := hcj
                have hfj : wr.frozen? ⟨W.heap.size, j, none⟩ = false := frozen_of_heap hB _
                obtain ⟨q1, q2, q3⟩ := put_one (v := .int .u8 s[i].toNat) hB hjs
                have HQ2 := hidd q2
                have HQ3 := hidd q3
                have k3 := Kept.setCell wr ⟨W.heap.size, j, none⟩ (.int .u8 s[i].toNat)
                clear c1 c2 q2 q3 hoth t0 t1 b0 b1 h39 h92 h256 a0 a1 hjs
                go_wp2
                go_roundw
                case rel => exact ⟨i + 1, j + 1, _, by omega, by go_num, by go_num, by omega, by show _ = _; rw [HSN.out, unhid HE, List.length_append, ← HJ.out]; rfl, q1, by show _ = _; rw [unhid HQ2]; exact HSz.out, by show _ = _; rw [unhid HQ3, HTk.out, HSN.out, unhid HE, bc_append]; rfl, kr.trans k3 (fun x hx hs => by simp at hs; omega)⟩
                case measure => simp [intOf]; omega
          · have hii : s.size = i := by omega
            have htall : s.data.toList.take i = s.data.toList := List.take_of_length_le (by simp; omega)
            have hjj : j = s.size + c := by rw [hN.out, HJ.out, htall]
            have hcv := conv_row wr W.heap.size (s.size + c) (escAll s.data.toList) cur hB hN.out (by rw [← hjj, HTk.out, htall])
            clear htall hjj hii
            go_wp2
            go_ret
            exact ⟨rfl, kW.trans kr (fun _ _ h => h)⟩

set_option maxHeartbeats 4000000 in
set_option maxRecDepth 100000 in
theorem bsr_long (S : Nat) (s : ByteArray) (w : World) (h : Tbl S w) (hs : 16 ≤ s.size) (hs2 : s.size ≤ 600000) :
    Calls Try.prog 83 #[.pointer (some ⟨S, 0, none⟩), .string s] w fun e w' => e = .returned (.string ⟨(escAll s.data.toList).toArray⟩) ∧ Kept (fun _ => False) w w' := by
  obtain ⟨ga, ca, gb, cb, gt, ct, h39, h92, h256, a0, a1, b0, b1, t0, t1, hoth⟩ := h.ex
  have hneq := neq_nil27
  have z39 : s39.size = 1 := rfl
  have z92 : s92.size = 1 := rfl
  have y92 : ∀ h : 0 < s92.size, s92[0]'h = 92 := fun _ => rfl
  have y39 : ∀ h : 0 < s39.size, s39[0]'h = 39 := fun _ => rfl
  have hd16 : decide ((16 : Int) ≤ (s.size : Int)) = true := by simp; omega
  obtain ⟨n39, H39⟩ : ∃ n, Hid (n = s.data.toList.count 39) := ⟨_, rfl⟩
  obtain ⟨n92, H92⟩ : ∃ n, Hid (n = s.data.toList.count 92) := ⟨_, rfl⟩
  have hcn : n39 + n92 ≤ s.size := by rw [H39.out, H92.out, ← cnt_split]; exact cnt_le _
  go_enter Try.func83, Try.ntmps83
  go_wp2_with fail
  go_loopw [5, 6, 32] (fun ns ch i wr => (i = .int .i64 0 ∧ ns = .int .i64 s.size ∧ ch = .bool false ∧ Kept (fun _ => False) w wr) ∨ (i = .int .i64 1 ∧ ns = .int .i64 ((s.size : Int) + n39) ∧ ch = .bool (decide (0 < n39)) ∧ Kept (fun _ => False) w wr) ∨ (i = .int .i64 2 ∧ ns = .int .i64 ((s.size : Int) + (n39 + n92 : Nat)) ∧ ch = .bool (decide (0 < n39 + n92)) ∧ Kept (fun _ => False) w wr)) (fun _ _ i _ => 2 - (intOf i).toNat)
  case atStart => exact Or.inl ⟨rfl, rfl, rfl, Kept.refl _ _⟩
  case round =>
    rcases hrel with ⟨rfl, rfl, rfl, kr⟩ | ⟨rfl, rfl, rfl, kr⟩ | ⟨rfl, rfl, rfl, kr⟩
    · have q0 := cell_kept kr t0
      have q1 := cell_kept kr h39
      clear hoth a0 a1 b0 b1 h39 h92 h256 t0 t1
      have hcnt : ∀ wx, Calls Try.prog 85 #[.string s, .string s39] wx fun e w' => e = .returned (.int .i64 n39) ∧ w' = wx := by intro wx; have := count_one s 39 wx s39 rfl; rwa [← H39.out] at this
      by_cases hz : n39 = 0
      · have hz' : ((n39 : Int) == 0) = true := by simp [hz]
        subst hz
        go_wp2_with fail
        refine (hcnt _).mono ?_
        rintro e wx ⟨rfl, rfl⟩
        go_wp2
        go_roundw
        case rel => first | exact Or.inr (Or.inl ⟨rfl, by simp, by simp, kr⟩) | ((repeat apply Exists.intro); refine And.intro ?_ rfl; exact Or.inr (Or.inl ⟨rfl, by simp, by simp, kr⟩))
        case measure => simp [intOf]
      · have hz' : ((n39 : Int) == 0) = false := by simp; omega
        have hz2 : ((n39 : Int) != 0) = true := by simp; omega
        go_wp2_with fail
        refine (hcnt _).mono ?_
        rintro e wx ⟨rfl, rfl⟩
        go_wp2_with fail
        go_region
        go_wp2
        go_roundw
        case rel => first | exact Or.inr (Or.inl ⟨rfl, by go_num, by simp; omega, kr.drewR⟩) | ((repeat apply Exists.intro); refine And.intro ?_ rfl; exact Or.inr (Or.inl ⟨rfl, by go_num, by simp; omega, kr.drewR⟩))
        case measure => simp [intOf]
    · have q0 := cell_kept kr t1
      have q1 := cell_kept kr h92
      clear hoth a0 a1 b0 b1 h39 h92 h256 t0 t1
      have hcnt : ∀ wx, Calls Try.prog 85 #[.string s, .string s92] wx fun e w' => e = .returned (.int .i64 n92) ∧ w' = wx := by intro wx; have := count_one s 92 wx s92 rfl; rwa [← H92.out] at this
      by_cases hz : n92 = 0
      · have hz' : ((n92 : Int) == 0) = true := by simp [hz]
        subst hz
        go_wp2_with fail
        refine (hcnt _).mono ?_
        rintro e wx ⟨rfl, rfl⟩
        go_wp2
        go_roundw
        case rel => first | exact Or.inr (Or.inr ⟨rfl, by simp, by simp, kr⟩) | ((repeat apply Exists.intro); refine And.intro ?_ rfl; exact Or.inr (Or.inr ⟨rfl, by simp, by simp, kr⟩))
        case measure => simp [intOf]
      · have hz' : ((n92 : Int) == 0) = false := by simp; omega
        have hz2 : ((n92 : Int) != 0) = true := by simp; omega
        go_wp2_with fail
        refine (hcnt _).mono ?_
        rintro e wx ⟨rfl, rfl⟩
        go_wp2_with fail
        go_region
        go_wp2
        go_roundw
        case rel => first | exact Or.inr (Or.inr ⟨rfl, by go_num, by simp; omega, kr.drewR⟩) | ((repeat apply Exists.intro); refine And.intro ?_ rfl; exact Or.inr (Or.inr ⟨rfl, by go_num, by simp; omega, kr.drewR⟩))
        case measure => simp [intOf]
    · have hcE : Hid (n39 + n92 = cnt s.data.toList) := by show _ = _; rw [H39.out, H92.out, cnt_split]
      clear hoth a0 a1 b0 b1 h39 h92 h256 t0 t1 H39 H92
      obtain ⟨c, hc⟩ : ∃ c, c = n39 + n92 := ⟨_, rfl⟩
      rw [← hc] at hcE hcn ⊢
      clear hc
      have HC := hcE
      clear hcE
      have hT := h.kept kr
      have kW := kr
      clear kr
      obtain ⟨W, rfl⟩ : ∃ W, W = wr := ⟨_, rfl⟩
      by_cases hc0 : c = 0
      · subst hc0
        go_wp2
        go_ret
        exact ⟨congrArg (fun x => Ending.returned (Value.string x)) (str_self s HC.out.symm), kW⟩
      · have hcp : 0 < c := by omega
        have hN : Hid (s.size + c = (escAll s.data.toList).length) := by show _ = _; rw [escAll_len, HC.out]; rfl
        obtain ⟨wM, cur0, hmk, hB0, hs0, kM⟩ := make_row W s.size c (by omega)
        have HS0 : Hid (cur0.size = s.size + c) := hs0
        clear hs0
        go_wp2_with fail
        go_loopw [13, 14] (fun tj ti wr => ∃ (i j : Nat) (cur : Array Value), i ≤ s.size ∧ ti = .int .i64 i ∧ tj = .int .i64 j ∧ j ≤ s.size + c ∧ Hid (j = (escAll (s.data.toList.take i)).length) ∧ wr.heap[W.heap.size]? = some (.cells cur 5 (0, 0)) ∧ Hid (cur.size = s.size + c) ∧ Hid (cur.toList.take j = bc (escAll (s.data.toList.take i))) ∧ Kept (fun _ => False) W wr) (fun _ ti _ => s.size - (intOf ti).toNat)
        case atStart => exact ⟨0, 0, cur0, Nat.zero_le _, rfl, rfl, by omega, rfl, hB0, HS0, rfl, kM⟩
        case round =>
          obtain ⟨i, j, cur, hi2, rfl, rfl, hjN, HJ, hB, HSz, HTk, kr⟩ := hrel
          by_cases hlt : i < s.size
          · have hsn := esc_snoc s i hlt
            have HSN : Hid (escAll (s.data.toList.take (i + 1)) = escAll (s.data.toList.take i) ++ esc s[i]) := hsn
            have hle : j + (esc s[i]).length ≤ s.size + c := by rw [hN.out, HJ.out]; exact esc_le s i hlt
            have HLE : Hid (j + (esc s[i]).length ≤ s.size + c) := hle
            clear hsn hle
            obtain ⟨ga, ca, gb, cb, gt, ct, h39, h92, h256, a0, a1, b0, b1, t0, t1, hoth⟩ := (hT.kept kr).ex
            have h256b : s[i].toNat < 256 := s[i].toNat_lt
            have hBl := lt_of_heap hB
            by_cases c1 : s[i] = 39
            · have HE := hidd (esc39 c1)
              have hc : wr.cell? ⟨S, s[i].toNat, none⟩ = some (.slice (some ⟨ga, 0, none⟩) 2 ca) := by rw [c1]; exact h39
              have hj2 : j + 2 ≤ s.size + c := by have := HLE.out; rw [unhid HE] at this; simpa using this
              obtain ⟨w3, cur', hcp3, hB3, hs3, htk3, k3⟩ := copy_two wr.drew W.heap.size j (s.size + c) ga ca 92 39 cur hB HSz.out hj2 a0 a1
              have HS3 := hidd hs3
              have HT3 := hidd htk3
              clear c1 hs3 htk3 hoth t0 t1 b0 b1 h39 h92 h256 a0 a1
              go_wp2
              go_region
              go_wp2
              go_roundw
              case rel => exact ⟨i + 1, j + 2, cur', by omega, by go_num, by go_num, by omega, by show _ = _; rw [HSN.out, unhid HE, List.length_append, ← HJ.out]; rfl, hB3, unhid HS3, by show _ = _; rw [unhid HT3, HTk.out, HSN.out, unhid HE, bc_append], kr.trans (T := fun k => k = W.heap.size) ⟨k3.os, k3.tape, k3.output, k3.size, k3.block⟩ (fun x hx hs => by omega)⟩
              case measure => simp [intOf]; omega
            · by_cases c2 : s[i] = 92
              · have HE := hidd (esc92 c2)
                have hc : wr.cell? ⟨S, s[i].toNat, none⟩ = some (.slice (some ⟨gb, 0, none⟩) 2 cb) := by rw [c2]; exact h92
                have hj2 : j + 2 ≤ s.size + c := by have := HLE.out; rw [unhid HE] at this; simpa using this
                obtain ⟨w3, cur', hcp3, hB3, hs3, htk3, k3⟩ := copy_two wr.drew W.heap.size j (s.size + c) gb cb 92 92 cur hB HSz.out hj2 b0 b1
                have HS3 := hidd hs3
                have HT3 := hidd htk3
                clear c1 c2 hs3 htk3 hoth t0 t1 b0 b1 h39 h92 h256 a0 a1
                go_wp2
                go_region
                go_wp2
                go_roundw
                case rel => exact ⟨i + 1, j + 2, cur', by omega, by go_num, by go_num, by omega, by show _ = _; rw [HSN.out, unhid HE, List.length_append, ← HJ.out]; rfl, hB3, unhid HS3, by show _ = _; rw [unhid HT3, HTk.out, HSN.out, unhid HE, bc_append], kr.trans (T := fun k => k = W.heap.size) ⟨k3.os, k3.tape, k3.output, k3.size, k3.block⟩ (fun x hx hs => by omega)⟩
                case measure => simp [intOf]; omega
              · have HE := hidd (esc_plain (not_special c1 c2))
                have hc : wr.cell? ⟨S, s[i].toNat, none⟩ = some (.slice none 0 0) := hoth _ h256b (toNat_ne c1) (toNat_ne c2)
                have hj1 : j + 1 ≤ s.size + c := by have := HLE.out; rw [unhid HE] at this; simpa using this
                have hjs : j < cur.size := by rw [HSz.out]; omega
                have hcj : ∃ x, wr.cell? ⟨W.heap.size, j, none⟩ = some x := ⟨_, by rw [cell_of_heap hB, Array.getElem?_eq_getElem hjs]⟩
                obtain ⟨x, hcj⟩ := hcj
                have hfj : wr.frozen? ⟨W.heap.size, j, none⟩ = false := frozen_of_heap hB _
                obtain ⟨q1, q2, q3⟩ := put_one (v := .int .u8 s[i].toNat) hB hjs
                have HQ2 := hidd q2
                have HQ3 := hidd q3
                have k3 := Kept.setCell wr ⟨W.heap.size, j, none⟩ (.int .u8 s[i].toNat)
                clear c1 c2 q2 q3 hoth t0 t1 b0 b1 h39 h92 h256 a0 a1 hjs
                go_wp2
                go_roundw
                case rel => exact ⟨i + 1, j + 1, _, by omega, by go_num, by go_num, by omega, by show _ = _; rw [HSN.out, unhid HE, List.length_append, ← HJ.out]; rfl, q1, by show _ = _; rw [unhid HQ2]; exact HSz.out, by show _ = _; rw [unhid HQ3, HTk.out, HSN.out, unhid HE, bc_append]; rfl, kr.trans k3 (fun x hx hs => by simp at hs; omega)⟩
                case measure => simp [intOf]; omega
          · have hii : s.size = i := by omega
            have htall : s.data.toList.take i = s.data.toList := List.take_of_length_le (by simp; omega)
            have hjj : j = s.size + c := by rw [hN.out, HJ.out, htall]
            have hcv := conv_row wr W.heap.size (s.size + c) (escAll s.data.toList) cur hB hN.out (by rw [← hjj, HTk.out, htall])
            clear htall hjj hii
            go_wp2
            go_ret
            exact ⟨rfl, kW.trans kr (fun _ _ h => h)⟩

theorem bsr_any (S : Nat) (s : ByteArray) (w : World) (h : Tbl S w) (hs2 : s.size ≤ 600000) :
    Calls Try.prog 83 #[.pointer (some ⟨S, 0, none⟩), .string s] w fun e w' => e = .returned (.string ⟨(escAll s.data.toList).toArray⟩) ∧ Kept (fun _ => False) w w' := by
  by_cases hs : s.size < 16
  · exact bsr_short S s w h hs
  · exact bsr_long S s w h (by omega) hs2

end Go.Proofs.Qxb6615994a
