/-
  strings.Builder at this dump (functions 50, 48, 49, 23), with the exact frame: only the builder's block, its own row and new blocks turn.
-/
import Derived.Test.Qxb6614816aRaw
import Derived.Lib.AppendStr
import Derived.Maps.AppendAt
import Derived.Laws.Externs
namespace Go.Proofs.Qxb6614816a
open Go.RowKit

theorem info5 : (Try.prog.info? 5).map (fun i => (i.zero, i.size, i.bytes)) = some (some (.int .u8 0), 1, 1) := by kernel_rfl

/-- w' is w but for the blocks in S and new blocks. -/
structure Kept (S : Nat → Prop) (w w' : World) : Prop where
  os : w'.os = w.os
  tape : w'.tape = w.tape
  output : w'.output = w.output
  size : w.heap.size ≤ w'.heap.size
  block : ∀ k, k < w.heap.size → ¬ S k → w'.heap[k]? = w.heap[k]?

theorem Kept.refl (S : Nat → Prop) (w : World) : Kept S w w := ⟨rfl, rfl, rfl, Nat.le_refl _, fun _ _ _ => rfl⟩

theorem Kept.trans {S T : Nat → Prop} {a b c : World} (h : Kept S a b) (k : Kept T b c) (hT : ∀ i, i < a.heap.size → T i → S i) : Kept S a c :=
  ⟨k.os.trans h.os, k.tape.trans h.tape, k.output.trans h.output, Nat.le_trans h.size k.size,
   fun i hi hs => (k.block i (Nat.lt_of_lt_of_le hi h.size) (fun t => hs (hT i hi t))).trans (h.block i hi hs)⟩

theorem Kept.mono {S T : Nat → Prop} {a b : World} (h : Kept S a b) (hT : ∀ i, i < a.heap.size → S i → T i) : Kept T a b :=
  ⟨h.os, h.tape, h.output, h.size, fun i hi ht => h.block i hi (fun s => ht (hT i hi s))⟩

theorem Kept.grown {a b : World} {row : Option Nat} (h : a.grownBy b row) : Kept (fun k => row = some k) a b :=
  ⟨h.os, h.tape, h.output, h.size, fun i hi ht => h.block i hi (fun e => ht e.symm)⟩

theorem Kept.setCell (w : World) (p : Addr) (u : Value) : Kept (fun k => k = p.block) w (w.setCell p u) :=
  ⟨rfl, rfl, rfl, by simp [World.setCell], fun k _ hk => Below.heap_setCell _ _ _ _ hk⟩

theorem Kept.alloc (w : World) (o : Obj) (S : Nat → Prop) : Kept S w (w.alloc o) :=
  ⟨rfl, rfl, rfl, by simp, fun k hk _ => Below.heap_alloc _ _ _ hk⟩

theorem Kept.drew (w : World) (S : Nat → Prop) : Kept S w w.drew := ⟨rfl, rfl, rfl, Nat.le_refl _, fun _ _ _ => rfl⟩

theorem Kept.below {S : Nat → Prop} {B : Nat} {w w' : World} (h : Kept S w w') (hB : B ≤ w.heap.size) (hS : ∀ k, k < B → ¬ S k) : Below B w w' :=
  ⟨h.os, h.tape, h.output, h.size, fun k hk => h.block k (by omega) (hS k hk)⟩

set_option maxHeartbeats 1000000 in
set_option maxRecDepth 100000 in
theorem copyCheck_used (b : Nat) (w : World) (h0 : w.cell? ⟨b, 0, none⟩ = some (.pointer (some ⟨b, 0, none⟩))) :
    Calls Try.prog 50 #[.pointer (some ⟨b, 0, none⟩)] w fun e w' => e = .returned (.tuple #[]) ∧ w' = w := by
  obtain ⟨j, hj, _⟩ := Option.map_eq_some_iff.1 ub43
  go_enter Try.func50, Try.ntmps50
  go_wp2
  rw [Lib.run_neq_ptr_same w _ Try.underlying41 hj]
  go_wp2
  go_end0
  exact ⟨rfl, rfl⟩

set_option maxHeartbeats 1000000 in
set_option maxRecDepth 100000 in
theorem copyCheck_fresh (b : Nat) (w : World) (h0 : w.cell? ⟨b, 0, none⟩ = some (.pointer none)) (hsh : w.shape? b = some (43, 2)) (hfz : w.frozen? ⟨b, 0, none⟩ = false) :
    Calls Try.prog 50 #[.pointer (some ⟨b, 0, none⟩)] w fun e w' => e = .returned (.tuple #[]) ∧ w' = w.setCell ⟨b, 0, none⟩ (.pointer (some ⟨b, 0, none⟩)) := by
  go_enter Try.func50, Try.ntmps50
  go_wp2
  rw [to_raw w b hsh]
  simp only [Result.andThen]
  rw [Oper.upon_value]
  go_wp2
  rw [run_callFunc_extern Try.func51 (by kernel_rfl) (by kernel_rfl) (by kernel_rfl) (e := Extern.AbiNoEscape.same) (by kernel_rfl)]
  rw [Lib.run_noEscape]
  simp only [Result.andThen]
  rw [Oper.upon_value]
  go_wp2
  rw [from_raw w b hsh]
  simp only [Result.andThen]
  rw [Oper.upon_value]
  go_wp2
  go_end0
  exact ⟨rfl, rfl⟩


/-- A builder at block b whose buffer is the value v, holding the bytes bs (as cells). -/
def Bld (b : Nat) (v : Value) (bs : List Value) (w : World) : Prop :=
  ∃ p, (p = .pointer none ∨ p = .pointer (some ⟨b, 0, none⟩)) ∧ w.heap[b]? = some (.cells #[p, v] 43 (0, 0)) ∧ w.ownsRow 0 5 1 v bs.length bs

/-- The buffer lies where it lay, or in a new block. -/
def Moved (w : World) (v v' : Value) : Prop := v'.ownBlock = v.ownBlock ∨ ∃ k, v'.ownBlock = some k ∧ w.heap.size ≤ k

theorem Moved.refl (w : World) (v : Value) : Moved w v v := Or.inl rfl
theorem Moved.trans {w w1 : World} {v v1 v2 : Value} (h : Moved w v v1) (k : Moved w1 v1 v2) (hs : w.heap.size ≤ w1.heap.size) : Moved w v v2 := by
  rcases k with k | ⟨g, k, hg⟩
  · rcases h with h | ⟨g', h, hg'⟩
    · exact Or.inl (k.trans h)
    · exact Or.inr ⟨g', k.trans h, hg'⟩
  · exact Or.inr ⟨g, k, Nat.le_trans hs hg⟩

theorem lt_of_heap {w : World} {b : Nat} {o : Obj} (h : w.heap[b]? = some o) : b < w.heap.size := (Array.getElem?_eq_some_iff.1 h).1

theorem Bld.lt {b : Nat} {v : Value} {bs : List Value} {w : World} (h : Bld b v bs w) : b < w.heap.size := by
  obtain ⟨p, _, hb, _⟩ := h; exact lt_of_heap hb

theorem Bld.ne {b : Nat} {v : Value} {bs : List Value} {w : World} (h : Bld b v bs w) : v.ownBlock ≠ some b := by
  obtain ⟨p, _, hb, ho⟩ := h; exact Lib.ownBlock_ne ho hb (by decide)

theorem Bld.own_lt {b : Nat} {v : Value} {bs : List Value} {w : World} (h : Bld b v bs w) : ∀ k, v.ownBlock = some k → k < w.heap.size := by
  obtain ⟨p, _, hb, ho⟩ := h; exact fun k hk => (ho.lt k hk).2

theorem own_kept {w w' : World} {v : Value} {n : Nat} {xs : List Value} {S : Nat → Prop} (h : w.ownsRow 0 5 1 v n xs) (k : Kept S w w') (hS : ∀ g, v.ownBlock = some g → ¬ S g) : w'.ownsRow 0 5 1 v n xs := by
  refine ⟨h.1, ?_⟩
  rcases h.2 with h2 | ⟨g, cap, cur, hv, hg, hh, r⟩
  · exact Or.inl h2
  · exact Or.inr ⟨g, cap, cur, hv, hg, by rw [k.block g (lt_of_heap hh) (hS g (by rw [hv]; rfl))]; exact hh, r⟩

theorem Bld.kept {b : Nat} {v : Value} {bs : List Value} {w w' : World} {S : Nat → Prop} (h : Bld b v bs w) (k : Kept S w w') (hb : ¬ S b) (hS : ∀ g, v.ownBlock = some g → ¬ S g) : Bld b v bs w' := by
  have hlt := h.lt
  obtain ⟨p, hp, hh, ho⟩ := h
  exact ⟨p, hp, by rw [k.block b hlt hb]; exact hh, own_kept ho k hS⟩

theorem copyCheck_any (b : Nat) (v : Value) (bs : List Value) (w : World) (h : Bld b v bs w) :
    Calls Try.prog 50 #[.pointer (some ⟨b, 0, none⟩)] w fun e w' => e = .returned (.tuple #[]) ∧ w'.heap[b]? = some (.cells #[.pointer (some ⟨b, 0, none⟩), v] 43 (0, 0)) ∧ w'.ownsRow 0 5 1 v bs.length bs ∧ Kept (fun k => k = b) w w' := by
  have hne := h.ne
  obtain ⟨p, rfl | rfl, hh, ho⟩ := h
  · refine (copyCheck_fresh b w (by rw [Lib.cell_of_heap hh]; rfl) (by simp [World.shape?, hh]) (Lib.frozen_of_heap hh 0)).mono ?_
    rintro e w' ⟨rfl, rfl⟩
    have hk := Kept.setCell w ⟨b, 0, none⟩ (.pointer (some ⟨b, 0, none⟩))
    refine ⟨rfl, ?_, own_kept ho hk (fun g hg e => hne (by rw [hg, e])), hk⟩
    simp [World.setCell, Array.getElem?_modify, hh]
  · refine (copyCheck_used b w (by rw [Lib.cell_of_heap hh]; rfl)).mono ?_
    rintro e w' ⟨rfl, rfl⟩
    exact ⟨rfl, hh, ho, Kept.refl _ _⟩

theorem slice_of_own {w : World} {v : Value} {n : Nat} {xs : List Value} (h : w.ownsRow 0 5 1 v n xs) : ∃ ao cap, v = .slice ao n cap := by
  rcases h.2 with ⟨hv, hn⟩ | ⟨g, cap, cur, hv, _⟩
  · subst hn; exact ⟨_, _, hv⟩
  · exact ⟨_, _, hv⟩

set_option maxHeartbeats 1000000 in
set_option maxRecDepth 100000 in
theorem writeByte_any (b : Nat) (v : Value) (bs : List Value) (c : Int) (w : World) (h : Bld b v bs w) (hlen : bs.length + 1 ≤ 140737488355328) :
    Calls Try.prog 48 #[.pointer (some ⟨b, 0, none⟩), .int .u8 c] w fun e w' => e = .returned .nilIface ∧ ∃ v', Bld b v' (bs ++ [.int .u8 c]) w' ∧ Moved w v v' ∧ Kept (fun k => k = b ∨ v.ownBlock = some k) w w' := by
  obtain ⟨i0, hi, hz⟩ := Option.map_eq_some_iff.1 info5
  simp only [Prod.mk.injEq] at hz
  obtain ⟨hz0, hz1, hz2⟩ := hz
  go_enter Try.func48, Try.ntmps48
  go_wp2_with (go_at_call 50; refine (copyCheck_any b v bs _ h).mono ?_)
  rintro e w1 ⟨rfl, hbk, hown, hk1⟩
  have hne := h.ne
  have hlt : b < w1.heap.size := lt_of_heap hbk
  have c0 : w1.cell? ⟨b, 0, none⟩ = some (.pointer (some ⟨b, 0, none⟩)) := by rw [Lib.cell_of_heap hbk]; rfl
  have c1 : w1.cell? ⟨b, 1, none⟩ = some v := by rw [Lib.cell_of_heap hbk]; rfl
  go_wp2_with (at_builtin; refine wpList_append_own_at _ rfl _ _ 28 rfl 0 5 i0 _ 1 1 Try.underlying28 hi hz0 hz1 hz2 rfl (by decide) v bs.length bs rfl ?own ⟨w1.heap.size, 0, none⟩ 1 1 [.int .u8 c] rfl rfl ?news ?one ?c3 ?c4 ?c5 ?_)
  case own => exact hown.alloc _
  case news =>
    intro j u hj
    match j, hj with
    | 0, hj => simp at hj; subst hj; simp [Addr.add]
  case one => intro u hu; simp at hu; subst hu; rfl
  case c3 => unfold maxLen; omega
  case c4 => omega
  case c5 => exact Nat.zero_le _
  intro v' w2 hown' hgrow _ hat
  have hb2 : w2.heap[b]? = some (.cells #[.pointer (some ⟨b, 0, none⟩), v] 43 (0, 0)) := by
    rw [hgrow.block b (by simp; omega) (fun e => hne e.symm), Lib.alloc_old w1 _ b hlt]
    exact hbk
  have d0 : w2.cell? ⟨b, 0, none⟩ = some (.pointer (some ⟨b, 0, none⟩)) := by rw [Lib.cell_of_heap hb2]; rfl
  have d1 : w2.cell? ⟨b, 1, none⟩ = some v := by rw [Lib.cell_of_heap hb2]; rfl
  have f1 : w2.frozen? ⟨b, 1, none⟩ = false := Lib.frozen_of_heap hb2 1
  have HA : Hid (v'.ownBlock = v.ownBlock ∨ v'.ownBlock = some (w1.heap.size + 1)) := hat
  clear hat
  obtain ⟨ao, cap, hv'⟩ := slice_of_own hown'
  subst hv'
  go_wp2
  go_ret
  have hkA : Kept (fun k => k = b ∨ v.ownBlock = some k) w w2 :=
    ((hk1.mono (T := fun k => k = b ∨ v.ownBlock = some k) (fun i _ hi => Or.inl hi)).trans (Kept.alloc w1 _ (fun _ => False)) (fun i _ hi => hi.elim)).trans (Kept.grown hgrow) (fun i _ hi => Or.inr hi)
  have hnb : (Value.slice ao (bs.length + 1) cap).ownBlock ≠ some b := Lib.ownBlock_ne hown' hb2 (by decide)
  refine ⟨rfl, .slice ao (bs.length + 1) cap, ⟨_, Or.inr rfl, ?_, ?_⟩, ?_, ?_⟩
  · simp [World.setCell, Array.getElem?_modify, hb2]
  · have hh := own_kept hown' (Kept.setCell w2 ⟨b, 1, none⟩ (.slice ao (bs.length + 1) cap)) (fun g hg e => hnb (by rw [hg, e]))
    simpa using hh
  · have hs := hk1.size
    rcases HA.out with h1 | h1
    · exact Or.inl h1
    · exact Or.inr ⟨_, h1, by omega⟩
  · exact hkA.trans (Kept.setCell w2 ⟨b, 1, none⟩ _) (fun i _ hi => Or.inl hi)


section
variable {P : Program} (w : World)

/-- 'append(b, s...)' onto an owned slice of bytes, with one limb more: where the new slice lies. -/
theorem run_append_string_at (t u ty e : TypeId) (i : TypeInfo) (ht : P.underlying t = some (.slice e)) (hu : P.underlying u = some .string) (hi : P.info? e = some i) (hz : i.zero = some (.int .u8 0))
    (hsize : i.size = 1) (hby : i.bytes = 1) (v : Value) (n : Nat) (xs : List Value) (hown : w.ownsRow 0 e 1 v n xs) (s : ByteArray)
    (h63 : n + s.size ≤ maxLen) (hbytes : n + s.size ≤ 140737488355328) :
    ∃ v' w', (Builtin.append_ #[t, u] ty #[v, .string s]).run P w = .ok v' w' ∧ w'.ownsRow 0 e 1 v' (n + s.size) (xs ++ Lib.strCells s) ∧ w.grownBy w' v.ownBlock ∧
      (v'.ownBlock = v.ownBlock ∨ v'.ownBlock = some w.heap.size) := by
  obtain ⟨v', w', hr, h1, h2, h3⟩ := Lib.run_append_own_string (P := P) w 0 t u ty e i ht hu hi hz hsize hby v n xs hown s h63 hbytes (Nat.zero_le _)
  refine ⟨v', w', hr, h1, h2, ?_⟩
  have hsmall : n + s.size ≤ 9223372036854775807 := by simp only [maxLen] at h63; omega
  rcases hown.2 with ⟨rfl, rfl⟩ | ⟨g, cap, cur, rfl, hbg, hg, hnc, hcm, hcs, htake⟩
  · by_cases hm : s.size = 0
    · rw [h3.2 ⟨rfl, hm⟩]; exact Or.inl rfl
    · have hr' := run_append_nil_string (P := P) w t u ty e i (.int .u8 0) ht hu hi hz s (by omega) (by omega) (by rw [hby]; omega)
      rw [hr] at hr'
      injection hr' with e1 e2
      rw [e1]; exact Or.inr rfl
  · have hcs' : cur.size = cap := by simpa using hcs
    by_cases hroom : n + s.size ≤ cap
    · have hr' := Lib.run_append_room_string (P := P) w t u ty e i ht hu hi hsize g n cap cur hg s hroom (by omega)
      rw [hr] at hr'
      injection hr' with e1 e2
      rw [e1]; exact Or.inl rfl
    · have holds : ∀ j u, xs[j]? = some u → w.cell? ((⟨g, 0, none⟩ : Addr).add j) = some u := hown.cells (g := g) rfl
      have hr' := Lib.run_append_grow_string (P := P) w t u ty e i (.int .u8 0) ht hu hi hz ⟨g, 0, none⟩ n cap xs (by rw [hsize]; exact hown.1) holds s (by omega) (by omega) (growslice_fits (by omega) (by rw [hby]; omega))
      rw [hr] at hr'
      injection hr' with e1 e2
      rw [e1]; exact Or.inr rfl

theorem wpList_append_string_at {ops : Array Oper} {rest : List Oper} {o : Oper} {a : Act} {Q : Exit → Act → World → Prop} (hgd : o.guard = none) (sl x : Operand) (t u : TypeId)
    (ho : o.op = .call { callee := .builtin .append, args := #[sl, x], argTypes := #[t, u] })
    (e : TypeId) (i : TypeInfo) (ht : P.underlying t = some (.slice e)) (hu : P.underlying u = some .string) (hi : P.info? e = some i) (hz : i.zero = some (.int .u8 0))
    (hsize : i.size = 1) (hby : i.bytes = 1)
    (v : Value) (n : Nat) (xs : List Value) (hs : a.eval sl = v) (hown : w.ownsRow 0 e 1 v n xs) (s : ByteArray) (hx : a.eval x = .string s)
    (h63 : n + s.size ≤ maxLen) (hbytes : n + s.size ≤ 140737488355328)
    (h : ∀ v' w', w'.ownsRow 0 e 1 v' (n + s.size) (xs ++ Lib.strCells s) → w.grownBy w' v.ownBlock → (v'.ownBlock = v.ownBlock ∨ v'.ownBlock = some w.heap.size) → wpList P ops Q rest (a.put o.dst v') w') : wpList P ops Q (o :: rest) a w := by
  refine wpList_plain hgd fun K hK => ?_
  obtain ⟨v', w', hr, h2, h3, h4⟩ := run_append_string_at (P := P) w t u o.type e i ht hu hi hz hsize hby v n xs hown s h63 hbytes
  unfold Oper.wp execOp
  simp only [ho, resolve, invoke, builtin, Sem.run_bind, Sem.run_pure, Result.andThen_ok, List.map_toArray, List.map_cons, List.map_nil, hs, hx, hr]
  exact hK _ _ (h v' w' h2 h3 h4)
end

set_option maxHeartbeats 1000000 in
set_option maxRecDepth 100000 in
theorem writeString_any (b : Nat) (v : Value) (bs : List Value) (s : ByteArray) (w : World) (h : Bld b v bs w) (hlen : bs.length + s.size ≤ 140737488355328) :
    Calls Try.prog 49 #[.pointer (some ⟨b, 0, none⟩), .string s] w fun e w' => e = .returned (.tuple #[.int .i64 s.size, .nilIface]) ∧ ∃ v', Bld b v' (bs ++ Lib.strCells s) w' ∧ Moved w v v' ∧ Kept (fun k => k = b ∨ v.ownBlock = some k) w w' := by
  obtain ⟨i0, hi, hz⟩ := Option.map_eq_some_iff.1 info5
  simp only [Prod.mk.injEq] at hz
  obtain ⟨hz0, hz1, hz2⟩ := hz
  go_enter Try.func49, Try.ntmps49
  go_wp2_with (go_at_call 50; refine (copyCheck_any b v bs _ h).mono ?_)
  rintro e w1 ⟨rfl, hbk, hown, hk1⟩
  have hne := h.ne
  have hlt : b < w1.heap.size := lt_of_heap hbk
  have c0 : w1.cell? ⟨b, 0, none⟩ = some (.pointer (some ⟨b, 0, none⟩)) := by rw [Lib.cell_of_heap hbk]; rfl
  have c1 : w1.cell? ⟨b, 1, none⟩ = some v := by rw [Lib.cell_of_heap hbk]; rfl
  go_wp2_with (at_builtin; refine wpList_append_string_at _ rfl _ _ 28 9 rfl 5 i0 Try.underlying28 Try.underlying9 hi hz0 hz1 hz2 v bs.length bs rfl hown s rfl ?c3 ?c4 ?_)
  case c3 => unfold maxLen; omega
  case c4 => omega
  intro v' w2 hown' hgrow hat
  have hb2 : w2.heap[b]? = some (.cells #[.pointer (some ⟨b, 0, none⟩), v] 43 (0, 0)) := by
    rw [hgrow.block b hlt (fun e => hne e.symm)]
    exact hbk
  have d0 : w2.cell? ⟨b, 0, none⟩ = some (.pointer (some ⟨b, 0, none⟩)) := by rw [Lib.cell_of_heap hb2]; rfl
  have d1 : w2.cell? ⟨b, 1, none⟩ = some v := by rw [Lib.cell_of_heap hb2]; rfl
  have f1 : w2.frozen? ⟨b, 1, none⟩ = false := Lib.frozen_of_heap hb2 1
  have HA : Hid (v'.ownBlock = v.ownBlock ∨ v'.ownBlock = some w1.heap.size) := hat
  clear hat
  obtain ⟨ao, cap, hv'⟩ := slice_of_own hown'
  subst hv'
  go_wp2
  go_ret2
  have hkA : Kept (fun k => k = b ∨ v.ownBlock = some k) w w2 :=
    ((hk1.mono (T := fun k => k = b ∨ v.ownBlock = some k) (fun i _ hi => Or.inl hi))).trans (Kept.grown hgrow) (fun i _ hi => Or.inr hi)
  have hnb : (Value.slice ao (bs.length + s.size) cap).ownBlock ≠ some b := Lib.ownBlock_ne hown' hb2 (by decide)
  refine ⟨rfl, .slice ao (bs.length + s.size) cap, ⟨_, Or.inr rfl, ?_, ?_⟩, ?_, ?_⟩
  · simp [World.setCell, Array.getElem?_modify, hb2]
  · have hh := own_kept hown' (Kept.setCell w2 ⟨b, 1, none⟩ (.slice ao (bs.length + s.size) cap)) (fun g hg e => hnb (by rw [hg, e]))
    simpa [Lib.strCells_length] using hh
  · have hs := hk1.size
    rcases HA.out with h1 | h1
    · exact Or.inl h1
    · exact Or.inr ⟨_, h1, by omega⟩
  · exact hkA.trans (Kept.setCell w2 ⟨b, 1, none⟩ _) (fun i _ hi => Or.inl hi)

theorem kept_freeze (w : World) (p : Addr) (n : Nat) : Kept (fun k => k = p.block) w (w.freeze p n) := by
  unfold World.freeze
  split
  · exact Kept.refl _ w
  · refine ⟨rfl, rfl, rfl, by simp, fun k hk hne => ?_⟩
    simp only [Array.getElem?_modify]
    rw [if_neg (fun e => hne e.symm)]

set_option maxHeartbeats 2000000 in
set_option maxRecDepth 100000 in
theorem string_some (b : Nat) (v : Value) (l : List UInt8) (w : World) (h : Bld b v (Lib.byteCells l) w) (h0 : l ≠ []) :
    Calls Try.prog 23 #[.pointer (some ⟨b, 0, none⟩)] w fun e w' => e = .returned (.string ⟨l.toArray⟩) ∧ Kept (fun k => v.ownBlock = some k) w w' := by
  obtain ⟨p, _, hbk, hown⟩ := h
  have hl0 : l.length ≠ 0 := by simpa using h0
  rw [Lib.byteCells_length] at hown
  obtain ⟨g, cap, cur, rfl, hbg, hg, hnc, hcm, hcs, htake⟩ : ∃ g cap cur, v = .slice (some ⟨g, 0, none⟩) l.length cap ∧ 0 ≤ g ∧ w.heap[g]? = some (.cells cur 5 (0, 0)) ∧ l.length ≤ cap ∧ cap ≤ maxLen ∧ cur.size = cap * 1 ∧ cur.toList.take (l.length * 1) = Lib.byteCells l := by
    rcases hown.2 with ⟨_, hz⟩ | ⟨g, cap, cur, hv, r⟩
    · exact absurd hz hl0
    · exact ⟨g, cap, cur, hv, r⟩
  have c1 : w.drew.cell? ⟨b, 1, none⟩ = some (.slice (some ⟨g, 0, none⟩) l.length cap) := by
    have : w.drew.heap[b]? = some (.cells #[p, .slice (some ⟨g, 0, none⟩) l.length cap] 43 (0, 0)) := hbk
    rw [Lib.cell_of_heap this]; rfl
  have hSD := value_of (sd_row (w := w.drew) ⟨g, 0, none⟩ l.length cap (by omega))
  have hUS := value_of (us_row w.drew g cur.size (by have hg' : w.drew.heap[g]? = some (.cells cur 5 (0, 0)) := hg; simp [World.shape?, hg']) l h0 (by omega) (by unfold maxLen at hcm; omega)
    (fun j x hx => hown.cells (g := g) rfl j (.int .u8 x.toNat) (by simp [Lib.byteCells, hx])))
  go_enter Try.func23, Try.ntmps23
  go_wp2
  go_region
  all_goals (go_wp2; go_ret; exact ⟨rfl, ((Kept.drew w _).trans (kept_freeze w.drew ⟨g, 0, none⟩ l.length) (fun i _ hi => by simp [Value.ownBlock, hi]))⟩)


set_option maxHeartbeats 2000000 in
set_option maxRecDepth 100000 in
theorem string_nil (b : Nat) (p : Value) (w : World) (hbk : w.heap[b]? = some (.cells #[p, .slice none 0 0] 43 (0, 0))) (S : Nat → Prop) :
    Calls Try.prog 23 #[.pointer (some ⟨b, 0, none⟩)] w fun e w' => e = .returned (.string ⟨#[]⟩) ∧ Kept S w w' := by
  have hUS := fun (W : World) (q : Option Addr) => value_of (us_none W q)
  have c1 : w.drew.cell? ⟨b, 1, none⟩ = some (.slice none 0 0) := by
    have : w.drew.heap[b]? = some (.cells #[p, .slice none 0 0] 43 (0, 0)) := hbk
    rw [Lib.cell_of_heap this]; rfl
  have hSD := value_of (sd_nil (w := w.drew))
  go_enter Try.func23, Try.ntmps23
  go_wp2
  go_region
  all_goals (go_wp2; go_ret; exact ⟨rfl, Kept.drew w _⟩)

set_option maxHeartbeats 2000000 in
set_option maxRecDepth 100000 in
theorem string_room (b g cap : Nat) (p : Value) (w : World) (hc0 : cap ≠ 0) (hbk : w.heap[b]? = some (.cells #[p, .slice (some ⟨g, 0, none⟩) 0 cap] 43 (0, 0))) (S : Nat → Prop) :
    Calls Try.prog 23 #[.pointer (some ⟨b, 0, none⟩)] w fun e w' => e = .returned (.string ⟨#[]⟩) ∧ Kept S w w' := by
  have hUS := fun (W : World) (q : Option Addr) => value_of (us_none W q)
  have c1 : w.drew.cell? ⟨b, 1, none⟩ = some (.slice (some ⟨g, 0, none⟩) 0 cap) := by
    have : w.drew.heap[b]? = some (.cells #[p, .slice (some ⟨g, 0, none⟩) 0 cap] 43 (0, 0)) := hbk
    rw [Lib.cell_of_heap this]; rfl
  have hSD := value_of (sd_row (w := w.drew) ⟨g, 0, none⟩ 0 cap hc0)
  clear hc0
  go_enter Try.func23, Try.ntmps23
  go_wp2
  go_region
  all_goals (go_wp2; go_ret; exact ⟨rfl, Kept.drew w _⟩)

set_option maxHeartbeats 2000000 in
set_option maxRecDepth 100000 in
theorem string_noroom (b g : Nat) (p : Value) (cur : Array Value) (w : World) (hbk : w.heap[b]? = some (.cells #[p, .slice (some ⟨g, 0, none⟩) 0 0] 43 (0, 0))) (hg : w.heap[g]? = some (.cells cur 5 (0, 0))) (S : Nat → Prop) :
    Calls Try.prog 23 #[.pointer (some ⟨b, 0, none⟩)] w fun e w' => e = .returned (.string ⟨#[]⟩) ∧ Kept S w w' := by
  have hUS := fun (W : World) (q : Option Addr) => value_of (us_none W q)
  have hlt : b < w.heap.size := lt_of_heap hbk
  have c1 : w.drew.cell? ⟨b, 1, none⟩ = some (.slice (some ⟨g, 0, none⟩) 0 0) := by
    have : w.drew.heap[b]? = some (.cells #[p, .slice (some ⟨g, 0, none⟩) 0 0] 43 (0, 0)) := hbk
    rw [Lib.cell_of_heap this]; rfl
  have hSD := value_of (sd_zero w.drew g cur.size (by have hg' : w.drew.heap[g]? = some (.cells cur 5 (0, 0)) := hg; simp [World.shape?, hg']))
  have c2 : (w.drew.alloc (.view ⟨g, 0, none⟩ 5)).cell? ⟨b, 1, none⟩ = some (.slice (some ⟨g, 0, none⟩) 0 0) := by
    have : (w.drew.alloc (.view ⟨g, 0, none⟩ 5)).heap[b]? = _ := (Lib.alloc_old w.drew _ b hlt).trans hbk
    rw [Lib.cell_of_heap this]; rfl
  have c3 : (w.alloc (.view ⟨g, 0, none⟩ 5)).drew.cell? ⟨b, 1, none⟩ = some (.slice (some ⟨g, 0, none⟩) 0 0) := c2
  have c0 : w.cell? ⟨b, 1, none⟩ = some (.slice (some ⟨g, 0, none⟩) 0 0) := c1
  go_enter Try.func23, Try.ntmps23
  go_wp2
  go_region
  all_goals (go_wp2; go_ret; exact ⟨rfl, (Kept.drew w S).trans (Kept.alloc w.drew _ S) (fun _ _ h => h)⟩)

theorem string_any (b : Nat) (v : Value) (l : List UInt8) (w : World) (h : Bld b v (Lib.byteCells l) w) :
    Calls Try.prog 23 #[.pointer (some ⟨b, 0, none⟩)] w fun e w' => e = .returned (.string ⟨l.toArray⟩) ∧ Kept (fun k => v.ownBlock = some k) w w' := by
  cases l with
  | cons x r => exact string_some b v (x :: r) w h (by simp)
  | nil =>
    obtain ⟨p, _, hbk, hown⟩ := h
    rcases hown.2 with ⟨rfl, _⟩ | ⟨g, cap, cur, rfl, hbg, hg, _, _, _, _⟩
    · exact string_nil b p w hbk _
    · by_cases hc0 : cap = 0
      · subst hc0
        exact string_noroom b g p cur w hbk hg _
      · exact string_room b g cap p w hc0 hbk _

end Go.Proofs.Qxb6614816a
