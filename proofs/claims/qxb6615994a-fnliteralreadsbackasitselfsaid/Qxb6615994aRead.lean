import Derived.Test.Qxb6615994aSplWalk
namespace Go.Proofs.Qxb6615994a
open Go.RowKit

/-! ### the plain law -/

/-- where the text of the k-th byte begins in the literal. -/
def pos (l : List UInt8) (k : Nat) : Nat := 2 + (escAll (l.take k)).length

theorem lit_split (s : ByteArray) (k : Nat) (h : k < s.size) :
    lit s.data.toList = ([69, 39] ++ escAll (s.data.toList.take k)) ++ (esc s[k] ++ (escAll (s.data.toList.drop (k + 1)) ++ [39])) := by
  have e : escAll s.data.toList = escAll (s.data.toList.take (k + 1)) ++ escAll (s.data.toList.drop (k + 1)) := by rw [← escAll_append, List.take_append_drop]
  rw [lit, e, esc_snoc s k h]
  simp

theorem pos_len (l : List UInt8) (k : Nat) : ([69, 39] ++ escAll (l.take k)).length = pos l k := by simp [pos]; omega

theorem get_app (a b : List UInt8) (T : ByteArray) (hT : T = ⟨(a ++ b).toArray⟩) (n j : Nat) (hn : a.length = n) (hj : j < b.length) : ∃ h : n + j < T.size, T[n + j]'h = b[j] := by
  subst hT
  have hl : n + j < (⟨(a ++ b).toArray⟩ : ByteArray).size := by
    show n + j < (a ++ b).length
    rw [List.length_append]; omega
  refine ⟨hl, ?_⟩
  show (a ++ b)[n + j]'hl = b[j]
  subst hn
  exact List.getElem_append_right' a hj |>.symm ▸ (by simp)

theorem read_special (s T : ByteArray) (hT : T = ⟨(lit s.data.toList).toArray⟩) (k : Nat) (h : k < s.size) (hs : special s[k] = true) :
    pos s.data.toList k + 2 < T.size ∧ (∀ h', T[pos s.data.toList k]'h' = 92) ∧ (∀ h', T[pos s.data.toList k + 1]'h' = s[k]) ∧ pos s.data.toList (k + 1) = pos s.data.toList k + 2 := by
  rw [lit_split s k h] at hT
  have he : esc s[k] = [92, s[k]] := by
    simp [special] at hs
    rcases hs with hs | hs
    · rw [hs]; rfl
    · rw [hs]; rfl
  rw [he] at hT
  obtain ⟨a0, b0⟩ := get_app _ _ T hT _ 0 (pos_len _ k) (by simp)
  obtain ⟨a1, b1⟩ := get_app _ _ T hT _ 1 (pos_len _ k) (by simp)
  obtain ⟨a2, b2⟩ := get_app _ _ T hT _ 2 (pos_len _ k) (by simp)
  refine ⟨a2, fun _ => b0, fun _ => b1, ?_⟩
  rw [pos, esc_snoc s k h, he]; simp [pos]; omega

theorem read_plain (s T : ByteArray) (hT : T = ⟨(lit s.data.toList).toArray⟩) (k : Nat) (h : k < s.size) (hs : special s[k] = false) :
    pos s.data.toList k + 1 < T.size ∧ (∀ h', T[pos s.data.toList k]'h' = s[k]) ∧ pos s.data.toList (k + 1) = pos s.data.toList k + 1 := by
  rw [lit_split s k h] at hT
  have he : esc s[k] = [s[k]] := esc_plain hs
  rw [he] at hT
  obtain ⟨a0, b0⟩ := get_app _ _ T hT _ 0 (pos_len _ k) (by simp)
  obtain ⟨a1, b1⟩ := get_app _ _ T hT _ 1 (pos_len _ k) (by simp)
  refine ⟨a1, fun _ => b0, ?_⟩
  rw [pos, esc_snoc s k h, he]; simp [pos]; omega

theorem read_end (s T : ByteArray) (hT : T = ⟨(lit s.data.toList).toArray⟩) :
    T.size = pos s.data.toList s.size + 1 ∧ (∀ h', T[pos s.data.toList s.size]'h' = 39) := by
  have ht : s.data.toList.take s.size = s.data.toList := List.take_of_length_le (by simp)
  have hp : ([69, 39] ++ escAll s.data.toList).length = pos s.data.toList s.size := by rw [pos, ht]; simp; omega
  obtain ⟨a0, b0⟩ := get_app ([69, 39] ++ escAll s.data.toList) [39] T hT _ 0 hp (by simp)
  refine ⟨?_, fun _ => b0⟩
  rw [hT, ← hp]
  show (lit s.data.toList).length = _
  rw [lit_len]; simp; omega

theorem read_head (s T : ByteArray) (hT : T = ⟨(lit s.data.toList).toArray⟩) : (∀ h', T[0]'h' = 69) ∧ (∀ h', T[1]'h' = 39) := by
  subst hT
  exact ⟨fun _ => rfl, fun _ => rfl⟩

/-! ### rows of bytes -/
def Row (v : Value) (l : List UInt8) (w : World) : Prop := w.ownsRow 0 5 1 v l.length (bc l)
def Moved (w : World) (v v' : Value) : Prop := v'.ownBlock = v.ownBlock ∨ ∃ k, v'.ownBlock = some k ∧ w.heap.size ≤ k

theorem Row.snoc {v v' : Value} {l : List UInt8} {c : UInt8} {w w2 : World} {o : Obj} {m : Nat} (hm : m = l.length + 1) (hown' : w2.ownsRow 0 5 1 v' m (bc l ++ [.int .u8 c.toNat]))
    (hgrow : (w.alloc o).grownBy w2 v.ownBlock) (hat : v'.ownBlock = v.ownBlock ∨ v'.ownBlock = some (w.heap.size + 1)) : Row v' (l ++ [c]) w2 ∧ Moved w v v' ∧ Kept (fun k => v.ownBlock = some k) w w2 := by
  refine ⟨?_, ?_, (Kept.alloc w o _).trans (Kept.grown hgrow) (fun _ _ h => h)⟩
  · unfold Row; rw [bc_append, show bc [c] = [.int .u8 c.toNat] from rfl]; subst hm; simpa using hown'
  · rcases hat with h | h
    · exact Or.inl h
    · exact Or.inr ⟨_, h, by omega⟩

theorem Row.news (w : World) (x : Value) : ∀ j u, [x][j]? = some u → (w.alloc (.cells #[x] 5)).cell? ((⟨w.heap.size, 0, none⟩ : Addr).add j) = some u := by
  intro j u hj
  match j, hj with
  | 0, hj => simp at hj; subst hj; simp [Addr.add]

theorem own_ge {w0 wr : World} {v v' : Value} (h : ∀ g, v.ownBlock = some g → w0.heap.size ≤ g) (hs : w0.heap.size ≤ wr.heap.size) (hm : Moved wr v v') : ∀ g, v'.ownBlock = some g → w0.heap.size ≤ g := by
  intro g hg
  rcases hm with hm | ⟨k, hm, hk⟩
  · exact h g (hm ▸ hg)
  · rw [hm] at hg; injection hg with hg; omega

theorem ge_kept {W wr w2 : World} {v : Value} (hk : Kept (fun _ => False) W wr) (hg : ∀ g, v.ownBlock = some g → W.heap.size ≤ g) (k2 : Kept (fun k => v.ownBlock = some k) wr w2) : Kept (fun _ => False) W w2 :=
  hk.trans k2 (fun x hx hs => by have := hg x hs; omega)

theorem Row.str {v : Value} {l : List UInt8} {w : World} (h : Row v l w) : (convert 27 9 v).run Try.prog w = .ok (.string ⟨l.toArray⟩) w := by
  rcases h.2 with ⟨rfl, h0⟩ | ⟨g, cap, cur, rfl, _, hg, _, _, _, htake⟩
  · have : l = [] := List.eq_nil_of_length_eq_zero h0
    subst this
    rw [run_convert_bytes_nil w 27 5 Try.underlying27 Try.underlying5 0 0 9 Try.underlying9]
    rfl
  · have hc := h.cells (g := g) rfl
    rw [run_convert_bytes_arg w 27 5 Try.underlying27 Try.underlying5 g 0 l.length cap (l.map fun c => (c.toNat : Int)) (by simp) ?_ 9 Try.underlying9]
    · congr 2
      simp only [strOfNums, List.map_map]
      congr 2
      conv => rhs; rw [← List.map_id l]
      apply List.map_congr_left
      intro c _
      simp
    · intro i hi
      have := hc i (.int .u8 (l.getD i 0).toNat) (by simp [bc, List.getElem?_eq_getElem hi])
      have hadd : (⟨g, 0, none⟩ : Addr).add i = ⟨g, 0 + i, none⟩ := by unfold Addr.add; split <;> simp_all
      rw [hadd] at this
      rw [this]
      simp [List.getElem?_eq_getElem hi]

/-! ### the walk -/
set_option maxRecDepth 100000 in
theorem spec_no (c : UInt8) (h : special c = true) (w : World) : Calls Try.prog 13 #[.int .u8 c.toNat] w fun e w' => e = .returned (.bool false) ∧ w = w' := by
  have : c = 39 ∨ c = 92 := by simpa [special] using h
  rcases this with rfl | rfl
  · go_enter Try.func13, Try.ntmps13
    go_wp2
    go_ret
    exact ⟨rfl, rfl⟩
  · go_enter Try.func13, Try.ntmps13
    go_wp2
    go_ret
    exact ⟨rfl, rfl⟩

theorem make_zero (T : ByteArray) (w : World) (h : T.size ≤ 1200003) : ∃ v wM, (Instr.makeSlice 27 (.int .i64 0) (.int .i64 T.size)).run Try.prog w = .ok v wM ∧ Row v [] wM ∧ (∀ g, v.ownBlock = some g → w.heap.size ≤ g) ∧ Kept (fun _ => False) w wM := by
  obtain ⟨i0, hi, hz⟩ := Option.map_eq_some_iff.1 info5
  simp only [Prod.mk.injEq] at hz
  obtain ⟨hz0, hz1, hz2⟩ := hz
  obtain ⟨w', h1, h2, h3⟩ := run_make_own (P := Try.prog) (w := w) 0 27 5 i0 _ 1 Try.underlying27 hi hz0 hz1 .i64 .i64 T.size (by rw [hz2]; omega) (by unfold maxLen; omega) (Nat.zero_le _)
  refine ⟨_, w', h1, h2, ?_, (Kept.grown h3).mono (fun i _ h => by cases h)⟩
  intro g hg
  have : w.heap.size = g := by simpa [Value.ownBlock] using hg
  omega

set_option maxHeartbeats 4000000 in
set_option maxRecDepth 100000 in
theorem read_any (s T : ByteArray) (hs : s.size ≤ 600000) (hT : T = ⟨(lit s.data.toList).toArray⟩) (w : World) :
    Calls Try.prog 9 #[.string T] w fun e w' => e = .returned (.tuple #[.string s, .bool true]) ∧ Kept (fun _ => False) w w' := by
  obtain ⟨i0, hi, hz⟩ := Option.map_eq_some_iff.1 info5
  simp only [Prod.mk.injEq] at hz
  obtain ⟨hz0, hz1, hz2⟩ := hz
  have hTs : 3 ≤ T.size ∧ T.size ≤ 1200003 := by
    obtain ⟨L, hL, h1, h2⟩ := lit_obtain s.data.toList hs
    rw [hT, ← hL]; exact ⟨h1, h2⟩
  obtain ⟨hT3, hTm⟩ := hTs
  obtain ⟨y0, y1⟩ := read_head s T hT
  obtain ⟨vM, wM, hmk, rM, gM, kM⟩ := make_zero T w hTm
  have HT := hidd hT
  clear hT
  go_enter Try.func9, Try.ntmps9
  go_wp2_with fail
  go_loopw [4, 5] (fun t i wr => ∃ (k p : Nat), k ≤ s.size ∧ Hid (p = pos s.data.toList k) ∧ i = .int .i64 p ∧ Row t (s.data.toList.take k) wr ∧ (∀ g, t.ownBlock = some g → w.heap.size ≤ g) ∧ Kept (fun _ => False) w wr) (fun _ i _ => T.size - (intOf i).toNat)
  case atStart => exact ⟨0, 2, Nat.zero_le _, rfl, rfl, rM, gM, kM⟩
  case round =>
    obtain ⟨k, p, hk, HP, rfl, hr, hg, kr⟩ := hrel
    clear y0 y1
    have hll : (s.data.toList.take k).length ≤ 600000 := by rw [List.length_take]; omega
    have hbl : (bc (s.data.toList.take k)).length = (s.data.toList.take k).length := bc_len _
    by_cases hlt : k < s.size
    · have htk := hidd (take_snoc' s k hlt)
      cases hsp : special s[k] with
      | true =>
        obtain ⟨q1, q2, q3, q4⟩ := read_special s T (unhid HT) k hlt hsp
        have hcl := fun wx => spec_no s[k] hsp wx
        rw [← HP.out] at q1 q4
        have q2' : ∀ h', T[p]'h' = 92 := by rw [HP.out]; exact q2
        have q3' : ∀ h', T[p + 1]'h' = s[k] := by rw [HP.out]; exact q3
        have Q4 := hidd q4
        clear q2 q3 q4 hsp
        have hsk : s[k].toNat < 256 := s[k].toNat_lt
        go_wp2_with (first | (go_at_call 13; refine (hcl _).mono ?_; rintro e wx ⟨rfl, rfl⟩) | (at_builtin; refine wpList_append_own_at _ rfl _ _ 27 rfl 0 5 i0 _ 1 1 Try.underlying27 hi hz0 hz1 hz2 rfl (by decide) u4 (s.data.toList.take k).length (bc (s.data.toList.take k)) rfl ?own ⟨wr.heap.size, 0, none⟩ 1 1 [.int .u8 s[k].toNat] rfl rfl ?news ?one ?c3 ?c4 ?c5 ?_))
        case own => exact World.ownsRow.alloc hr _
        case news => exact Row.news wr _
        case one => intro u hu; simp at hu; subst hu; rfl
        case c3 => unfold maxLen; omega
        case c4 => omega
        case c5 => exact Nat.zero_le _
        intro v' w7 hown' hgrow _ hat
        obtain ⟨r1, r2, r3⟩ := Row.snoc (c := s[k]) (l := s.data.toList.take k) (by rw [List.length_take, Array.length_toList]; show k + 1 = _; have : s.data.size = s.size := rfl; omega) hown' hgrow hat
        rw [← unhid htk] at r1
        clear hown' hgrow hat
        go_wp2
        go_roundw
        case rel => exact ⟨k + 1, p + 2, by omega, (unhid Q4).symm, by go_num, r1, own_ge hg kr.size r2, ge_kept kr hg r3⟩
        case measure => simp [intOf]; omega
      | false =>
        obtain ⟨q1, q2, q4⟩ := read_plain s T (unhid HT) k hlt hsp
        rw [← HP.out] at q1 q4
        have q2' : ∀ h', T[p]'h' = s[k] := by rw [HP.out]; exact q2
        have Q4 := hidd q4
        have n1 : ((s[k].toNat : Int) == 92) = false := by simp [special] at hsp; simp; intro h; exact hsp.2 (UInt8.toNat_inj.1 (by show _ = 92; omega))
        have n2 : ((s[k].toNat : Int) == 39) = false := by simp [special] at hsp; simp; intro h; exact hsp.1 (UInt8.toNat_inj.1 (by show _ = 39; omega))
        clear q2 q4 hsp
        have hsk : s[k].toNat < 256 := s[k].toNat_lt
        go_wp2_with (at_builtin; refine wpList_append_own_at _ rfl _ _ 27 rfl 0 5 i0 _ 1 1 Try.underlying27 hi hz0 hz1 hz2 rfl (by decide) u4 (s.data.toList.take k).length (bc (s.data.toList.take k)) rfl ?own ⟨wr.heap.size, 0, none⟩ 1 1 [.int .u8 s[k].toNat] rfl rfl ?news ?one ?c3 ?c4 ?c5 ?_)
        case own => exact World.ownsRow.alloc hr _
        case news => exact Row.news wr _
        case one => intro u hu; simp at hu; subst hu; rfl
        case c3 => unfold maxLen; omega
        case c4 => omega
        case c5 => exact Nat.zero_le _
        intro v' w7 hown' hgrow _ hat
        obtain ⟨r1, r2, r3⟩ := Row.snoc (c := s[k]) (l := s.data.toList.take k) (by rw [List.length_take, Array.length_toList]; show k + 1 = _; have : s.data.size = s.size := rfl; omega) hown' hgrow hat
        rw [← unhid htk] at r1
        clear hown' hgrow hat
        go_wp2
        go_roundw
        case rel => exact ⟨k + 1, p + 1, by omega, (unhid Q4).symm, by go_num, r1, own_ge hg kr.size r2, ge_kept kr hg r3⟩
        case measure => simp [intOf]; omega
    · have hks : s.size = k := by omega
      obtain ⟨q1, q2⟩ := read_end s T (unhid HT)
      rw [hks, ← HP.out] at q1
      have q2' : ∀ h', T[p]'h' = 39 := by have := q2; rw [hks, ← HP.out] at this; exact this
      have htall : s.data.toList.take k = s.data.toList := List.take_of_length_le (by simp; omega)
      rw [htall] at hr
      have hstr := hr.str
      rw [show (⟨s.data.toList.toArray⟩ : ByteArray) = s by apply ByteArray.ext; simp] at hstr
      clear q2 htall hks
      have hnl : ¬ (p : Int) + 1 < (T.size : Int) := by omega
      go_wp2_with fail
      go_ret2
      exact ⟨rfl, kr⟩

set_option maxHeartbeats 1600000 in
set_option maxRecDepth 100000 in
theorem back_walk (s : ByteArray) (w : World) (hs : s.size ≤ maxLen) :
    Calls Try.prog 4 #[.string s] w fun e w' => e = .returned (.bool true) ∧ Below w.heap.size w w' := by
  unfold maxLen at hs
  by_cases h1 : 1048576 < s.size
  · go_enter Try.func4, Try.ntmps4
    go_wp2
    go_ret
    exact ⟨rfl, Below.refl _ _⟩
  by_cases h2 : 262144 < s.size
  · go_enter Try.func4, Try.ntmps4
    go_wp2
    go_ret
    exact ⟨rfl, Below.refl _ _⟩
  obtain ⟨T, hT, _, _⟩ := lit_obtain s.data.toList (by show s.size ≤ _; omega)
  have HT := hidd hT
  clear hT
  go_enter Try.func4, Try.ntmps4
  go_wp2_with (go_at_call 8; go_in)
  refine (zzliteral_any s _ (by omega)).mono ?_
  rintro e w1 ⟨rfl, hk1⟩
  rw [← unhid HT]
  go_wp2_with fail
  refine (read_any s T (by omega) (unhid HT) _).mono ?_
  rintro e w2 ⟨rfl, hk2⟩
  go_wp2
  go_ret
  exact ⟨rfl, (hk1.trans hk2 (fun _ _ h => h)).below (Nat.le_refl _) (fun _ _ h => h)⟩

end Go.Proofs.Qxb6615994a
