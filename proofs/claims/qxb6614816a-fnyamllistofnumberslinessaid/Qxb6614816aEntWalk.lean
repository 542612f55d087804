import Derived.Test.Qxb6614816aEntPlain
namespace Go.Proofs.Qxb6614816a
open Go.RowKit

def nilS : Value := .slice none 0 0
def at0 : Value := .int .u8 0

/-- Both encoders and both levels, i entries made on the first, j on the second. -/
def Two (w0 : World) (E1 b1 L1 E2 b2 L2 : Nat) (le im : Bool) (ind : Nat) (pl n : Int) (i j : Nat) (v1 v2 : Value) (wr : World) : Prop :=
  (Enc E1 b1 nilS at0 (runE le ind pl n i).2 v1 (runE le ind pl n i).1 wr ∧ Lvl L1 im ind pl (wrap64 (n + i)) wr) ∧
  (Enc E2 b2 nilS at0 (runE le ind pl n j).2 v2 (runE le ind pl n j).1 wr ∧ Lvl L2 (!im) ind pl (wrap64 (n + j)) wr) ∧
  Apart v1 v2 ∧ (∀ g, v1.ownBlock = some g → w0.heap.size ≤ g) ∧ (∀ g, v2.ownBlock = some g → w0.heap.size ≤ g) ∧ Kept (fun _ => False) w0 wr

theorem wrap_step (n : Int) (i : Nat) : wrap64 (wrap64 (n + i) + 1) = wrap64 (n + ((i + 1 : Nat) : Int)) := by unfold wrap64; omega

theorem own_ge {w0 wr : World} {v v' : Value} (h : ∀ g, v.ownBlock = some g → w0.heap.size ≤ g) (hs : w0.heap.size ≤ wr.heap.size) (hm : Moved wr v v') : ∀ g, v'.ownBlock = some g → w0.heap.size ≤ g := by
  intro g hg
  rcases hm with hm | ⟨k, hm, hk⟩
  · exact h g (hm ▸ hg)
  · rw [hm] at hg; injection hg with hg; omega

theorem Two.step1 {w0 : World} {E1 b1 L1 E2 b2 L2 : Nat} {le im : Bool} {ind : Nat} {pl n : Int} {i j : Nat} {v1 v2 v1' : Value} {wr w' : World}
    (h : Two w0 E1 b1 L1 E2 b2 L2 le im ind pl n i j v1 v2 wr) (hE : E1 ≠ E2) (hb : b1 ≠ b2) (hL : L1 ≠ L2) (hE1 : w0.heap.size ≤ E1) (hb1 : w0.heap.size ≤ b1) (hL1 : w0.heap.size ≤ L1)
    (he : Enc E1 b1 nilS at0 (entryLe (runE le ind pl n i).2 pl (wrap64 (n + i))) v1' (entryText (runE le ind pl n i).2 (runE le ind pl n i).1 ind pl (wrap64 (n + i))) w') (hl : Lvl L1 im ind pl (wrap64 (wrap64 (n + i) + 1)) w')
    (hm : Moved wr v1 v1') (hk : Kept (FootL E1 b1 L1 v1) wr w') : Two w0 E1 b1 L1 E2 b2 L2 le im ind pl n (i + 1) j v1' v2 w' := by
  obtain ⟨⟨a1, a2⟩, ⟨a3, a4⟩, ap, g1, g2, kk⟩ := h
  have hf := feet_apart a1 a2 a3 a4 hE hb hL ap
  refine ⟨⟨he, by rw [wrap_step] at hl; exact hl⟩, ⟨a3.kept hk (fun x hx hy => hf x hx (Or.inr hy)), a4.kept hk (fun hx => hf _ hx (Or.inl rfl))⟩, ap.moved hm a3.2.own_lt, own_ge g1 kk.size hm, g2, ?_⟩
  refine kk.trans hk ?_
  rintro x hx (rfl | rfl | rfl | hx')
  · omega
  · omega
  · omega
  · have := g1 x hx'; omega

theorem Two.step2 {w0 : World} {E1 b1 L1 E2 b2 L2 : Nat} {le im : Bool} {ind : Nat} {pl n : Int} {i j : Nat} {v1 v2 v2' : Value} {wr w' : World}
    (h : Two w0 E1 b1 L1 E2 b2 L2 le im ind pl n i j v1 v2 wr) (hE : E1 ≠ E2) (hb : b1 ≠ b2) (hL : L1 ≠ L2) (hE1 : w0.heap.size ≤ E2) (hb1 : w0.heap.size ≤ b2) (hL1 : w0.heap.size ≤ L2)
    (he : Enc E2 b2 nilS at0 (entryLe (runE le ind pl n j).2 pl (wrap64 (n + j))) v2' (entryText (runE le ind pl n j).2 (runE le ind pl n j).1 ind pl (wrap64 (n + j))) w') (hl : Lvl L2 (!im) ind pl (wrap64 (wrap64 (n + j) + 1)) w')
    (hm : Moved wr v2 v2') (hk : Kept (FootL E2 b2 L2 v2) wr w') : Two w0 E1 b1 L1 E2 b2 L2 le im ind pl n i (j + 1) v1 v2' w' := by
  obtain ⟨⟨a1, a2⟩, ⟨a3, a4⟩, ap, g1, g2, kk⟩ := h
  have hf := feet_apart a3 a4 a1 a2 hE.symm hb.symm hL.symm ap.symm
  refine ⟨⟨a1.kept hk (fun x hx hy => hf x hx (Or.inr hy)), a2.kept hk (fun hx => hf _ hx (Or.inl rfl))⟩, ⟨he, by rw [wrap_step] at hl; exact hl⟩, (ap.symm.moved hm a1.2.own_lt).symm, g1, own_ge g2 kk.size hm, ?_⟩
  refine kk.trans hk ?_
  rintro x hx (rfl | rfl | rfl | hx')
  · omega
  · omega
  · omega
  · have := g2 x hx'; omega

theorem Two.start {w0 w1 w2 w3 w4 : World} {le im : Bool} {ind : Nat} {pl n : Int} (h0 : 0 ≤ n) (h1 : n ≤ 9223372036854775807)
    (hE1 : Enc (w0.heap.size + 1) w0.heap.size (.slice none 0 0) (.int .u8 0) le (.slice none 0 0) [] w1) (k1 : Kept (fun _ => False) w0 w1)
    (hL1 : Lvl w1.heap.size im ind pl n w2) (k2 : Kept (fun _ => False) w1 w2)
    (hE2 : Enc (w2.heap.size + 1) w2.heap.size (.slice none 0 0) (.int .u8 0) le (.slice none 0 0) [] w3) (k3 : Kept (fun _ => False) w2 w3)
    (hL2 : Lvl w3.heap.size (!im) ind pl n w4) (k4 : Kept (fun _ => False) w3 w4) :
    Two w0 (w0.heap.size + 1) w0.heap.size w1.heap.size (w2.heap.size + 1) w2.heap.size w3.heap.size le im ind pl n 0 0 nilS nilS w4 ∧
      w0.heap.size + 1 < w2.heap.size ∧ w1.heap.size < w3.heap.size ∧ w0.heap.size ≤ w1.heap.size ∧ w0.heap.size ≤ w3.heap.size := by
  have s1 := lt_of_heap hE1.1
  have s2 := k2.size
  have s3 : w1.heap.size < w2.heap.size := lt_of_heap hL1
  have s4 := k3.size
  have hw : wrap64 (n + ((0 : Nat) : Int)) = n := by unfold wrap64; omega
  have f : ∀ (a b : World), Kept (fun _ => False) a b → ∀ {c : World}, Kept (fun _ => False) b c → Kept (fun _ => False) a c := fun a b h c k => h.trans k (fun _ _ h => h)
  refine ⟨⟨⟨?_, ?_⟩, ⟨?_, ?_⟩, ?_, ?_, ?_, ?_⟩, by omega, by omega, by omega, by omega⟩
  · exact hE1.kept (f _ _ k2 (f _ _ k3 k4)) (fun _ h => h.elim)
  · rw [hw]; exact hL1.kept (f _ _ k3 k4) (fun h => h)
  · exact hE2.kept k4 (fun _ h => h.elim)
  · rw [hw]; exact hL2
  · intro g hg; cases hg
  · intro g hg; cases hg
  · intro g hg; cases hg
  · exact f _ _ k1 (f _ _ k2 (f _ _ k3 k4))


theorem linesTo_brk {le : Bool} {ind : Nat} {pre : List UInt8} {m : Nat} (h : 0 < m ∨ le = false) : linesTo le ind pre (m + 1) = linesTo le ind pre m ++ [10] ++ List.replicate ind 32 := by
  rcases h with h | h <;> simp [linesTo, h]
theorem linesTo_not {ind : Nat} {pre : List UInt8} : linesTo true ind pre (0 + 1) = linesTo true ind pre 0 ++ List.replicate ind 32 := by simp [linesTo]

theorem ge_kept {W wr w2 : World} {v : Value} (hk : Kept (fun _ => False) W wr) (hg : ∀ g, v.ownBlock = some g → W.heap.size ≤ g) (k2 : Kept (fun k => v.ownBlock = some k) wr w2) : Kept (fun _ => False) W w2 :=
  hk.trans k2 (fun x hx hs => by have := hg x hs; omega)

theorem Kept.none_to {w w' : World} (h : Kept (fun _ => False) w w') : Below w.heap.size w w' := h.below (Nat.le_refl _) (fun _ _ h => h)

set_option maxHeartbeats 4000000 in
set_option maxRecDepth 100000 in
theorem walkA (le im : Bool) (ind : Nat) (pl n : Int) (k : Nat) (hn0 : 0 ≤ n) (hn1 : n ≤ 9223372036854775807) (hnz : (n == 0) = false) (hk1 : 1 ≤ k) (hk2 : k ≤ 15) (hind : ind ≤ 65536) (w : World) :
    Calls Try.prog 4 #[.bool le, .bool im, .int .i64 ind, .int .u8 pl, .int .i64 n, .int .i64 k] w fun e w' => e = .returned (.bool true) ∧ Below w.heap.size w w' := by
  obtain ⟨i0, hi, hz⟩ := Option.map_eq_some_iff.1 info5
  simp only [Prod.mk.injEq] at hz
  obtain ⟨hz0, hz1, hz2⟩ := hz
  go_enter Try.func4, Try.ntmps4
  go_wp2_with fail
  refine (newEncoder_any le _).mono ?_
  rintro e w1 ⟨rfl, hE1, k1⟩
  go_wp2_with fail
  refine (newLevel_any im ind pl n _).mono ?_
  rintro e w2 ⟨rfl, hL1, k2⟩
  go_wp2_with fail
  refine (newEncoder_any le _).mono ?_
  rintro e w3 ⟨rfl, hE2, k3⟩
  go_wp2_with fail
  refine (newLevel_any (!im) ind pl n _).mono ?_
  rintro e w4 ⟨rfl, hL2, k4⟩
  obtain ⟨hT, d1, d2, d3, d4⟩ := Two.start (by omega) (by omega) hE1 k1 hL1 k2 hE2 k3 hL2 k4
  clear hE1 k1 hL1 k2 hE2 k3 hL2 k4
  generalize w1.heap.size = L1 at *
  generalize w2.heap.size = b2 at *
  generalize w3.heap.size = L2 at *
  go_wp2_with fail
  go_loopw [17] (fun t wr => ∃ (i : Nat) (v1 v2 : Value), i ≤ k ∧ t = .int .i64 i ∧ Two w (w.heap.size + 1) w.heap.size L1 (b2 + 1) b2 L2 le im ind pl n i i v1 v2 wr) (fun t _ => k - (intOf t).toNat)
  case atStart => exact ⟨0, nilS, nilS, Nat.zero_le _, rfl, hT⟩
  case round =>
    obtain ⟨i, v1, v2, hik, rfl, hT2⟩ := hrel
    by_cases hlt : i < k
    · have hlen := runE_length le ind pl n i
      have hmul : i * (ind + 1) ≤ 15 * 65537 := Nat.mul_le_mul (by omega) (by omega)
      go_wp2_with fail
      refine (zzentry_any (w.heap.size + 1) w.heap.size L1 nilS at0 _ im v1 _ ind pl _ _ hT2.1.1 hT2.1.2 hind (by omega)).mono ?_
      rintro e w5 ⟨rfl, v1', e1, e2, e3, e4⟩
      have hT3 := hT2.step1 (by omega) (by omega) (by omega) (by omega) (by omega) (by omega) e1 e2 e3 e4
      clear e1 e2 e3 e4
      go_wp2_with fail
      refine (zzentry_any (b2 + 1) b2 L2 nilS at0 _ (!im) v2 _ ind pl _ _ hT3.2.1.1 hT3.2.1.2 hind (by omega)).mono ?_
      rintro e w6 ⟨rfl, v2', e1, e2, e3, e4⟩
      have hT4 := hT3.step2 (by omega) (by omega) (by omega) (by omega) (by omega) (by omega) e1 e2 e3 e4
      clear e1 e2 e3 e4 hT2 hT3
      go_wp2
      go_roundw
      case rel => exact ⟨i + 1, v1', v2', by omega, by go_num, hT4⟩
      case measure => simp [intOf]; omega
    · have hki : k = i := by omega
      subst hki
      clear hT hlt hik
      have HT : Hid (Two w (w.heap.size + 1) w.heap.size L1 (b2 + 1) b2 L2 le im ind pl n (k) (k) v1 v2 wr) := hT2
      clear hT2
      go_wp2_with fail
      obtain ⟨W, rfl⟩ : ∃ W, W = wr := ⟨_, rfl⟩
      go_loopw [18, 20] (fun t j wq => ∃ m : Nat, m ≤ k ∧ j = .int .i64 m ∧ Row t (linesTo le ind [] m) wq ∧ (∀ g, t.ownBlock = some g → W.heap.size ≤ g) ∧ Kept (fun _ => False) W wq) (fun _ j _ => k - (intOf j).toNat)
      case atStart => exact ⟨0, Nat.zero_le _, rfl, Row.nil _, (fun g hg => by cases hg), Kept.refl _ _⟩
      case round =>
        obtain ⟨m, hm, rfl, hr, hg, hkw⟩ := hrel
        have hlen : (linesTo le ind [] m).length ≤ 1 + m * (ind + 1) := Nat.le_trans (linesTo_length le ind [] m) (by simp)
        have hmul : m * (ind + 1) ≤ 15 * 65537 := Nat.mul_le_mul (by omega) (by omega)
        by_cases hlt : m < k
        · rcases Nat.eq_zero_or_pos m with h0 | hpos
          · subst h0
            cases le with
            | false =>
              go_wp2_with (at_builtin; refine wpList_append_own_at _ rfl _ _ 28 rfl 0 5 i0 _ 1 1 Try.underlying28 hi hz0 hz1 hz2 rfl (by decide) u18 (linesTo false ind [] 0).length (Lib.byteCells (linesTo false ind [] 0)) rfl ?own ⟨wr.heap.size, 0, none⟩ 1 1 [.int .u8 10] rfl rfl ?news ?one ?c3 ?c4 ?c5 ?_)
              case own => exact World.ownsRow.alloc hr _
              case news => exact Row.news wr _
              case one => intro u hu; simp at hu; subst hu; rfl
              case c3 => unfold maxLen; omega
              case c4 => omega
              case c5 => exact Nat.zero_le _
              intro v' w7 hown' hgrow _ hat
              obtain ⟨r1, r2, r3⟩ := Row.snoc (c := 10) (l := linesTo false ind [] 0) rfl hown' hgrow hat
              clear hown' hgrow hat
              go_wp2_with fail
              refine (appendBlanks_any v' _ ind _ r1 hind (by simp; omega)).mono ?_
              rintro e w8 ⟨v'', rfl, q1, q2, q3⟩
              rw [← linesTo_brk (Or.inr rfl)] at q1
              go_wp2
              go_roundw
              case rel => exact ⟨0 + 1, by omega, by go_num, q1, own_ge (own_ge hg hkw.size r2) (Nat.le_trans hkw.size r3.size) q2, ge_kept (ge_kept hkw hg r3) (own_ge hg hkw.size r2) q3⟩
              case measure => simp [intOf]; omega

            | true =>
              go_wp2_with fail
              refine (appendBlanks_any u18 _ ind _ hr hind (by omega)).mono ?_
              rintro e w8 ⟨v'', rfl, q1, q2, q3⟩
              rw [← linesTo_not] at q1
              go_wp2
              go_roundw
              case rel => exact ⟨0 + 1, by omega, by go_num, q1, own_ge hg hkw.size q2, ge_kept hkw hg q3⟩
              case measure => simp [intOf]; omega
          · 
            go_wp2_with (at_builtin; refine wpList_append_own_at _ rfl _ _ 28 rfl 0 5 i0 _ 1 1 Try.underlying28 hi hz0 hz1 hz2 rfl (by decide) u18 (linesTo le ind [] m).length (Lib.byteCells (linesTo le ind [] m)) rfl ?own ⟨wr.heap.size, 0, none⟩ 1 1 [.int .u8 10] rfl rfl ?news ?one ?c3 ?c4 ?c5 ?_)
            case own => exact World.ownsRow.alloc hr _
            case news => exact Row.news wr _
            case one => intro u hu; simp at hu; subst hu; rfl
            case c3 => unfold maxLen; omega
            case c4 => omega
            case c5 => exact Nat.zero_le _
            intro v' w7 hown' hgrow _ hat
            obtain ⟨r1, r2, r3⟩ := Row.snoc (c := 10) (l := linesTo le ind [] m) rfl hown' hgrow hat
            clear hown' hgrow hat
            go_wp2_with fail
            refine (appendBlanks_any v' _ ind _ r1 hind (by simp; omega)).mono ?_
            rintro e w8 ⟨v'', rfl, q1, q2, q3⟩
            rw [← linesTo_brk (Or.inl hpos)] at q1
            go_wp2
            go_roundw
            case rel => exact ⟨m + 1, by omega, by go_num, q1, own_ge (own_ge hg hkw.size r2) (Nat.le_trans hkw.size r3.size) q2, ge_kept (ge_kept hkw hg r3) (own_ge hg hkw.size r2) q3⟩
            case measure => simp [intOf]; omega

        · have hmi : k = m := by omega
          subst hmi
          clear hlt hmul hlen hm
          have hT2 := HT.out
          clear HT
          rw [Two, (runE_other le ind pl n hn0 hn1 (by simp at hnz; omega) k hk2).trans (by rw [if_neg (by omega)])] at hT2
          obtain ⟨⟨t1, t2⟩, ⟨t3, t4⟩, ap, g1, g2, kk⟩ := hT2
          rw [show wrap64 (n + (k : Int)) = wrap64 (n + (k : Int)) from rfl] at t2 t4
          have nof : ∀ {S : Nat → Prop}, ∀ x, (fun _ : Nat => False) x → ¬ S x := fun _ h => h.elim
          have o1 := t1.2.own_lt
          have t1' := t1.kept hkw nof
          have t2' := t2.kept hkw (fun h => h)
          have t3' := t3.kept hkw nof
          have t4' := t4.kept hkw (fun h => h)
          go_wp2_with fail
          refine (written_any _ _ _ _ _ v1 _ _ t1').mono ?_
          rintro e w7 ⟨rfl, k7⟩
          have feet := feet_apart t1' t2' t3' t4' (by omega) (by omega) (by omega) ap
          have r7 : Row u18 (linesTo le ind [] k) w7 := hr.kept k7 (fun g hgg hs => by have := hg g hgg; have := o1 g hs; omega)
          have hst := r7.str
          have s3 := t3'.kept k7 (fun x hx hf => feet x (Or.inr (Or.inr (Or.inr hx))) (Or.inr hf))
          have s2 := t2'.kept k7 (fun hx => t1'.notLvl t2' (Or.inr (Or.inr hx)))
          have s4 := t4'.kept k7 (fun hx => t1'.notLvl t4' (Or.inr (Or.inr hx)))
          have s1 : w7.heap[w.heap.size + 1]? = some (.cells #[.iface 41 (.pointer (some ⟨w.heap.size, 0, none⟩)), nilS, at0, .bool false] 49 (0, 0)) := (k7.block _ (lt_of_heap t1'.1) t1'.neOwn).trans t1'.1
          have n3 : ∀ x, v2.ownBlock = some x → x ≠ w.heap.size + 1 := fun x hx e => Lib.ownBlock_ne s3.2.choose_spec.2.2 s1 (by decide) (e ▸ hx)
          have n4 : ¬ v2.ownBlock = some L1 := fun hx => s3.notLvl s2 (Or.inr (Or.inr hx))
          have n5 : ¬ v2.ownBlock = some L2 := fun hx => s3.notLvl s4 (Or.inr (Or.inr hx))
          clear t1 t2 t3 t4 t1' t2' t3' t4'
          go_wp2_with fail
          refine (written_any _ _ _ _ _ v2 _ _ s3).mono ?_
          rintro e w8 ⟨rfl, k8⟩
          have q2 := s2.kept k8 n4
          have q4 := s4.kept k8 n5
          have q1 : w8.heap[w.heap.size + 1]? = some (.cells #[.iface 41 (.pointer (some ⟨w.heap.size, 0, none⟩)), nilS, at0, .bool false] 49 (0, 0)) := (k8.block _ (lt_of_heap s1) (fun hx => n3 _ hx rfl)).trans s1
          clear s1 s2 s4 n3 n4 n5 hst
          have kfin : Kept (fun _ => False) w w8 := ge_kept (ge_kept (kk.trans hkw (fun _ _ h => h)) g1 k7) g2 k8
          go_wp2_with fail
          refine (levelN_any L1 _ _ _ _ _ q2).mono ?_
          rintro e w9 ⟨rfl, rfl⟩
          go_wp2_with fail
          refine (levelN_any L2 _ _ _ _ _ q4).mono ?_
          rintro e w9 ⟨rfl, rfl⟩
          go_wp2_with fail
          refine (lineEnded_any (w.heap.size + 1) _ _ _ _ _ q1).mono ?_
          rintro e w9 ⟨rfl, rfl⟩
          go_wp2
          go_ret
          exact ⟨rfl, kfin.none_to⟩
set_option maxHeartbeats 4000000 in
set_option maxRecDepth 100000 in
theorem walkB (le im : Bool) (ind : Nat) (pl : Int) (k : Nat) (hp1 : (pl == 1) = false) (hk1 : 1 ≤ k) (hk2 : k ≤ 15) (hind : ind ≤ 65536) (w : World) :
    Calls Try.prog 4 #[.bool le, .bool im, .int .i64 ind, .int .u8 pl, .int .i64 0, .int .i64 k] w fun e w' => e = .returned (.bool true) ∧ Below w.heap.size w w' := by
  obtain ⟨i0, hi, hz⟩ := Option.map_eq_some_iff.1 info5
  simp only [Prod.mk.injEq] at hz
  obtain ⟨hz0, hz1, hz2⟩ := hz
  go_enter Try.func4, Try.ntmps4
  go_wp2_with fail
  refine (newEncoder_any le _).mono ?_
  rintro e w1 ⟨rfl, hE1, k1⟩
  go_wp2_with fail
  refine (newLevel_any im ind pl 0 _).mono ?_
  rintro e w2 ⟨rfl, hL1, k2⟩
  go_wp2_with fail
  refine (newEncoder_any le _).mono ?_
  rintro e w3 ⟨rfl, hE2, k3⟩
  go_wp2_with fail
  refine (newLevel_any (!im) ind pl 0 _).mono ?_
  rintro e w4 ⟨rfl, hL2, k4⟩
  obtain ⟨hT, d1, d2, d3, d4⟩ := Two.start (by omega) (by omega) hE1 k1 hL1 k2 hE2 k3 hL2 k4
  clear hE1 k1 hL1 k2 hE2 k3 hL2 k4
  generalize w1.heap.size = L1 at *
  generalize w2.heap.size = b2 at *
  generalize w3.heap.size = L2 at *
  go_wp2_with fail
  go_loopw [17] (fun t wr => ∃ (i : Nat) (v1 v2 : Value), i ≤ k ∧ t = .int .i64 i ∧ Two w (w.heap.size + 1) w.heap.size L1 (b2 + 1) b2 L2 le im ind pl 0 i i v1 v2 wr) (fun t _ => k - (intOf t).toNat)
  case atStart => exact ⟨0, nilS, nilS, Nat.zero_le _, rfl, hT⟩
  case round =>
    obtain ⟨i, v1, v2, hik, rfl, hT2⟩ := hrel
    by_cases hlt : i < k
    · have hlen := runE_length le ind pl 0 i
      have hmul : i * (ind + 1) ≤ 15 * 65537 := Nat.mul_le_mul (by omega) (by omega)
      go_wp2_with fail
      refine (zzentry_any (w.heap.size + 1) w.heap.size L1 nilS at0 _ im v1 _ ind pl _ _ hT2.1.1 hT2.1.2 hind (by omega)).mono ?_
      rintro e w5 ⟨rfl, v1', e1, e2, e3, e4⟩
      have hT3 := hT2.step1 (by omega) (by omega) (by omega) (by omega) (by omega) (by omega) e1 e2 e3 e4
      clear e1 e2 e3 e4
      go_wp2_with fail
      refine (zzentry_any (b2 + 1) b2 L2 nilS at0 _ (!im) v2 _ ind pl _ _ hT3.2.1.1 hT3.2.1.2 hind (by omega)).mono ?_
      rintro e w6 ⟨rfl, v2', e1, e2, e3, e4⟩
      have hT4 := hT3.step2 (by omega) (by omega) (by omega) (by omega) (by omega) (by omega) e1 e2 e3 e4
      clear e1 e2 e3 e4 hT2 hT3
      go_wp2
      go_roundw
      case rel => exact ⟨i + 1, v1', v2', by omega, by go_num, hT4⟩
      case measure => simp [intOf]; omega
    · have hki : k = i := by omega
      subst hki
      clear hT hlt hik
      have HT : Hid (Two w (w.heap.size + 1) w.heap.size L1 (b2 + 1) b2 L2 le im ind pl 0 (k) (k) v1 v2 wr) := hT2
      clear hT2
      go_wp2_with fail
      obtain ⟨W, rfl⟩ : ∃ W, W = wr := ⟨_, rfl⟩
      go_loopw [18, 20] (fun t j wq => ∃ m : Nat, m ≤ k ∧ j = .int .i64 m ∧ Row t (linesTo le ind [] m) wq ∧ (∀ g, t.ownBlock = some g → W.heap.size ≤ g) ∧ Kept (fun _ => False) W wq) (fun _ j _ => k - (intOf j).toNat)
      case atStart => exact ⟨0, Nat.zero_le _, rfl, Row.nil _, (fun g hg => by cases hg), Kept.refl _ _⟩
      case round =>
        obtain ⟨m, hm, rfl, hr, hg, hkw⟩ := hrel
        have hlen : (linesTo le ind [] m).length ≤ 1 + m * (ind + 1) := Nat.le_trans (linesTo_length le ind [] m) (by simp)
        have hmul : m * (ind + 1) ≤ 15 * 65537 := Nat.mul_le_mul (by omega) (by omega)
        by_cases hlt : m < k
        · rcases Nat.eq_zero_or_pos m with h0 | hpos
          · subst h0
            cases le with
            | false =>
              go_wp2_with (at_builtin; refine wpList_append_own_at _ rfl _ _ 28 rfl 0 5 i0 _ 1 1 Try.underlying28 hi hz0 hz1 hz2 rfl (by decide) u18 (linesTo false ind [] 0).length (Lib.byteCells (linesTo false ind [] 0)) rfl ?own ⟨wr.heap.size, 0, none⟩ 1 1 [.int .u8 10] rfl rfl ?news ?one ?c3 ?c4 ?c5 ?_)
              case own => exact World.ownsRow.alloc hr _
              case news => exact Row.news wr _
              case one => intro u hu; simp at hu; subst hu; rfl
              case c3 => unfold maxLen; omega
              case c4 => omega
              case c5 => exact Nat.zero_le _
              intro v' w7 hown' hgrow _ hat
              obtain ⟨r1, r2, r3⟩ := Row.snoc (c := 10) (l := linesTo false ind [] 0) rfl hown' hgrow hat
              clear hown' hgrow hat
              go_wp2_with fail
              refine (appendBlanks_any v' _ ind _ r1 hind (by simp; omega)).mono ?_
              rintro e w8 ⟨v'', rfl, q1, q2, q3⟩
              rw [← linesTo_brk (Or.inr rfl)] at q1
              go_wp2
              go_roundw
              case rel => exact ⟨0 + 1, by omega, by go_num, q1, own_ge (own_ge hg hkw.size r2) (Nat.le_trans hkw.size r3.size) q2, ge_kept (ge_kept hkw hg r3) (own_ge hg hkw.size r2) q3⟩
              case measure => simp [intOf]; omega

            | true =>
              go_wp2_with fail
              refine (appendBlanks_any u18 _ ind _ hr hind (by omega)).mono ?_
              rintro e w8 ⟨v'', rfl, q1, q2, q3⟩
              rw [← linesTo_not] at q1
              go_wp2
              go_roundw
              case rel => exact ⟨0 + 1, by omega, by go_num, q1, own_ge hg hkw.size q2, ge_kept hkw hg q3⟩
              case measure => simp [intOf]; omega
          · 
            go_wp2_with (at_builtin; refine wpList_append_own_at _ rfl _ _ 28 rfl 0 5 i0 _ 1 1 Try.underlying28 hi hz0 hz1 hz2 rfl (by decide) u18 (linesTo le ind [] m).length (Lib.byteCells (linesTo le ind [] m)) rfl ?own ⟨wr.heap.size, 0, none⟩ 1 1 [.int .u8 10] rfl rfl ?news ?one ?c3 ?c4 ?c5 ?_)
            case own => exact World.ownsRow.alloc hr _
            case news => exact Row.news wr _
            case one => intro u hu; simp at hu; subst hu; rfl
            case c3 => unfold maxLen; omega
            case c4 => omega
            case c5 => exact Nat.zero_le _
            intro v' w7 hown' hgrow _ hat
            obtain ⟨r1, r2, r3⟩ := Row.snoc (c := 10) (l := linesTo le ind [] m) rfl hown' hgrow hat
            clear hown' hgrow hat
            go_wp2_with fail
            refine (appendBlanks_any v' _ ind _ r1 hind (by simp; omega)).mono ?_
            rintro e w8 ⟨v'', rfl, q1, q2, q3⟩
            rw [← linesTo_brk (Or.inl hpos)] at q1
            go_wp2
            go_roundw
            case rel => exact ⟨m + 1, by omega, by go_num, q1, own_ge (own_ge hg hkw.size r2) (Nat.le_trans hkw.size r3.size) q2, ge_kept (ge_kept hkw hg r3) (own_ge hg hkw.size r2) q3⟩
            case measure => simp [intOf]; omega

        · have hmi : k = m := by omega
          subst hmi
          clear hlt hmul hlen hm
          have hT2 := HT.out
          clear HT
          rw [Two, (runE_other le ind pl 0 (by omega) (by omega) (by simp at hp1; omega) k hk2).trans (by rw [if_neg (by omega)])] at hT2
          obtain ⟨⟨t1, t2⟩, ⟨t3, t4⟩, ap, g1, g2, kk⟩ := hT2
          rw [show wrap64 (0 + (k : Int)) = (k : Int) from by unfold wrap64; omega] at t2 t4
          have nof : ∀ {S : Nat → Prop}, ∀ x, (fun _ : Nat => False) x → ¬ S x := fun _ h => h.elim
          have o1 := t1.2.own_lt
          have t1' := t1.kept hkw nof
          have t2' := t2.kept hkw (fun h => h)
          have t3' := t3.kept hkw nof
          have t4' := t4.kept hkw (fun h => h)
          go_wp2_with fail
          refine (written_any _ _ _ _ _ v1 _ _ t1').mono ?_
          rintro e w7 ⟨rfl, k7⟩
          have feet := feet_apart t1' t2' t3' t4' (by omega) (by omega) (by omega) ap
          have r7 : Row u18 (linesTo le ind [] k) w7 := hr.kept k7 (fun g hgg hs => by have := hg g hgg; have := o1 g hs; omega)
          have hst := r7.str
          have s3 := t3'.kept k7 (fun x hx hf => feet x (Or.inr (Or.inr (Or.inr hx))) (Or.inr hf))
          have s2 := t2'.kept k7 (fun hx => t1'.notLvl t2' (Or.inr (Or.inr hx)))
          have s4 := t4'.kept k7 (fun hx => t1'.notLvl t4' (Or.inr (Or.inr hx)))
          have s1 : w7.heap[w.heap.size + 1]? = some (.cells #[.iface 41 (.pointer (some ⟨w.heap.size, 0, none⟩)), nilS, at0, .bool false] 49 (0, 0)) := (k7.block _ (lt_of_heap t1'.1) t1'.neOwn).trans t1'.1
          have n3 : ∀ x, v2.ownBlock = some x → x ≠ w.heap.size + 1 := fun x hx e => Lib.ownBlock_ne s3.2.choose_spec.2.2 s1 (by decide) (e ▸ hx)
          have n4 : ¬ v2.ownBlock = some L1 := fun hx => s3.notLvl s2 (Or.inr (Or.inr hx))
          have n5 : ¬ v2.ownBlock = some L2 := fun hx => s3.notLvl s4 (Or.inr (Or.inr hx))
          clear t1 t2 t3 t4 t1' t2' t3' t4'
          go_wp2_with fail
          refine (written_any _ _ _ _ _ v2 _ _ s3).mono ?_
          rintro e w8 ⟨rfl, k8⟩
          have q2 := s2.kept k8 n4
          have q4 := s4.kept k8 n5
          have q1 : w8.heap[w.heap.size + 1]? = some (.cells #[.iface 41 (.pointer (some ⟨w.heap.size, 0, none⟩)), nilS, at0, .bool false] 49 (0, 0)) := (k8.block _ (lt_of_heap s1) (fun hx => n3 _ hx rfl)).trans s1
          clear s1 s2 s4 n3 n4 n5 hst
          have kfin : Kept (fun _ => False) w w8 := ge_kept (ge_kept (kk.trans hkw (fun _ _ h => h)) g1 k7) g2 k8
          go_wp2_with fail
          refine (levelN_any L1 _ _ _ _ _ q2).mono ?_
          rintro e w9 ⟨rfl, rfl⟩
          go_wp2_with fail
          refine (levelN_any L2 _ _ _ _ _ q4).mono ?_
          rintro e w9 ⟨rfl, rfl⟩
          go_wp2_with fail
          refine (lineEnded_any (w.heap.size + 1) _ _ _ _ _ q1).mono ?_
          rintro e w9 ⟨rfl, rfl⟩
          go_wp2
          go_ret
          exact ⟨rfl, kfin.none_to⟩
set_option maxHeartbeats 4000000 in
set_option maxRecDepth 100000 in
theorem walkC (le im : Bool) (ind : Nat) (r : Nat) (hk1 : 1 ≤ r) (hk2 : r ≤ 14) (hind : ind ≤ 65536) (w : World) :
    Calls Try.prog 4 #[.bool le, .bool im, .int .i64 ind, .int .u8 1, .int .i64 0, .int .i64 (r + 1 : Nat)] w fun e w' => e = .returned (.bool true) ∧ Below w.heap.size w w' := by
  obtain ⟨i0, hi, hz⟩ := Option.map_eq_some_iff.1 info5
  simp only [Prod.mk.injEq] at hz
  obtain ⟨hz0, hz1, hz2⟩ := hz
  go_enter Try.func4, Try.ntmps4
  go_wp2_with fail
  refine (newEncoder_any le _).mono ?_
  rintro e w1 ⟨rfl, hE1, k1⟩
  go_wp2_with fail
  refine (newLevel_any im ind 1 0 _).mono ?_
  rintro e w2 ⟨rfl, hL1, k2⟩
  go_wp2_with fail
  refine (newEncoder_any le _).mono ?_
  rintro e w3 ⟨rfl, hE2, k3⟩
  go_wp2_with fail
  refine (newLevel_any (!im) ind 1 0 _).mono ?_
  rintro e w4 ⟨rfl, hL2, k4⟩
  obtain ⟨hT, d1, d2, d3, d4⟩ := Two.start (by omega) (by omega) hE1 k1 hL1 k2 hE2 k3 hL2 k4
  clear hE1 k1 hL1 k2 hE2 k3 hL2 k4
  generalize w1.heap.size = L1 at *
  generalize w2.heap.size = b2 at *
  generalize w3.heap.size = L2 at *
  go_wp2_with fail
  go_loopw [17] (fun t wr => ∃ (i : Nat) (v1 v2 : Value), i ≤ (r + 1 : Nat) ∧ t = .int .i64 i ∧ Two w (w.heap.size + 1) w.heap.size L1 (b2 + 1) b2 L2 le im ind 1 0 i i v1 v2 wr) (fun t _ => (r + 1 : Nat) - (intOf t).toNat)
  case atStart => exact ⟨0, nilS, nilS, Nat.zero_le _, rfl, hT⟩
  case round =>
    obtain ⟨i, v1, v2, hik, rfl, hT2⟩ := hrel
    by_cases hlt : i < (r + 1 : Nat)
    · have hlen := runE_length le ind 1 0 i
      have hmul : i * (ind + 1) ≤ 15 * 65537 := Nat.mul_le_mul (by omega) (by omega)
      go_wp2_with fail
      refine (zzentry_any (w.heap.size + 1) w.heap.size L1 nilS at0 _ im v1 _ ind 1 _ _ hT2.1.1 hT2.1.2 hind (by omega)).mono ?_
      rintro e w5 ⟨rfl, v1', e1, e2, e3, e4⟩
      have hT3 := hT2.step1 (by omega) (by omega) (by omega) (by omega) (by omega) (by omega) e1 e2 e3 e4
      clear e1 e2 e3 e4
      go_wp2_with fail
      refine (zzentry_any (b2 + 1) b2 L2 nilS at0 _ (!im) v2 _ ind 1 _ _ hT3.2.1.1 hT3.2.1.2 hind (by omega)).mono ?_
      rintro e w6 ⟨rfl, v2', e1, e2, e3, e4⟩
      have hT4 := hT3.step2 (by omega) (by omega) (by omega) (by omega) (by omega) (by omega) e1 e2 e3 e4
      clear e1 e2 e3 e4 hT2 hT3
      go_wp2
      go_roundw
      case rel => exact ⟨i + 1, v1', v2', by omega, by go_num, hT4⟩
      case measure => simp [intOf]; omega
    · have hki : (r + 1 : Nat) = i := by omega
      subst hki
      clear hT hlt hik
      have HT : Hid (Two w (w.heap.size + 1) w.heap.size L1 (b2 + 1) b2 L2 le im ind 1 0 ((r + 1 : Nat)) ((r + 1 : Nat)) v1 v2 wr) := hT2
      clear hT2
      go_wp2_with (at_builtin; refine wpList_append_own_at _ rfl _ _ 28 rfl 0 5 i0 _ 1 1 Try.underlying28 hi hz0 hz1 hz2 rfl (by decide) (.slice none 0 0) 0 [] rfl ?own ⟨wr.heap.size, 0, none⟩ 1 1 [.int .u8 32] rfl rfl ?news ?one ?c3 ?c4 ?c5 ?_)
      case own => exact World.ownsRow_nil _ _ _ _
      case news => exact Row.news wr _
      case one => intro u hu; simp at hu; subst hu; rfl
      case c3 => unfold maxLen; omega
      case c4 => omega
      case c5 => exact Nat.zero_le _
      intro vP wP hownP hgrowP _ hatP
      obtain ⟨p1, p2, p3⟩ := Row.snoc (c := 32) (l := []) rfl hownP hgrowP hatP
      clear hownP hgrowP hatP
      have hgP : ∀ g, vP.ownBlock = some g → wr.heap.size ≤ g := own_ge (v := .slice none 0 0) (fun g hg => by cases hg) (Nat.le_refl _) p2
      have hkP : Kept (fun _ => False) wr wP := p3.mono (fun x _ hx => by cases hx)
      go_wp2_with fail
      obtain ⟨W, rfl⟩ : ∃ W, W = wr := ⟨_, rfl⟩
      go_loopw [18, 20] (fun t j wq => ∃ m : Nat, m ≤ r ∧ j = .int .i64 m ∧ Row t (linesTo le ind [32] m) wq ∧ (∀ g, t.ownBlock = some g → W.heap.size ≤ g) ∧ Kept (fun _ => False) W wq) (fun _ j _ => r - (intOf j).toNat)
      case atStart => exact ⟨0, Nat.zero_le _, rfl, p1, hgP, hkP⟩
      case round =>
        obtain ⟨m, hm, rfl, hr, hg, hkw⟩ := hrel
        have hlen : (linesTo le ind [32] m).length ≤ 1 + m * (ind + 1) := Nat.le_trans (linesTo_length le ind [32] m) (by simp)
        have hmul : m * (ind + 1) ≤ 15 * 65537 := Nat.mul_le_mul (by omega) (by omega)
        by_cases hlt : m < r
        · rcases Nat.eq_zero_or_pos m with h0 | hpos
          · subst h0
            cases le with
            | false =>
              go_wp2_with (at_builtin; refine wpList_append_own_at _ rfl _ _ 28 rfl 0 5 i0 _ 1 1 Try.underlying28 hi hz0 hz1 hz2 rfl (by decide) u18 (linesTo false ind [32] 0).length (Lib.byteCells (linesTo false ind [32] 0)) rfl ?own ⟨wr.heap.size, 0, none⟩ 1 1 [.int .u8 10] rfl rfl ?news ?one ?c3 ?c4 ?c5 ?_)
              case own => exact World.ownsRow.alloc hr _
              case news => exact Row.news wr _
              case one => intro u hu; simp at hu; subst hu; rfl
              case c3 => unfold maxLen; omega
              case c4 => omega
              case c5 => exact Nat.zero_le _
              intro v' w7 hown' hgrow _ hat
              obtain ⟨r1, r2, r3⟩ := Row.snoc (c := 10) (l := linesTo false ind [32] 0) rfl hown' hgrow hat
              clear hown' hgrow hat
              go_wp2_with fail
              refine (appendBlanks_any v' _ ind _ r1 hind (by simp; omega)).mono ?_
              rintro e w8 ⟨v'', rfl, q1, q2, q3⟩
              rw [← linesTo_brk (Or.inr rfl)] at q1
              go_wp2
              go_roundw
              case rel => exact ⟨0 + 1, by omega, by go_num, q1, own_ge (own_ge hg hkw.size r2) (Nat.le_trans hkw.size r3.size) q2, ge_kept (ge_kept hkw hg r3) (own_ge hg hkw.size r2) q3⟩
              case measure => simp [intOf]; omega

            | true =>
              go_wp2_with fail
              refine (appendBlanks_any u18 _ ind _ hr hind (by omega)).mono ?_
              rintro e w8 ⟨v'', rfl, q1, q2, q3⟩
              rw [← linesTo_not] at q1
              go_wp2
              go_roundw
              case rel => exact ⟨0 + 1, by omega, by go_num, q1, own_ge hg hkw.size q2, ge_kept hkw hg q3⟩
              case measure => simp [intOf]; omega
          · 
            go_wp2_with (at_builtin; refine wpList_append_own_at _ rfl _ _ 28 rfl 0 5 i0 _ 1 1 Try.underlying28 hi hz0 hz1 hz2 rfl (by decide) u18 (linesTo le ind [32] m).length (Lib.byteCells (linesTo le ind [32] m)) rfl ?own ⟨wr.heap.size, 0, none⟩ 1 1 [.int .u8 10] rfl rfl ?news ?one ?c3 ?c4 ?c5 ?_)
            case own => exact World.ownsRow.alloc hr _
            case news => exact Row.news wr _
            case one => intro u hu; simp at hu; subst hu; rfl
            case c3 => unfold maxLen; omega
            case c4 => omega
            case c5 => exact Nat.zero_le _
            intro v' w7 hown' hgrow _ hat
            obtain ⟨r1, r2, r3⟩ := Row.snoc (c := 10) (l := linesTo le ind [32] m) rfl hown' hgrow hat
            clear hown' hgrow hat
            go_wp2_with fail
            refine (appendBlanks_any v' _ ind _ r1 hind (by simp; omega)).mono ?_
            rintro e w8 ⟨v'', rfl, q1, q2, q3⟩
            rw [← linesTo_brk (Or.inl hpos)] at q1
            go_wp2
            go_roundw
            case rel => exact ⟨m + 1, by omega, by go_num, q1, own_ge (own_ge hg hkw.size r2) (Nat.le_trans hkw.size r3.size) q2, ge_kept (ge_kept hkw hg r3) (own_ge hg hkw.size r2) q3⟩
            case measure => simp [intOf]; omega

        · have hmi : r = m := by omega
          subst hmi
          clear hlt hmul hlen hm
          have hT2 := HT.out
          clear HT
          rw [Two, (runE_first le ind r hk2).trans (by rw [if_neg (by omega)])] at hT2
          obtain ⟨⟨t1, t2⟩, ⟨t3, t4⟩, ap, g1, g2, kk⟩ := hT2
          rw [show wrap64 (0 + ((r + 1 : Nat) : Int)) = (r : Int) + 1 from by unfold wrap64; omega] at t2 t4
          have nof : ∀ {S : Nat → Prop}, ∀ x, (fun _ : Nat => False) x → ¬ S x := fun _ h => h.elim
          have o1 := t1.2.own_lt
          have t1' := t1.kept hkw nof
          have t2' := t2.kept hkw (fun h => h)
          have t3' := t3.kept hkw nof
          have t4' := t4.kept hkw (fun h => h)
          go_wp2_with fail
          refine (written_any _ _ _ _ _ v1 _ _ t1').mono ?_
          rintro e w7 ⟨rfl, k7⟩
          have feet := feet_apart t1' t2' t3' t4' (by omega) (by omega) (by omega) ap
          have r7 : Row u18 (linesTo le ind [32] r) w7 := hr.kept k7 (fun g hgg hs => by have := hg g hgg; have := o1 g hs; omega)
          have hst := r7.str
          have s3 := t3'.kept k7 (fun x hx hf => feet x (Or.inr (Or.inr (Or.inr hx))) (Or.inr hf))
          have s2 := t2'.kept k7 (fun hx => t1'.notLvl t2' (Or.inr (Or.inr hx)))
          have s4 := t4'.kept k7 (fun hx => t1'.notLvl t4' (Or.inr (Or.inr hx)))
          have s1 : w7.heap[w.heap.size + 1]? = some (.cells #[.iface 41 (.pointer (some ⟨w.heap.size, 0, none⟩)), nilS, at0, .bool false] 49 (0, 0)) := (k7.block _ (lt_of_heap t1'.1) t1'.neOwn).trans t1'.1
          have n3 : ∀ x, v2.ownBlock = some x → x ≠ w.heap.size + 1 := fun x hx e => Lib.ownBlock_ne s3.2.choose_spec.2.2 s1 (by decide) (e ▸ hx)
          have n4 : ¬ v2.ownBlock = some L1 := fun hx => s3.notLvl s2 (Or.inr (Or.inr hx))
          have n5 : ¬ v2.ownBlock = some L2 := fun hx => s3.notLvl s4 (Or.inr (Or.inr hx))
          clear t1 t2 t3 t4 t1' t2' t3' t4'
          go_wp2_with fail
          refine (written_any _ _ _ _ _ v2 _ _ s3).mono ?_
          rintro e w8 ⟨rfl, k8⟩
          have q2 := s2.kept k8 n4
          have q4 := s4.kept k8 n5
          have q1 : w8.heap[w.heap.size + 1]? = some (.cells #[.iface 41 (.pointer (some ⟨w.heap.size, 0, none⟩)), nilS, at0, .bool false] 49 (0, 0)) := (k8.block _ (lt_of_heap s1) (fun hx => n3 _ hx rfl)).trans s1
          clear s1 s2 s4 n3 n4 n5 hst
          have kfin : Kept (fun _ => False) w w8 := ge_kept (ge_kept (kk.trans hkw (fun _ _ h => h)) g1 k7) g2 k8
          go_wp2_with fail
          refine (levelN_any L1 _ _ _ _ _ q2).mono ?_
          rintro e w9 ⟨rfl, rfl⟩
          go_wp2_with fail
          refine (levelN_any L2 _ _ _ _ _ q4).mono ?_
          rintro e w9 ⟨rfl, rfl⟩
          go_wp2_with fail
          refine (lineEnded_any (w.heap.size + 1) _ _ _ _ _ q1).mono ?_
          rintro e w9 ⟨rfl, rfl⟩
          go_wp2
          go_ret
          exact ⟨rfl, kfin.none_to⟩
set_option maxHeartbeats 4000000 in
set_option maxRecDepth 100000 in
theorem walkD (le im : Bool) (ind : Nat)  (hind : ind ≤ 65536) (w : World) :
    Calls Try.prog 4 #[.bool le, .bool im, .int .i64 ind, .int .u8 1, .int .i64 0, .int .i64 (1 : Nat)] w fun e w' => e = .returned (.bool true) ∧ Below w.heap.size w w' := by
  obtain ⟨i0, hi, hz⟩ := Option.map_eq_some_iff.1 info5
  simp only [Prod.mk.injEq] at hz
  obtain ⟨hz0, hz1, hz2⟩ := hz
  go_enter Try.func4, Try.ntmps4
  go_wp2_with fail
  refine (newEncoder_any le _).mono ?_
  rintro e w1 ⟨rfl, hE1, k1⟩
  go_wp2_with fail
  refine (newLevel_any im ind 1 0 _).mono ?_
  rintro e w2 ⟨rfl, hL1, k2⟩
  go_wp2_with fail
  refine (newEncoder_any le _).mono ?_
  rintro e w3 ⟨rfl, hE2, k3⟩
  go_wp2_with fail
  refine (newLevel_any (!im) ind 1 0 _).mono ?_
  rintro e w4 ⟨rfl, hL2, k4⟩
  obtain ⟨hT, d1, d2, d3, d4⟩ := Two.start (by omega) (by omega) hE1 k1 hL1 k2 hE2 k3 hL2 k4
  clear hE1 k1 hL1 k2 hE2 k3 hL2 k4
  generalize w1.heap.size = L1 at *
  generalize w2.heap.size = b2 at *
  generalize w3.heap.size = L2 at *
  go_wp2_with fail
  go_loopw [17] (fun t wr => ∃ (i : Nat) (v1 v2 : Value), i ≤ (1 : Nat) ∧ t = .int .i64 i ∧ Two w (w.heap.size + 1) w.heap.size L1 (b2 + 1) b2 L2 le im ind 1 0 i i v1 v2 wr) (fun t _ => (1 : Nat) - (intOf t).toNat)
  case atStart => exact ⟨0, nilS, nilS, Nat.zero_le _, rfl, hT⟩
  case round =>
    obtain ⟨i, v1, v2, hik, rfl, hT2⟩ := hrel
    by_cases hlt : i < (1 : Nat)
    · have hlen := runE_length le ind 1 0 i
      have hmul : i * (ind + 1) ≤ 15 * 65537 := Nat.mul_le_mul (by omega) (by omega)
      go_wp2_with fail
      refine (zzentry_any (w.heap.size + 1) w.heap.size L1 nilS at0 _ im v1 _ ind 1 _ _ hT2.1.1 hT2.1.2 hind (by omega)).mono ?_
      rintro e w5 ⟨rfl, v1', e1, e2, e3, e4⟩
      have hT3 := hT2.step1 (by omega) (by omega) (by omega) (by omega) (by omega) (by omega) e1 e2 e3 e4
      clear e1 e2 e3 e4
      go_wp2_with fail
      refine (zzentry_any (b2 + 1) b2 L2 nilS at0 _ (!im) v2 _ ind 1 _ _ hT3.2.1.1 hT3.2.1.2 hind (by omega)).mono ?_
      rintro e w6 ⟨rfl, v2', e1, e2, e3, e4⟩
      have hT4 := hT3.step2 (by omega) (by omega) (by omega) (by omega) (by omega) (by omega) e1 e2 e3 e4
      clear e1 e2 e3 e4 hT2 hT3
      go_wp2
      go_roundw
      case rel => exact ⟨i + 1, v1', v2', by omega, by go_num, hT4⟩
      case measure => simp [intOf]; omega
    · have hki : (1 : Nat) = i := by omega
      subst hki
      clear hT hlt hik
      have HT : Hid (Two w (w.heap.size + 1) w.heap.size L1 (b2 + 1) b2 L2 le im ind 1 0 ((1 : Nat)) ((1 : Nat)) v1 v2 wr) := hT2
      clear hT2
      go_wp2_with (at_builtin; refine wpList_append_own_at _ rfl _ _ 28 rfl 0 5 i0 _ 1 1 Try.underlying28 hi hz0 hz1 hz2 rfl (by decide) (.slice none 0 0) 0 [] rfl ?own ⟨wr.heap.size, 0, none⟩ 1 1 [.int .u8 32] rfl rfl ?news ?one ?c3 ?c4 ?c5 ?_)
      case own => exact World.ownsRow_nil _ _ _ _
      case news => exact Row.news wr _
      case one => intro u hu; simp at hu; subst hu; rfl
      case c3 => unfold maxLen; omega
      case c4 => omega
      case c5 => exact Nat.zero_le _
      intro vP wP hownP hgrowP _ hatP
      obtain ⟨p1, p2, p3⟩ := Row.snoc (c := 32) (l := []) rfl hownP hgrowP hatP
      clear hownP hgrowP hatP
      have hgP : ∀ g, vP.ownBlock = some g → wr.heap.size ≤ g := own_ge (v := .slice none 0 0) (fun g hg => by cases hg) (Nat.le_refl _) p2
      have hkP : Kept (fun _ => False) wr wP := p3.mono (fun x _ hx => by cases hx)
      go_wp2_with fail
      obtain ⟨W, rfl⟩ : ∃ W, W = wr := ⟨_, rfl⟩
      go_loopw [18, 20] (fun t j wq => ∃ m : Nat, m ≤ 0 ∧ j = .int .i64 m ∧ Row t (linesTo le ind [32] m) wq ∧ (∀ g, t.ownBlock = some g → W.heap.size ≤ g) ∧ Kept (fun _ => False) W wq) (fun _ j _ => 0 - (intOf j).toNat)
      case atStart => exact ⟨0, Nat.zero_le _, rfl, p1, hgP, hkP⟩
      case round =>
        obtain ⟨m, hm, rfl, hr, hg, hkw⟩ := hrel
        have hlen : (linesTo le ind [32] m).length ≤ 1 + m * (ind + 1) := Nat.le_trans (linesTo_length le ind [32] m) (by simp)
        have hmul : m * (ind + 1) ≤ 15 * 65537 := Nat.mul_le_mul (by omega) (by omega)
        by_cases hlt : m < 0
        · omega
        · have hmi : 0 = m := by omega
          subst hmi
          clear hlt hmul hlen hm
          have hT2 := HT.out
          clear HT
          rw [Two, (runE_first le ind 0 (by omega)).trans (by rw [if_pos rfl])] at hT2
          obtain ⟨⟨t1, t2⟩, ⟨t3, t4⟩, ap, g1, g2, kk⟩ := hT2
          rw [show wrap64 (0 + ((1 : Nat) : Int)) = 1 from by unfold wrap64; omega] at t2 t4
          have nof : ∀ {S : Nat → Prop}, ∀ x, (fun _ : Nat => False) x → ¬ S x := fun _ h => h.elim
          have o1 := t1.2.own_lt
          have t1' := t1.kept hkw nof
          have t2' := t2.kept hkw (fun h => h)
          have t3' := t3.kept hkw nof
          have t4' := t4.kept hkw (fun h => h)
          go_wp2_with fail
          refine (written_any _ _ _ _ _ v1 _ _ t1').mono ?_
          rintro e w7 ⟨rfl, k7⟩
          have feet := feet_apart t1' t2' t3' t4' (by omega) (by omega) (by omega) ap
          have r7 : Row u18 (linesTo le ind [32] 0) w7 := hr.kept k7 (fun g hgg hs => by have := hg g hgg; have := o1 g hs; omega)
          have hst := r7.str
          have s3 := t3'.kept k7 (fun x hx hf => feet x (Or.inr (Or.inr (Or.inr hx))) (Or.inr hf))
          have s2 := t2'.kept k7 (fun hx => t1'.notLvl t2' (Or.inr (Or.inr hx)))
          have s4 := t4'.kept k7 (fun hx => t1'.notLvl t4' (Or.inr (Or.inr hx)))
          have s1 : w7.heap[w.heap.size + 1]? = some (.cells #[.iface 41 (.pointer (some ⟨w.heap.size, 0, none⟩)), nilS, at0, .bool le] 49 (0, 0)) := (k7.block _ (lt_of_heap t1'.1) t1'.neOwn).trans t1'.1
          have n3 : ∀ x, v2.ownBlock = some x → x ≠ w.heap.size + 1 := fun x hx e => Lib.ownBlock_ne s3.2.choose_spec.2.2 s1 (by decide) (e ▸ hx)
          have n4 : ¬ v2.ownBlock = some L1 := fun hx => s3.notLvl s2 (Or.inr (Or.inr hx))
          have n5 : ¬ v2.ownBlock = some L2 := fun hx => s3.notLvl s4 (Or.inr (Or.inr hx))
          clear t1 t2 t3 t4 t1' t2' t3' t4'
          go_wp2_with fail
          refine (written_any _ _ _ _ _ v2 _ _ s3).mono ?_
          rintro e w8 ⟨rfl, k8⟩
          have q2 := s2.kept k8 n4
          have q4 := s4.kept k8 n5
          have q1 : w8.heap[w.heap.size + 1]? = some (.cells #[.iface 41 (.pointer (some ⟨w.heap.size, 0, none⟩)), nilS, at0, .bool le] 49 (0, 0)) := (k8.block _ (lt_of_heap s1) (fun hx => n3 _ hx rfl)).trans s1
          clear s1 s2 s4 n3 n4 n5 hst
          have kfin : Kept (fun _ => False) w w8 := ge_kept (ge_kept (kk.trans hkw (fun _ _ h => h)) g1 k7) g2 k8
          go_wp2_with fail
          refine (levelN_any L1 _ _ _ _ _ q2).mono ?_
          rintro e w9 ⟨rfl, rfl⟩
          go_wp2_with fail
          refine (levelN_any L2 _ _ _ _ _ q4).mono ?_
          rintro e w9 ⟨rfl, rfl⟩
          go_wp2_with fail
          refine (lineEnded_any (w.heap.size + 1) _ _ _ _ _ q1).mono ?_
          rintro e w9 ⟨rfl, rfl⟩
          go_wp2
          go_ret
          exact ⟨rfl, kfin.none_to⟩

end Go.Proofs.Qxb6614816a
