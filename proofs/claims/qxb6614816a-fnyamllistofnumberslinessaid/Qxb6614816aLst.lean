import Derived.Test.Qxb6614816aNum
import Derived.Test.Qxb6614816aEntWalk
namespace Go.Proofs.Qxb6614816a
open Go.RowKit

/-- a slice of len strings; string i is tx i. -/
def Texts (w : World) (ao : Option Addr) (len : Nat) (tx : Nat → ByteArray) : Prop :=
  0 < len → ∃ b off, ao = some ⟨b, off, none⟩ ∧ b < w.heap.size ∧ ∀ i, i < len → w.cell? ⟨b, off + i, none⟩ = some (.string (tx i))

/-- the first m texts are short. -/
def Short (tx : Nat → ByteArray) (m : Nat) : Prop := ∀ i, i < m → (tx i).size ≤ 1048576

theorem Short.snoc {tx : Nat → ByteArray} {m : Nat} (h : Short tx m) (h1 : (tx m).size ≤ 1048576) : Short tx (m + 1) := by
  intro i hi
  rcases Nat.lt_succ_iff_lt_or_eq.1 hi with h' | h'
  · exact h i h'
  · subst h'; exact h1

/-- what the bound on lengths answers. -/
def BytesPost (w : World) (len : Nat) (tx : Nat → ByteArray) (e : Ending) (w' : World) : Prop := ∃ r, e = .returned (.bool r) ∧ w' = w ∧ (r = true → len ≤ 1048576 ∧ Short tx len)

set_option maxHeartbeats 1000000 in
set_option maxRecDepth 100000 in
theorem zzBytes_any (le : Bool) (ind pl n : Int) (ao : Option Addr) (len cap : Nat) (tx : Nat → ByteArray) (w : World) (ht : Texts w ao len tx) (hcap : len ≤ 9223372036854775807) (htx : ∀ i, i < len → (tx i).size ≤ maxLen) :
    Calls Try.prog 15 #[.bool le, .int .i64 ind, .int .u8 pl, .int .i64 n, .slice ao len cap] w (BytesPost w len tx) := by
  by_cases h1 : 1048576 < len
  · go_enter Try.func15, Try.ntmps15
    go_wp2
    go_ret
    exact ⟨false, rfl, rfl, by simp⟩
  · go_enter Try.func15, Try.ntmps15
    go_wp2
    go_loop [11, 12] (fun z i => ∃ (k m : Nat), k ≤ len ∧ m ≤ 1048576 ∧ i = .int .i64 k ∧ z = .int .i64 m ∧ Short tx k) (fun _ i => len - (intOf i).toNat)
    case atStart => exact ⟨0, len, Nat.zero_le _, by omega, rfl, rfl, fun i hi => by omega⟩
    case round =>
      obtain ⟨k, m, hk, hm, rfl, rfl, hsh⟩ := hrel
      by_cases hlt : k < len
      · obtain ⟨b, off, rfl, hb, hc⟩ := ht (by omega)
        have hck := hc k hlt
        have hmx := htx k hlt
        unfold maxLen at hmx
        clear hc htx
        by_cases h2 : 1048576 < (tx k).size
        · go_wp2
          go_ret
          exact ⟨false, rfl, rfl, by simp⟩
        · by_cases h3 : 1048576 < m + (tx k).size
          · go_wp2
            go_ret
            exact ⟨false, rfl, rfl, by simp⟩
          · go_wp2
            go_round
            case rel => exact ⟨k + 1, m + (tx k).size, by omega, by omega, by go_num, by go_num, hsh.snoc (by omega)⟩
            case measure => simp [intOf]; omega
      · have hkl : len = k := by omega
        subst hkl
        go_wp2
        go_ret
        exact ⟨true, rfl, rfl, fun _ => ⟨by omega, hsh⟩⟩


/-- the text behind i numbers. -/
def numRun (le : Bool) (ind : Nat) (pl n : Int) (tx : Nat → ByteArray) : Nat → List UInt8
  | 0 => []
  | i + 1 => numText (if i = 0 then le else true) (numRun le ind pl n tx i) ind pl (wrap64 (n + i)) (tx i)

theorem wrap_ne2 (n : Int) (i : Nat) (h0 : 0 ≤ n) (h1 : n ≤ 9223372036854775807) (hi : i ≤ 1048576) (h : n ≠ 0 ∨ i ≠ 0) : wrap64 (n + i) ≠ 0 := by
  unfold wrap64; omega

theorem numRun_first (le : Bool) (ind : Nat) (tx : Nat → ByteArray) : numRun le ind 1 0 tx (0 + 1) = numRun le ind 1 0 tx 0 ++ [32] ++ [45] ++ [32] ++ (tx 0).data.toList ++ [10] := by
  simp [numRun, numText, entryText, wrap64]

theorem numRun_line (le : Bool) (ind : Nat) (pl n : Int) (tx : Nat → ByteArray) (i : Nat) (h0 : 0 ≤ n) (h1 : n ≤ 9223372036854775807) (hi : i ≤ 1048576) (hc : ¬ (i = 0 ∧ n = 0 ∧ pl = 1)) (hle : i ≠ 0 ∨ le = true) :
    numRun le ind pl n tx (i + 1) = numRun le ind pl n tx i ++ List.replicate ind 32 ++ [45] ++ [32] ++ (tx i).data.toList ++ [10] := by
  have hf : ¬ (wrap64 (n + i) = 0 ∧ pl = 1) := by
    rintro ⟨a, b⟩
    by_cases hz : i = 0
    · by_cases hn : n = 0
      · exact hc ⟨hz, hn, b⟩
      · exact wrap_ne2 n i h0 h1 hi (Or.inl hn) a
    · exact wrap_ne2 n i h0 h1 hi (Or.inr hz) a
  have hl : (if i = 0 then le else true) = true := by
    rcases hle with h | h <;> simp [h]
  rw [numRun, hl]
  unfold numText entryText
  rw [if_neg hf]
  simp [ended]

theorem numRun_brk (ind : Nat) (pl n : Int) (tx : Nat → ByteArray) (h0 : 0 ≤ n) (h1 : n ≤ 9223372036854775807) (hc : ¬ (n = 0 ∧ pl = 1)) :
    numRun false ind pl n tx (0 + 1) = numRun false ind pl n tx 0 ++ [10] ++ List.replicate ind 32 ++ [45] ++ [32] ++ (tx 0).data.toList ++ [10] := by
  have hf : ¬ (wrap64 (n + (0 : Nat)) = 0 ∧ pl = 1) := by
    rintro ⟨a, b⟩
    by_cases hn : n = 0
    · exact hc ⟨hn, b⟩
    · exact wrap_ne2 n 0 h0 h1 (by omega) (Or.inl hn) a
  show numText false [] ind pl (wrap64 (n + (0 : Nat))) (tx 0) = _
  unfold numText entryText
  rw [if_neg hf]
  simp [ended, numRun]

theorem numRun_length (le : Bool) (ind : Nat) (pl n : Int) (tx : Nat → ByteArray) (hind : ind ≤ 65536) : ∀ i, Short tx i → (numRun le ind pl n tx i).length ≤ i * 2097152 := by
  intro i
  induction i with
  | zero => intro _; simp [numRun]
  | succ i ih =>
    intro hs
    have h1 := ih (fun j hj => hs j (by omega))
    have h2 := hs i (by omega)
    have h3 := entryText_length (if i = 0 then le else true) (numRun le ind pl n tx i) ind pl (wrap64 (n + i))
    have h4 : (tx i).data.toList.length = (tx i).size := rfl
    simp only [numRun, numText, List.length_append, List.length_cons, List.length_nil, h4, Nat.succ_mul]
    omega

set_option maxHeartbeats 2000000 in
set_option maxRecDepth 100000 in
theorem lst_early (le : Bool) (ind pl n : Int) (ao : Option Addr) (len cap : Nat) (tx : Nat → ByteArray) (w : World) (ht : Texts w ao len tx) (hcap : len ≤ 9223372036854775807) (htx : ∀ i, i < len → (tx i).size ≤ maxLen)
    (hbad : ind < 0 ∨ 65536 < ind ∨ (0 ≤ ind ∧ ind ≤ 65536 ∧ n < 0)) :
    Calls Try.prog 5 #[.bool le, .int .i64 ind, .int .u8 pl, .int .i64 n, .slice ao len cap] w fun e w' => e = .returned (.bool true) ∧ Below w.heap.size w w' := by
  have HT : Hid (∀ i, i < len → (tx i).size ≤ maxLen) := htx
  clear htx
  rcases hbad with hb | hb | ⟨hb0, hb, hbn⟩
  all_goals
    go_enter Try.func5, Try.ntmps5
    go_wp2_with fail
    refine (zzBytes_any le ind pl n ao len cap tx _ ht hcap HT.out).mono ?_
    rintro e w1 ⟨r, rfl, rfl, hr⟩
    cases r
    · go_wp2
      go_ret
      exact ⟨rfl, Below.refl _ _⟩
    · obtain ⟨hlen, hsh⟩ := hr rfl
      clear hr
      go_wp2
      go_loop [11, 12] (fun z i => ∃ (k m : Nat), k ≤ len ∧ m ≤ 1048576 ∧ i = .int .i64 k ∧ z = .int .i64 m) (fun _ i => len - (intOf i).toNat)
      case atStart => exact ⟨0, 0, Nat.zero_le _, by omega, rfl, rfl⟩
      case round =>
        obtain ⟨k, m, hk, hm, rfl, rfl⟩ := hrel
        by_cases hlt : k < len
        · obtain ⟨b, off, rfl, hbb, hc⟩ := ht (by omega)
          have hck := hc k hlt
          have hmx := hsh k hlt
          clear hc
          by_cases h3 : 1048576 < m + (16 + (tx k).size)
          · go_wp2
            go_ret
            exact ⟨rfl, Below.refl _ _⟩
          · go_wp2
            go_round
            case rel => exact ⟨k + 1, m + (16 + (tx k).size), by omega, by omega, by go_num, by go_num⟩
            case measure => simp [intOf]; omega
        · go_wp2
          go_ret
          exact ⟨rfl, Below.refl _ _⟩


/-- what lies in memory while the numbers are written. -/
def One (w0 : World) (E b L : Nat) (le : Bool) (ind : Nat) (pl n : Int) (tx : Nat → ByteArray) (i : Nat) (v : Value) (wr : World) : Prop :=
  Enc E b (oneOpen L) at0 (if i = 0 then le else true) v (numRun le ind pl n tx i) wr ∧ Lvl L false ind pl (wrap64 (n + i)) wr ∧ (∀ g, v.ownBlock = some g → w0.heap.size ≤ g) ∧ Kept (fun _ => False) w0 wr

theorem One.step {w0 : World} {E b L : Nat} {le : Bool} {ind : Nat} {pl n : Int} {tx : Nat → ByteArray} {i : Nat} {v v' : Value} {wr w' : World} (h : One w0 E b L le ind pl n tx i v wr)
    (hE : w0.heap.size ≤ E) (hb : w0.heap.size ≤ b) (hL : w0.heap.size ≤ L)
    (he : Enc E b (oneOpen L) at0 true v' (numText (if i = 0 then le else true) (numRun le ind pl n tx i) ind pl (wrap64 (n + i)) (tx i)) w') (hl : Lvl L false ind pl (wrap64 (wrap64 (n + i) + 1)) w')
    (hm : Moved wr v v') (hk : Kept (FootL E b L v) wr w') : One w0 E b L le ind pl n tx (i + 1) v' w' := by
  obtain ⟨_, _, g, kk⟩ := h
  refine ⟨by simpa [numRun] using he, by rw [wrap_step] at hl; exact hl, own_ge g kk.size hm, kk.trans hk ?_⟩
  rintro x hx (rfl | rfl | rfl | hx')
  · omega
  · omega
  · omega
  · have := g x hx'; omega

theorem numRun_bound (le : Bool) (ind : Nat) (pl n : Int) (tx : Nat → ByteArray) (hind : ind ≤ 65536) (i : Nat) (hi : i ≤ 1048576) (hs : Short tx i) : (numRun le ind pl n tx i).length ≤ 2199023255552 := by
  have := numRun_length le ind pl n tx hind i hs
  omega

theorem packT {P : List UInt8 → Prop} {x : List UInt8} (h : P x) : ∃ T, Hid (T = x) ∧ P T := ⟨x, rfl, h⟩

theorem cell_kept {w0 wr : World} {p : Addr} {x : Value} (k : Kept (fun _ => False) w0 wr) (hb : p.block < w0.heap.size) (h : w0.cell? p = some x) : wr.cell? p = some x :=
  (World.cell?_of_block (w := w0) (k.block p.block hb (fun h => h))).trans h

theorem Row.snoc2 {v v' : Value} {l : List UInt8} {c d : UInt8} {w w2 : World} {o : Obj} {m : Nat} (hm : m = l.length + 2) (hown' : w2.ownsRow 0 5 1 v' m (Lib.byteCells l ++ [.int .u8 c.toNat, .int .u8 d.toNat]))
    (hgrow : (w.alloc o).grownBy w2 v.ownBlock) (hat : v'.ownBlock = v.ownBlock ∨ v'.ownBlock = some (w.heap.size + 1)) : Row v' (l ++ [c] ++ [d]) w2 ∧ Moved w v v' ∧ Kept (fun k => v.ownBlock = some k) w w2 := by
  refine ⟨?_, ?_, (Kept.alloc w o _).trans (Kept.grown hgrow) (fun _ _ h => h)⟩
  · unfold Row; rw [byteCells_snoc, byteCells_snoc]; subst hm; simpa using hown'
  · rcases hat with h | h
    · exact Or.inl h
    · exact Or.inr ⟨_, h, by omega⟩

theorem Row.snocs {v v' : Value} {l : List UInt8} {s : ByteArray} {w w2 : World} {m : Nat} (hm : m = l.length + s.size) (hown' : w2.ownsRow 0 5 1 v' m (Lib.byteCells l ++ Lib.strCells s))
    (hgrow : w.grownBy w2 v.ownBlock) (hat : v'.ownBlock = v.ownBlock ∨ v'.ownBlock = some w.heap.size) : Row v' (l ++ s.data.toList) w2 ∧ Moved w v v' ∧ Kept (fun k => v.ownBlock = some k) w w2 := by
  refine ⟨?_, ?_, Kept.grown hgrow⟩
  · unfold Row; rw [byteCells_app]; subst hm
    have e : (l ++ s.data.toList).length = l.length + s.size := by rw [List.length_append]; rfl
    rw [e]; exact hown'
  · rcases hat with h | h
    · exact Or.inl h
    · exact Or.inr ⟨_, h, Nat.le_refl _⟩

theorem Row.news2 (w : World) (x y : Value) : ∀ j u, [x, y][j]? = some u → (w.alloc (.cells #[x, y] 5)).cell? ((⟨w.heap.size, 0, none⟩ : Addr).add j) = some u := by
  intro j u hj
  match j, hj with
  | 0, hj => simp at hj; subst hj; simp [Addr.add]
  | 1, hj => simp at hj; subst hj; simp [Addr.add]

set_option maxHeartbeats 8000000 in
set_option maxRecDepth 100000 in
theorem lst_main (le : Bool) (ind : Nat) (pl n : Int) (ao : Option Addr) (len cap : Nat) (tx : Nat → ByteArray) (w : World) (ht : Texts w ao len tx) (hcap : len ≤ 9223372036854775807) (htx : ∀ i, i < len → (tx i).size ≤ maxLen)
    (hind : ind ≤ 65536) (hn0 : 0 ≤ n) (hn1 : n ≤ 9223372036854775807) :
    Calls Try.prog 5 #[.bool le, .int .i64 ind, .int .u8 pl, .int .i64 n, .slice ao len cap] w fun e w' => e = .returned (.bool true) ∧ Below w.heap.size w w' := by
  obtain ⟨i0, hi, hz⟩ := Option.map_eq_some_iff.1 info5
  simp only [Prod.mk.injEq] at hz
  obtain ⟨hz0, hz1, hz2⟩ := hz
  have HT : Hid (∀ i, i < len → (tx i).size ≤ maxLen) := htx
  clear htx
  go_enter Try.func5, Try.ntmps5
  go_wp2_with fail
  refine (zzBytes_any le ind pl n ao len cap tx _ ht hcap HT.out).mono ?_
  rintro e w0 ⟨r, rfl, rfl, hr⟩
  cases r
  · go_wp2
    go_ret
    exact ⟨rfl, Below.refl _ _⟩
  · obtain ⟨hlen, hsh⟩ := hr rfl
    clear hr
    go_wp2
    go_loop [11, 12] (fun z i => ∃ (k m : Nat), k ≤ len ∧ m ≤ 1048576 ∧ i = .int .i64 k ∧ z = .int .i64 m) (fun _ i => len - (intOf i).toNat)
    case atStart => exact ⟨0, 0, Nat.zero_le _, by omega, rfl, rfl⟩
    case round =>
      obtain ⟨k, m, hk, hm, rfl, rfl⟩ := hrel
      by_cases hlt : k < len
      · obtain ⟨b, off, rfl, hbb, hc⟩ := ht (by omega)
        have hck := hc k hlt
        have hmx := hsh k hlt
        clear hc
        by_cases h3 : 1048576 < m + (16 + (tx k).size)
        · go_wp2
          go_ret
          exact ⟨rfl, Below.refl _ _⟩
        · go_wp2
          go_round
          case rel => exact ⟨k + 1, m + (16 + (tx k).size), by omega, by omega, by go_num, by go_num⟩
          case measure => simp [intOf]; omega
      · go_wp2_with fail
        · go_ret
          exact ⟨rfl, Below.refl _ _⟩
        refine (newListEncoder_any le ind pl n _).mono ?_
        rintro e w2 ⟨L, hL0, rfl, hE, hL, hk2⟩
        have hO : One w0 (w0.heap.size + 1) w0.heap.size L le ind pl n tx 0 nilS w2 := ⟨hE, by rw [show wrap64 (n + ((0 : Nat) : Int)) = n from by unfold wrap64; omega]; exact hL, (fun g hg => by cases hg), hk2⟩
        clear hE hL hk2 hlt hk
        go_wp2_with fail
        go_loopw [14] (fun t wr => ∃ (i : Nat) (v : Value), i ≤ len ∧ t = .int .i64 i ∧ One w0 (w0.heap.size + 1) w0.heap.size L le ind pl n tx i v wr) (fun t _ => len - (intOf t).toNat)
        case atStart => exact ⟨0, nilS, Nat.zero_le _, rfl, hO⟩
        case round =>
          obtain ⟨i, v, hik, rfl, hO1⟩ := hrel
          by_cases hlt : i < len
          · obtain ⟨b, off, rfl, hbb, hc⟩ := ht (by omega)
            have hck := cell_kept hO1.2.2.2 hbb (hc i hlt)
            have hsi := hsh i hlt
            have hrl := numRun_bound le ind pl n tx hind i (by omega) (fun j hj => hsh j (by omega))
            clear hc
            go_wp2_with fail
            refine (number_any (w0.heap.size + 1) w0.heap.size L at0 _ v _ ind pl _ (tx i) _ hO1.1 hO1.2.1 hind (by omega)).mono ?_
            rintro e w3 ⟨rfl, v', e1, e2, e3, e4⟩
            have hO2 := hO1.step (by omega) (by omega) hL0 e1 e2 e3 e4
            clear e1 e2 e3 e4 hO1
            go_wp2
            go_roundw
            case rel => exact ⟨i + 1, v', by omega, by go_num, hO2⟩
            case measure => simp [intOf]; omega
          · have hil : len = i := by omega
            subst hil
            clear hlt hik hO
            have HO : Hid (One w0 (w0.heap.size + 1) w0.heap.size L le ind pl n tx len v wr) := hO1
            have kW := hO1.2.2.2
            clear hO1
            go_wp2_with fail
            obtain ⟨W, rfl⟩ : ∃ W, W = wr := ⟨_, rfl⟩
            go_loopw [15, 16] (fun t j wq => ∃ m : Nat, m ≤ len ∧ j = .int .i64 m ∧ Row t (numRun le ind pl n tx m) wq ∧ (∀ g, t.ownBlock = some g → W.heap.size ≤ g) ∧ Kept (fun _ => False) W wq) (fun _ j _ => len - (intOf j).toNat)
            case atStart => exact ⟨0, Nat.zero_le _, rfl, Row.nil _, (fun g hg => by cases hg), Kept.refl _ _⟩
            case round =>
              obtain ⟨m, hm2, rfl, hr, hg, hkw⟩ := hrel
              have hrl := numRun_bound le ind pl n tx hind m (by omega) (fun j hj => hsh j (by omega))
              by_cases hlt : m < len
              · obtain ⟨b, off, rfl, hbb, hc⟩ := ht (by omega)
                have hck := hc m hlt
                have hcr := cell_kept (kW.trans hkw (fun _ _ h => h)) hbb hck
                have hsi := hsh m hlt
                have hsl : (tx m).data.toList.length = (tx m).size := rfl
                have HSL : Hid ((tx m).data.toList.length = (tx m).size) := hsl
                clear hc hsl
                rcases Nat.eq_zero_or_pos m with h0 | hpos
                · subst h0
                  by_cases hnz : n = 0
                  · subst hnz
                    by_cases hp : pl = 1
                    · subst hp
                      obtain ⟨T0, H0, hr⟩ : ∃ T : List UInt8, Hid (T = numRun le ind 1 0 tx 0) ∧ Row u15 T wr := packT (P := fun T => Row u15 T wr) hr
                      have l0 : T0.length ≤ 2199023255552 := by rw [H0.out]; exact hrl
                      clear hrl

                      go_wp2_with (at_builtin; refine wpList_append_own_at _ rfl _ _ 28 rfl 0 5 i0 _ 1 1 Try.underlying28 hi hz0 hz1 hz2 rfl (by decide) u15 T0.length (Lib.byteCells T0) rfl ?own ⟨wr.heap.size, 0, none⟩ 1 1 [.int .u8 32] rfl rfl ?news ?one ?c3 ?c4 ?c5 ?_)
                      case own => exact World.ownsRow.alloc hr _
                      case news => exact Row.news wr _
                      case one => intro u hu; simp at hu; subst hu; rfl
                      case c3 => unfold maxLen; omega
                      case c4 => omega
                      case c5 => exact Nat.zero_le _
                      intro vP wP hoP hgP _ haP
                      obtain ⟨rP, mP, kP⟩ := Row.snoc (c := 32) (l := T0) rfl hoP hgP haP
                      clear hoP hgP haP

                      have gP := own_ge hg hkw.size mP
                      have keepP := ge_kept hkw hg kP

                      obtain ⟨TP, HP, rP⟩ : ∃ T : List UInt8, Hid (T = T0 ++ [32]) ∧ Row vP T wP := packT (P := fun T => Row vP T wP) rP
                      have lP : TP.length ≤ T0.length + 1 := by rw [HP.out]; first | (simp; done) | (simp; omega) | (simp [HSL.out]; done)

                      go_wp2_with (at_builtin; refine wpList_append_own_at _ rfl _ _ 28 rfl 0 5 i0 _ 1 1 Try.underlying28 hi hz0 hz1 hz2 rfl (by decide) vP TP.length (Lib.byteCells TP) rfl ?own ⟨wP.heap.size, 0, none⟩ 2 2 [.int .u8 45, .int .u8 32] rfl rfl ?news ?one ?c3 ?c4 ?c5 ?_)
                      case own => exact World.ownsRow.alloc rP _
                      case news => exact Row.news2 wP _ _
                      case one => intro u hu; simp at hu; rcases hu with hu | hu <;> (subst hu; rfl)
                      case c3 => unfold maxLen; omega
                      case c4 => omega
                      case c5 => exact Nat.zero_le _
                      intro vA wA hoA hgA _ haA
                      obtain ⟨rA, mA, kA⟩ := Row.snoc2 (c := 45) (d := 32) (l := TP) rfl hoA hgA haA
                      clear hoA hgA haA
                      have gA := own_ge gP keepP.size mA
                      have keepA := ge_kept keepP gP kA
                      have cA : wA.cell? ⟨b, off, none⟩ = some (.string (tx 0)) := cell_kept (kW.trans keepA (fun _ _ h => h)) hbb hck

                      obtain ⟨TA, HA, rA⟩ : ∃ T : List UInt8, Hid (T = TP ++ [45] ++ [32]) ∧ Row vA T wA := packT (P := fun T => Row vA T wA) rA
                      have lA : TA.length ≤ TP.length + 2 := by rw [HA.out]; first | (simp; done) | (simp; omega) | (simp [HSL.out]; done)

                      go_wp2_with (at_builtin; refine wpList_append_string_at _ rfl _ _ 28 9 rfl 5 i0 Try.underlying28 Try.underlying9 hi hz0 hz1 hz2 vA TA.length (Lib.byteCells TA) rfl rA (tx 0) rfl ?d3 ?d4 ?_)
                      case d3 => unfold maxLen; omega
                      case d4 => omega
                      intro vB wB hoB hgB haB
                      obtain ⟨rB, mB, kB⟩ := Row.snocs (s := tx 0) (l := TA) rfl hoB hgB haB
                      clear hoB hgB haB
                      have gB := own_ge gA keepA.size mB
                      have keepB := ge_kept keepA gA kB

                      obtain ⟨TB, HB, rB⟩ : ∃ T : List UInt8, Hid (T = TA ++ (tx 0).data.toList) ∧ Row vB T wB := packT (P := fun T => Row vB T wB) rB
                      have lB : TB.length ≤ TA.length + (tx 0).size := by rw [HB.out]; first | (simp; done) | (simp; omega) | (simp [HSL.out]; done)

                      go_wp2_with (at_builtin; refine wpList_append_own_at _ rfl _ _ 28 rfl 0 5 i0 _ 1 1 Try.underlying28 hi hz0 hz1 hz2 rfl (by decide) vB TB.length (Lib.byteCells TB) rfl ?own ⟨wB.heap.size, 0, none⟩ 1 1 [.int .u8 10] rfl rfl ?news ?one ?c3 ?c4 ?c5 ?_)
                      case own => exact World.ownsRow.alloc rB _
                      case news => exact Row.news wB _
                      case one => intro u hu; simp at hu; subst hu; rfl
                      case c3 => unfold maxLen; omega
                      case c4 => omega
                      case c5 => exact Nat.zero_le _
                      intro vC wC hoC hgC _ haC
                      obtain ⟨rC, mC, kC⟩ := Row.snoc (c := 10) (l := TB) rfl hoC hgC haC
                      clear hoC hgC haC

                      have gC := own_ge gB keepB.size mC
                      have keepC := ge_kept keepB gB kC
                      rw [HB.out, HA.out, HP.out, H0.out, ← numRun_first le ind tx] at rC
                      go_wp2
                      go_roundw
                      case rel => first | exact ⟨0 + 1, by omega, by go_num, rC, gC, keepC⟩ | ((repeat apply Exists.intro); exact ⟨⟨0 + 1, by omega, by go_num, rC, gC, keepC⟩, rfl⟩)
                      case measure => simp [intOf]; omega
                    · have hpb : (pl == 1) = false := by simpa using hp
                      cases le with
                      | false =>
                        obtain ⟨T0, H0, hr⟩ : ∃ T : List UInt8, Hid (T = numRun false ind pl 0 tx 0) ∧ Row u15 T wr := packT (P := fun T => Row u15 T wr) hr
                        have l0 : T0.length ≤ 2199023255552 := by rw [H0.out]; exact hrl
                        clear hrl

                        go_wp2_with (at_builtin; refine wpList_append_own_at _ rfl _ _ 28 rfl 0 5 i0 _ 1 1 Try.underlying28 hi hz0 hz1 hz2 rfl (by decide) u15 T0.length (Lib.byteCells T0) rfl ?own ⟨wr.heap.size, 0, none⟩ 1 1 [.int .u8 10] rfl rfl ?news ?one ?c3 ?c4 ?c5 ?_)
                        case own => exact World.ownsRow.alloc hr _
                        case news => exact Row.news wr _
                        case one => intro u hu; simp at hu; subst hu; rfl
                        case c3 => unfold maxLen; omega
                        case c4 => omega
                        case c5 => exact Nat.zero_le _
                        intro vP wP hoP hgP _ haP
                        obtain ⟨rP, mP, kP⟩ := Row.snoc (c := 10) (l := T0) rfl hoP hgP haP
                        clear hoP hgP haP

                        have gP := own_ge hg hkw.size mP
                        have keepP := ge_kept hkw hg kP

                        obtain ⟨TP, HP, rP⟩ : ∃ T : List UInt8, Hid (T = T0 ++ [10]) ∧ Row vP T wP := packT (P := fun T => Row vP T wP) rP
                        have lP : TP.length ≤ T0.length + 1 := by rw [HP.out]; first | (simp; done) | (simp; omega) | (simp [HSL.out]; done)

                        go_wp2_with fail
                        refine (appendBlanks_any vP TP ind _ rP hind (by omega)).mono ?_
                        rintro e wN ⟨vN, rfl, rN, mN, kN⟩
                        have gN := own_ge gP keepP.size mN
                        have keepN := ge_kept keepP gP kN

                        obtain ⟨TN, HN, rN⟩ : ∃ T : List UInt8, Hid (T = TP ++ List.replicate ind 32) ∧ Row vN T wN := packT (P := fun T => Row vN T wN) rN
                        have lN : TN.length ≤ TP.length + ind := by rw [HN.out]; first | (simp; done) | (simp; omega) | (simp [HSL.out]; done)

                        go_wp2_with (at_builtin; refine wpList_append_own_at _ rfl _ _ 28 rfl 0 5 i0 _ 1 1 Try.underlying28 hi hz0 hz1 hz2 rfl (by decide) vN TN.length (Lib.byteCells TN) rfl ?own ⟨wN.heap.size, 0, none⟩ 2 2 [.int .u8 45, .int .u8 32] rfl rfl ?news ?one ?c3 ?c4 ?c5 ?_)
                        case own => exact World.ownsRow.alloc rN _
                        case news => exact Row.news2 wN _ _
                        case one => intro u hu; simp at hu; rcases hu with hu | hu <;> (subst hu; rfl)
                        case c3 => unfold maxLen; omega
                        case c4 => omega
                        case c5 => exact Nat.zero_le _
                        intro vA wA hoA hgA _ haA
                        obtain ⟨rA, mA, kA⟩ := Row.snoc2 (c := 45) (d := 32) (l := TN) rfl hoA hgA haA
                        clear hoA hgA haA
                        have gA := own_ge gN keepN.size mA
                        have keepA := ge_kept keepN gN kA
                        have cA : wA.cell? ⟨b, off, none⟩ = some (.string (tx 0)) := cell_kept (kW.trans keepA (fun _ _ h => h)) hbb hck

                        obtain ⟨TA, HA, rA⟩ : ∃ T : List UInt8, Hid (T = TN ++ [45] ++ [32]) ∧ Row vA T wA := packT (P := fun T => Row vA T wA) rA
                        have lA : TA.length ≤ TN.length + 2 := by rw [HA.out]; first | (simp; done) | (simp; omega) | (simp [HSL.out]; done)

                        go_wp2_with (at_builtin; refine wpList_append_string_at _ rfl _ _ 28 9 rfl 5 i0 Try.underlying28 Try.underlying9 hi hz0 hz1 hz2 vA TA.length (Lib.byteCells TA) rfl rA (tx 0) rfl ?d3 ?d4 ?_)
                        case d3 => unfold maxLen; omega
                        case d4 => omega
                        intro vB wB hoB hgB haB
                        obtain ⟨rB, mB, kB⟩ := Row.snocs (s := tx 0) (l := TA) rfl hoB hgB haB
                        clear hoB hgB haB
                        have gB := own_ge gA keepA.size mB
                        have keepB := ge_kept keepA gA kB

                        obtain ⟨TB, HB, rB⟩ : ∃ T : List UInt8, Hid (T = TA ++ (tx 0).data.toList) ∧ Row vB T wB := packT (P := fun T => Row vB T wB) rB
                        have lB : TB.length ≤ TA.length + (tx 0).size := by rw [HB.out]; first | (simp; done) | (simp; omega) | (simp [HSL.out]; done)

                        go_wp2_with (at_builtin; refine wpList_append_own_at _ rfl _ _ 28 rfl 0 5 i0 _ 1 1 Try.underlying28 hi hz0 hz1 hz2 rfl (by decide) vB TB.length (Lib.byteCells TB) rfl ?own ⟨wB.heap.size, 0, none⟩ 1 1 [.int .u8 10] rfl rfl ?news ?one ?c3 ?c4 ?c5 ?_)
                        case own => exact World.ownsRow.alloc rB _
                        case news => exact Row.news wB _
                        case one => intro u hu; simp at hu; subst hu; rfl
                        case c3 => unfold maxLen; omega
                        case c4 => omega
                        case c5 => exact Nat.zero_le _
                        intro vC wC hoC hgC _ haC
                        obtain ⟨rC, mC, kC⟩ := Row.snoc (c := 10) (l := TB) rfl hoC hgC haC
                        clear hoC hgC haC

                        have gC := own_ge gB keepB.size mC
                        have keepC := ge_kept keepB gB kC
                        rw [HB.out, HA.out, HN.out, HP.out, H0.out, ← numRun_brk ind pl 0 tx (by omega) (by omega) (fun h => hp h.2)] at rC
                        go_wp2
                        go_roundw
                        case rel => first | exact ⟨0 + 1, by omega, by go_num, rC, gC, keepC⟩ | ((repeat apply Exists.intro); exact ⟨⟨0 + 1, by omega, by go_num, rC, gC, keepC⟩, rfl⟩)
                        case measure => simp [intOf]; omega
                      | true =>
                        obtain ⟨T0, H0, hr⟩ : ∃ T : List UInt8, Hid (T = numRun true ind pl 0 tx 0) ∧ Row u15 T wr := packT (P := fun T => Row u15 T wr) hr
                        have l0 : T0.length ≤ 2199023255552 := by rw [H0.out]; exact hrl
                        clear hrl

                        go_wp2_with fail
                        refine (appendBlanks_any u15 T0 ind _ hr hind (by omega)).mono ?_
                        rintro e wN ⟨vN, rfl, rN, mN, kN⟩
                        have gN := own_ge hg hkw.size mN
                        have keepN := ge_kept hkw hg kN

                        obtain ⟨TN, HN, rN⟩ : ∃ T : List UInt8, Hid (T = T0 ++ List.replicate ind 32) ∧ Row vN T wN := packT (P := fun T => Row vN T wN) rN
                        have lN : TN.length ≤ T0.length + ind := by rw [HN.out]; first | (simp; done) | (simp; omega) | (simp [HSL.out]; done)

                        go_wp2_with (at_builtin; refine wpList_append_own_at _ rfl _ _ 28 rfl 0 5 i0 _ 1 1 Try.underlying28 hi hz0 hz1 hz2 rfl (by decide) vN TN.length (Lib.byteCells TN) rfl ?own ⟨wN.heap.size, 0, none⟩ 2 2 [.int .u8 45, .int .u8 32] rfl rfl ?news ?one ?c3 ?c4 ?c5 ?_)
                        case own => exact World.ownsRow.alloc rN _
                        case news => exact Row.news2 wN _ _
                        case one => intro u hu; simp at hu; rcases hu with hu | hu <;> (subst hu; rfl)
                        case c3 => unfold maxLen; omega
                        case c4 => omega
                        case c5 => exact Nat.zero_le _
                        intro vA wA hoA hgA _ haA
                        obtain ⟨rA, mA, kA⟩ := Row.snoc2 (c := 45) (d := 32) (l := TN) rfl hoA hgA haA
                        clear hoA hgA haA
                        have gA := own_ge gN keepN.size mA
                        have keepA := ge_kept keepN gN kA
                        have cA : wA.cell? ⟨b, off, none⟩ = some (.string (tx 0)) := cell_kept (kW.trans keepA (fun _ _ h => h)) hbb hck

                        obtain ⟨TA, HA, rA⟩ : ∃ T : List UInt8, Hid (T = TN ++ [45] ++ [32]) ∧ Row vA T wA := packT (P := fun T => Row vA T wA) rA
                        have lA : TA.length ≤ TN.length + 2 := by rw [HA.out]; first | (simp; done) | (simp; omega) | (simp [HSL.out]; done)

                        go_wp2_with (at_builtin; refine wpList_append_string_at _ rfl _ _ 28 9 rfl 5 i0 Try.underlying28 Try.underlying9 hi hz0 hz1 hz2 vA TA.length (Lib.byteCells TA) rfl rA (tx 0) rfl ?d3 ?d4 ?_)
                        case d3 => unfold maxLen; omega
                        case d4 => omega
                        intro vB wB hoB hgB haB
                        obtain ⟨rB, mB, kB⟩ := Row.snocs (s := tx 0) (l := TA) rfl hoB hgB haB
                        clear hoB hgB haB
                        have gB := own_ge gA keepA.size mB
                        have keepB := ge_kept keepA gA kB

                        obtain ⟨TB, HB, rB⟩ : ∃ T : List UInt8, Hid (T = TA ++ (tx 0).data.toList) ∧ Row vB T wB := packT (P := fun T => Row vB T wB) rB
                        have lB : TB.length ≤ TA.length + (tx 0).size := by rw [HB.out]; first | (simp; done) | (simp; omega) | (simp [HSL.out]; done)

                        go_wp2_with (at_builtin; refine wpList_append_own_at _ rfl _ _ 28 rfl 0 5 i0 _ 1 1 Try.underlying28 hi hz0 hz1 hz2 rfl (by decide) vB TB.length (Lib.byteCells TB) rfl ?own ⟨wB.heap.size, 0, none⟩ 1 1 [.int .u8 10] rfl rfl ?news ?one ?c3 ?c4 ?c5 ?_)
                        case own => exact World.ownsRow.alloc rB _
                        case news => exact Row.news wB _
                        case one => intro u hu; simp at hu; subst hu; rfl
                        case c3 => unfold maxLen; omega
                        case c4 => omega
                        case c5 => exact Nat.zero_le _
                        intro vC wC hoC hgC _ haC
                        obtain ⟨rC, mC, kC⟩ := Row.snoc (c := 10) (l := TB) rfl hoC hgC haC
                        clear hoC hgC haC

                        have gC := own_ge gB keepB.size mC
                        have keepC := ge_kept keepB gB kC
                        rw [HB.out, HA.out, HN.out, H0.out, ← numRun_line true ind pl 0 tx 0 (by omega) (by omega) (by omega) (fun h => hp h.2.2) (Or.inr rfl)] at rC
                        go_wp2
                        go_roundw
                        case rel => first | exact ⟨0 + 1, by omega, by go_num, rC, gC, keepC⟩ | ((repeat apply Exists.intro); exact ⟨⟨0 + 1, by omega, by go_num, rC, gC, keepC⟩, rfl⟩)
                        case measure => simp [intOf]; omega
                  · have hnb : (n == 0) = false := by simpa using hnz
                    cases le with
                    | false =>
                      obtain ⟨T0, H0, hr⟩ : ∃ T : List UInt8, Hid (T = numRun false ind pl n tx 0) ∧ Row u15 T wr := packT (P := fun T => Row u15 T wr) hr
                      have l0 : T0.length ≤ 2199023255552 := by rw [H0.out]; exact hrl
                      clear hrl

                      go_wp2_with (at_builtin; refine wpList_append_own_at _ rfl _ _ 28 rfl 0 5 i0 _ 1 1 Try.underlying28 hi hz0 hz1 hz2 rfl (by decide) u15 T0.length (Lib.byteCells T0) rfl ?own ⟨wr.heap.size, 0, none⟩ 1 1 [.int .u8 10] rfl rfl ?news ?one ?c3 ?c4 ?c5 ?_)
                      case own => exact World.ownsRow.alloc hr _
                      case news => exact Row.news wr _
                      case one => intro u hu; simp at hu; subst hu; rfl
                      case c3 => unfold maxLen; omega
                      case c4 => omega
                      case c5 => exact Nat.zero_le _
                      intro vP wP hoP hgP _ haP
                      obtain ⟨rP, mP, kP⟩ := Row.snoc (c := 10) (l := T0) rfl hoP hgP haP
                      clear hoP hgP haP

                      have gP := own_ge hg hkw.size mP
                      have keepP := ge_kept hkw hg kP

                      obtain ⟨TP, HP, rP⟩ : ∃ T : List UInt8, Hid (T = T0 ++ [10]) ∧ Row vP T wP := packT (P := fun T => Row vP T wP) rP
                      have lP : TP.length ≤ T0.length + 1 := by rw [HP.out]; first | (simp; done) | (simp; omega) | (simp [HSL.out]; done)

                      go_wp2_with fail
                      refine (appendBlanks_any vP TP ind _ rP hind (by omega)).mono ?_
                      rintro e wN ⟨vN, rfl, rN, mN, kN⟩
                      have gN := own_ge gP keepP.size mN
                      have keepN := ge_kept keepP gP kN

                      obtain ⟨TN, HN, rN⟩ : ∃ T : List UInt8, Hid (T = TP ++ List.replicate ind 32) ∧ Row vN T wN := packT (P := fun T => Row vN T wN) rN
                      have lN : TN.length ≤ TP.length + ind := by rw [HN.out]; first | (simp; done) | (simp; omega) | (simp [HSL.out]; done)

                      go_wp2_with (at_builtin; refine wpList_append_own_at _ rfl _ _ 28 rfl 0 5 i0 _ 1 1 Try.underlying28 hi hz0 hz1 hz2 rfl (by decide) vN TN.length (Lib.byteCells TN) rfl ?own ⟨wN.heap.size, 0, none⟩ 2 2 [.int .u8 45, .int .u8 32] rfl rfl ?news ?one ?c3 ?c4 ?c5 ?_)
                      case own => exact World.ownsRow.alloc rN _
                      case news => exact Row.news2 wN _ _
                      case one => intro u hu; simp at hu; rcases hu with hu | hu <;> (subst hu; rfl)
                      case c3 => unfold maxLen; omega
                      case c4 => omega
                      case c5 => exact Nat.zero_le _
                      intro vA wA hoA hgA _ haA
                      obtain ⟨rA, mA, kA⟩ := Row.snoc2 (c := 45) (d := 32) (l := TN) rfl hoA hgA haA
                      clear hoA hgA haA
                      have gA := own_ge gN keepN.size mA
                      have keepA := ge_kept keepN gN kA
                      have cA : wA.cell? ⟨b, off, none⟩ = some (.string (tx 0)) := cell_kept (kW.trans keepA (fun _ _ h => h)) hbb hck

                      obtain ⟨TA, HA, rA⟩ : ∃ T : List UInt8, Hid (T = TN ++ [45] ++ [32]) ∧ Row vA T wA := packT (P := fun T => Row vA T wA) rA
                      have lA : TA.length ≤ TN.length + 2 := by rw [HA.out]; first | (simp; done) | (simp; omega) | (simp [HSL.out]; done)

                      go_wp2_with (at_builtin; refine wpList_append_string_at _ rfl _ _ 28 9 rfl 5 i0 Try.underlying28 Try.underlying9 hi hz0 hz1 hz2 vA TA.length (Lib.byteCells TA) rfl rA (tx 0) rfl ?d3 ?d4 ?_)
                      case d3 => unfold maxLen; omega
                      case d4 => omega
                      intro vB wB hoB hgB haB
                      obtain ⟨rB, mB, kB⟩ := Row.snocs (s := tx 0) (l := TA) rfl hoB hgB haB
                      clear hoB hgB haB
                      have gB := own_ge gA keepA.size mB
                      have keepB := ge_kept keepA gA kB

                      obtain ⟨TB, HB, rB⟩ : ∃ T : List UInt8, Hid (T = TA ++ (tx 0).data.toList) ∧ Row vB T wB := packT (P := fun T => Row vB T wB) rB
                      have lB : TB.length ≤ TA.length + (tx 0).size := by rw [HB.out]; first | (simp; done) | (simp; omega) | (simp [HSL.out]; done)

                      go_wp2_with (at_builtin; refine wpList_append_own_at _ rfl _ _ 28 rfl 0 5 i0 _ 1 1 Try.underlying28 hi hz0 hz1 hz2 rfl (by decide) vB TB.length (Lib.byteCells TB) rfl ?own ⟨wB.heap.size, 0, none⟩ 1 1 [.int .u8 10] rfl rfl ?news ?one ?c3 ?c4 ?c5 ?_)
                      case own => exact World.ownsRow.alloc rB _
                      case news => exact Row.news wB _
                      case one => intro u hu; simp at hu; subst hu; rfl
                      case c3 => unfold maxLen; omega
                      case c4 => omega
                      case c5 => exact Nat.zero_le _
                      intro vC wC hoC hgC _ haC
                      obtain ⟨rC, mC, kC⟩ := Row.snoc (c := 10) (l := TB) rfl hoC hgC haC
                      clear hoC hgC haC

                      have gC := own_ge gB keepB.size mC
                      have keepC := ge_kept keepB gB kC
                      rw [HB.out, HA.out, HN.out, HP.out, H0.out, ← numRun_brk ind pl n tx (by omega) (by omega) (fun h => hnz h.1)] at rC
                      go_wp2
                      go_roundw
                      case rel => first | exact ⟨0 + 1, by omega, by go_num, rC, gC, keepC⟩ | ((repeat apply Exists.intro); exact ⟨⟨0 + 1, by omega, by go_num, rC, gC, keepC⟩, rfl⟩)
                      case measure => simp [intOf]; omega
                    | true =>
                      obtain ⟨T0, H0, hr⟩ : ∃ T : List UInt8, Hid (T = numRun true ind pl n tx 0) ∧ Row u15 T wr := packT (P := fun T => Row u15 T wr) hr
                      have l0 : T0.length ≤ 2199023255552 := by rw [H0.out]; exact hrl
                      clear hrl

                      go_wp2_with fail
                      refine (appendBlanks_any u15 T0 ind _ hr hind (by omega)).mono ?_
                      rintro e wN ⟨vN, rfl, rN, mN, kN⟩
                      have gN := own_ge hg hkw.size mN
                      have keepN := ge_kept hkw hg kN

                      obtain ⟨TN, HN, rN⟩ : ∃ T : List UInt8, Hid (T = T0 ++ List.replicate ind 32) ∧ Row vN T wN := packT (P := fun T => Row vN T wN) rN
                      have lN : TN.length ≤ T0.length + ind := by rw [HN.out]; first | (simp; done) | (simp; omega) | (simp [HSL.out]; done)

                      go_wp2_with (at_builtin; refine wpList_append_own_at _ rfl _ _ 28 rfl 0 5 i0 _ 1 1 Try.underlying28 hi hz0 hz1 hz2 rfl (by decide) vN TN.length (Lib.byteCells TN) rfl ?own ⟨wN.heap.size, 0, none⟩ 2 2 [.int .u8 45, .int .u8 32] rfl rfl ?news ?one ?c3 ?c4 ?c5 ?_)
                      case own => exact World.ownsRow.alloc rN _
                      case news => exact Row.news2 wN _ _
                      case one => intro u hu; simp at hu; rcases hu with hu | hu <;> (subst hu; rfl)
                      case c3 => unfold maxLen; omega
                      case c4 => omega
                      case c5 => exact Nat.zero_le _
                      intro vA wA hoA hgA _ haA
                      obtain ⟨rA, mA, kA⟩ := Row.snoc2 (c := 45) (d := 32) (l := TN) rfl hoA hgA haA
                      clear hoA hgA haA
                      have gA := own_ge gN keepN.size mA
                      have keepA := ge_kept keepN gN kA
                      have cA : wA.cell? ⟨b, off, none⟩ = some (.string (tx 0)) := cell_kept (kW.trans keepA (fun _ _ h => h)) hbb hck

                      obtain ⟨TA, HA, rA⟩ : ∃ T : List UInt8, Hid (T = TN ++ [45] ++ [32]) ∧ Row vA T wA := packT (P := fun T => Row vA T wA) rA
                      have lA : TA.length ≤ TN.length + 2 := by rw [HA.out]; first | (simp; done) | (simp; omega) | (simp [HSL.out]; done)

                      go_wp2_with (at_builtin; refine wpList_append_string_at _ rfl _ _ 28 9 rfl 5 i0 Try.underlying28 Try.underlying9 hi hz0 hz1 hz2 vA TA.length (Lib.byteCells TA) rfl rA (tx 0) rfl ?d3 ?d4 ?_)
                      case d3 => unfold maxLen; omega
                      case d4 => omega
                      intro vB wB hoB hgB haB
                      obtain ⟨rB, mB, kB⟩ := Row.snocs (s := tx 0) (l := TA) rfl hoB hgB haB
                      clear hoB hgB haB
                      have gB := own_ge gA keepA.size mB
                      have keepB := ge_kept keepA gA kB

                      obtain ⟨TB, HB, rB⟩ : ∃ T : List UInt8, Hid (T = TA ++ (tx 0).data.toList) ∧ Row vB T wB := packT (P := fun T => Row vB T wB) rB
                      have lB : TB.length ≤ TA.length + (tx 0).size := by rw [HB.out]; first | (simp; done) | (simp; omega) | (simp [HSL.out]; done)

                      go_wp2_with (at_builtin; refine wpList_append_own_at _ rfl _ _ 28 rfl 0 5 i0 _ 1 1 Try.underlying28 hi hz0 hz1 hz2 rfl (by decide) vB TB.length (Lib.byteCells TB) rfl ?own ⟨wB.heap.size, 0, none⟩ 1 1 [.int .u8 10] rfl rfl ?news ?one ?c3 ?c4 ?c5 ?_)
                      case own => exact World.ownsRow.alloc rB _
                      case news => exact Row.news wB _
                      case one => intro u hu; simp at hu; subst hu; rfl
                      case c3 => unfold maxLen; omega
                      case c4 => omega
                      case c5 => exact Nat.zero_le _
                      intro vC wC hoC hgC _ haC
                      obtain ⟨rC, mC, kC⟩ := Row.snoc (c := 10) (l := TB) rfl hoC hgC haC
                      clear hoC hgC haC

                      have gC := own_ge gB keepB.size mC
                      have keepC := ge_kept keepB gB kC
                      rw [HB.out, HA.out, HN.out, H0.out, ← numRun_line true ind pl n tx 0 (by omega) (by omega) (by omega) (fun h => hnz h.2.1) (Or.inr rfl)] at rC
                      go_wp2
                      go_roundw
                      case rel => first | exact ⟨0 + 1, by omega, by go_num, rC, gC, keepC⟩ | ((repeat apply Exists.intro); exact ⟨⟨0 + 1, by omega, by go_num, rC, gC, keepC⟩, rfl⟩)
                      case measure => simp [intOf]; omega
                · have hmb : ((m : Int) == 0) = false := by simp; omega
                  obtain ⟨T0, H0, hr⟩ : ∃ T : List UInt8, Hid (T = numRun le ind pl n tx m) ∧ Row u15 T wr := packT (P := fun T => Row u15 T wr) hr
                  have l0 : T0.length ≤ 2199023255552 := by rw [H0.out]; exact hrl
                  clear hrl

                  go_wp2_with fail
                  refine (appendBlanks_any u15 T0 ind _ hr hind (by omega)).mono ?_
                  rintro e wN ⟨vN, rfl, rN, mN, kN⟩
                  have gN := own_ge hg hkw.size mN
                  have keepN := ge_kept hkw hg kN

                  obtain ⟨TN, HN, rN⟩ : ∃ T : List UInt8, Hid (T = T0 ++ List.replicate ind 32) ∧ Row vN T wN := packT (P := fun T => Row vN T wN) rN
                  have lN : TN.length ≤ T0.length + ind := by rw [HN.out]; first | (simp; done) | (simp; omega) | (simp [HSL.out]; done)

                  go_wp2_with (at_builtin; refine wpList_append_own_at _ rfl _ _ 28 rfl 0 5 i0 _ 1 1 Try.underlying28 hi hz0 hz1 hz2 rfl (by decide) vN TN.length (Lib.byteCells TN) rfl ?own ⟨wN.heap.size, 0, none⟩ 2 2 [.int .u8 45, .int .u8 32] rfl rfl ?news ?one ?c3 ?c4 ?c5 ?_)
                  case own => exact World.ownsRow.alloc rN _
                  case news => exact Row.news2 wN _ _
                  case one => intro u hu; simp at hu; rcases hu with hu | hu <;> (subst hu; rfl)
                  case c3 => unfold maxLen; omega
                  case c4 => omega
                  case c5 => exact Nat.zero_le _
                  intro vA wA hoA hgA _ haA
                  obtain ⟨rA, mA, kA⟩ := Row.snoc2 (c := 45) (d := 32) (l := TN) rfl hoA hgA haA
                  clear hoA hgA haA
                  have gA := own_ge gN keepN.size mA
                  have keepA := ge_kept keepN gN kA
                  have cA : wA.cell? ⟨b, off + m, none⟩ = some (.string (tx m)) := cell_kept (kW.trans keepA (fun _ _ h => h)) hbb hck

                  obtain ⟨TA, HA, rA⟩ : ∃ T : List UInt8, Hid (T = TN ++ [45] ++ [32]) ∧ Row vA T wA := packT (P := fun T => Row vA T wA) rA
                  have lA : TA.length ≤ TN.length + 2 := by rw [HA.out]; first | (simp; done) | (simp; omega) | (simp [HSL.out]; done)

                  go_wp2_with (at_builtin; refine wpList_append_string_at _ rfl _ _ 28 9 rfl 5 i0 Try.underlying28 Try.underlying9 hi hz0 hz1 hz2 vA TA.length (Lib.byteCells TA) rfl rA (tx m) rfl ?d3 ?d4 ?_)
                  case d3 => unfold maxLen; omega
                  case d4 => omega
                  intro vB wB hoB hgB haB
                  obtain ⟨rB, mB, kB⟩ := Row.snocs (s := tx m) (l := TA) rfl hoB hgB haB
                  clear hoB hgB haB
                  have gB := own_ge gA keepA.size mB
                  have keepB := ge_kept keepA gA kB

                  obtain ⟨TB, HB, rB⟩ : ∃ T : List UInt8, Hid (T = TA ++ (tx m).data.toList) ∧ Row vB T wB := packT (P := fun T => Row vB T wB) rB
                  have lB : TB.length ≤ TA.length + (tx m).size := by rw [HB.out]; first | (simp; done) | (simp; omega) | (simp [HSL.out]; done)

                  go_wp2_with (at_builtin; refine wpList_append_own_at _ rfl _ _ 28 rfl 0 5 i0 _ 1 1 Try.underlying28 hi hz0 hz1 hz2 rfl (by decide) vB TB.length (Lib.byteCells TB) rfl ?own ⟨wB.heap.size, 0, none⟩ 1 1 [.int .u8 10] rfl rfl ?news ?one ?c3 ?c4 ?c5 ?_)
                  case own => exact World.ownsRow.alloc rB _
                  case news => exact Row.news wB _
                  case one => intro u hu; simp at hu; subst hu; rfl
                  case c3 => unfold maxLen; omega
                  case c4 => omega
                  case c5 => exact Nat.zero_le _
                  intro vC wC hoC hgC _ haC
                  obtain ⟨rC, mC, kC⟩ := Row.snoc (c := 10) (l := TB) rfl hoC hgC haC
                  clear hoC hgC haC

                  have gC := own_ge gB keepB.size mC
                  have keepC := ge_kept keepB gB kC
                  rw [HB.out, HA.out, HN.out, H0.out, ← numRun_line le ind pl n tx m (by omega) (by omega) (by omega) (by omega) (Or.inl (by omega))] at rC
                  go_wp2
                  go_roundw
                  case rel => first | exact ⟨m + 1, by omega, by go_num, rC, gC, keepC⟩ | ((repeat apply Exists.intro); exact ⟨⟨m + 1, by omega, by go_num, rC, gC, keepC⟩, rfl⟩)
                  case measure => simp [intOf]; omega
              · have hml : len = m := by omega
                subst hml
                obtain ⟨o1, o2, o3, _⟩ := HO.out
                rw [← Go.IntWalk.i64_left] at o2
                clear HO hrl
                have t1 := o1.kept hkw (fun _ h => h.elim)
                have t2 := o2.kept hkw (fun h => h)
                have own := o1.2.own_lt
                have hstD : (convert 28 9 u15).run Try.prog wr.drew = .ok (.string ⟨(numRun le ind pl n tx len).toArray⟩) wr.drew := Row.str (w := wr.drew) hr
                have hn2 := t1.notLvl t2
                have hne := t1.neOwn
                have hE0 := t1.1
                have kfin := kW.trans hkw (fun _ _ h => h)
                clear hlt hm2 ht hsh HT hi hz0 hz1 hz2 hcap hind hL0
                go_wp2_with fail
                go_region_with (first | (go_at_call 12; refine (written_any _ _ _ _ _ v _ wr.drew t1.drew).mono ?_; rintro e w7 ⟨rfl, k7⟩; have hst7 := (hr.kept k7.undrew (fun g hgg hs => by have := hg g hgg; have := own g hs; omega)).str; have hE7 := (k7.undrew.block _ (lt_of_heap hE0) hne).trans hE0; have hL7 := t2.kept k7.undrew (fun hx => hn2 (Or.inr (Or.inr hx)))) | (go_at_call 18; refine (topN_any _ L _ _ _ _ _ _ _ hE7 hL7).mono ?_; rintro e w8 ⟨rfl, rfl⟩))
                all_goals
                  have kend := ge_kept kfin o3 k7.undrew
                  have hE8 : w7.drew.heap[w0.heap.size + 1]? = _ := hE7
                  clear hst7 k7 hL7 hE7 hE0 t1 t2 hr
                  by_cases hz : len = 0
                  · subst hz
                    go_wp2
                    go_ret
                    exact ⟨rfl, kend.none_to.drew⟩
                  · have hzb : ((len : Int) == 0) = false := by simp; omega
                    rw [if_neg hz] at hE8
                    go_wp2_with (go_at_call 14; refine (lineEnded_any (w0.heap.size + 1) _ _ _ _ _ hE8).mono ?_; rintro e w9 ⟨rfl, rfl⟩)
                    go_ret
                    exact ⟨rfl, kend.none_to.drew⟩

end Go.Proofs.Qxb6614816a
