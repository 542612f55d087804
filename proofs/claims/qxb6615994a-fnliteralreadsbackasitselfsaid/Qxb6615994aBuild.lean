import Derived.Test.Qxb6615994aTab


namespace Go.Proofs.Qxb6615994a
open Go.RowKit

def s92 : ByteArray := ⟨#[92]⟩
def s9292 : ByteArray := ⟨#[92, 92]⟩
def s39 : ByteArray := ⟨#[39]⟩
def s9239 : ByteArray := ⟨#[92, 39]⟩

theorem mk2 (w : World) : (Instr.makeSlice 31 (.int .i64 0) (.int .i64 2)).run Try.prog w = .ok (.slice (some ⟨w.heap.size, 0, none⟩) 0 2) (w.alloc (.cells #[.string ⟨#[]⟩, .string ⟨#[]⟩] 9)) := by kernel_rfl
theorem info9 : (Try.prog.info? 9).map (fun i => (i.zero, i.size, i.bytes)) = some (some (.string ⟨#[]⟩), 1, 16) := by kernel_rfl

/-- a slice of two bytes x, y in a row of its own. -/
def Two (a : Value) (x y : Int) (w : World) : Prop :=
  ∃ g c cs fr, a = .slice (some ⟨g, 0, none⟩) 2 c ∧ w.heap[g]? = some (.cells cs 5 fr) ∧ cs[0]? = some (.int .u8 x) ∧ cs[1]? = some (.int .u8 y)

/-- what build's last loop has laid behind k rounds. -/
def Laid (S : Nat) (k : Nat) (t : Value) (w : World) : Prop :=
  (k = 0 ∧ TabAt S (.slice none 0 0) (.slice none 0 0) t w ∧ w.ownsRow 0 9 1 t 0 []) ∨
  (k = 1 ∧ ∃ a, TabAt S a (.slice none 0 0) t w ∧ w.ownsRow 0 9 1 t 1 [.string s39] ∧ Two a 92 39 w) ∨
  (k = 2 ∧ ∃ a b, TabAt S a b t w ∧ w.ownsRow 0 9 1 t 2 [.string s39, .string s92] ∧ Two a 92 39 w ∧ Two b 92 92 w)

theorem Two.kept {a : Value} {x y : Int} {w w' : World} {F : Nat → Prop} (h : Two a x y w) (k : Kept F w w') (hF : ∀ g cs fr, w.heap[g]? = some (.cells cs 5 fr) → ¬ F g) : Two a x y w' := by
  obtain ⟨g, c, cs, fr, e, hg, h0, h1⟩ := h
  exact ⟨g, c, cs, fr, e, by rw [k.block g (lt_of_heap hg) (hF g cs fr hg)]; exact hg, h0, h1⟩

theorem str_of_byte (w : World) (c : Nat) (s : ByteArray) (hs : s = ⟨#[UInt8.ofNat c]⟩) :
    (convert 27 9 (.slice (some ⟨w.heap.size, 0, none⟩) 1 1)).run Try.prog (w.alloc (.cells #[.int .u8 c] 5)) = .ok (.string s) (w.alloc (.cells #[.int .u8 c] 5)) := by
  rw [run_convert_bytes_arg (w.alloc (.cells #[.int .u8 c] 5)) 27 5 Try.underlying27 Try.underlying5 w.heap.size 0 1 1 [(c : Int)] rfl ?_ 9 Try.underlying9]
  · subst hs
    rfl
  · intro i hi
    have : i = 0 := by omega
    subst this
    simp

theorem bytes_conv (s : ByteArray) (w : World) : (convert 9 27 (.string s)).run Try.prog w = .ok (.slice (some ⟨w.heap.size, 0, none⟩) s.size (grownCap w s.size 0 5)) (Lib.bytesWorld w 5 s) :=
  Lib.run_convert_string_bytes w 9 27 5 s Try.underlying9 Try.underlying27 Try.underlying5

theorem eq_nil27 (w : World) (a : Option Addr) (n c : Nat) : (binOp .eql 27 (.slice a n c) (.slice none 0 0)).run Try.prog w = .ok (.bool a.isNone) w :=
  Lib.run_eql_slice_nil w 27 5 a n c 0 0 Try.underlying27

theorem slice_of_own9 {w : World} {v : Value} {n : Nat} {xs : List Value} (h : w.ownsRow 0 9 1 v n xs) : ∃ ao cap, v = .slice ao n cap := by
  rcases h.2 with ⟨hv, hn⟩ | ⟨g, cap, cur, hv, _⟩
  · subst hn; exact ⟨_, _, hv⟩
  · exact ⟨_, _, hv⟩

theorem own_ne9 {w : World} {v : Value} {n : Nat} {xs : List Value} {b : Nat} {cs : Array Value} {T : TypeId} {fr : Nat × Nat} (hown : w.ownsRow 0 9 1 v n xs) (hb : w.heap[b]? = some (.cells cs T fr)) (hT : T ≠ 9) : v.ownBlock ≠ some b := by
  rcases hown.2 with ⟨rfl, _⟩ | ⟨g, cap, cur, rfl, _, hg, _⟩
  · simp [Value.ownBlock]
  · intro h
    simp only [Value.ownBlock, Option.some.injEq] at h
    subst h
    rw [hg] at hb
    simp only [Option.some.injEq, Obj.cells.injEq] at hb
    exact hT hb.2.1.symm

theorem own_kept9 {w w' : World} {v : Value} {n : Nat} {xs : List Value} {F : Nat → Prop} (h : w.ownsRow 0 9 1 v n xs) (k : Kept F w w') (hF : ∀ g, v.ownBlock = some g → ¬ F g) : w'.ownsRow 0 9 1 v n xs := by
  refine ⟨h.1, ?_⟩
  rcases h.2 with h2 | ⟨g, cap, cur, hv, hg, hh, r⟩
  · exact Or.inl h2
  · exact Or.inr ⟨g, cap, cur, hv, hg, by rw [k.block g (lt_of_heap hh) (hF g (by rw [hv]; rfl))]; exact hh, r⟩

theorem own_start {w : World} {g : Nat} (h : w.heap[g]? = some (.cells #[.string ⟨#[]⟩, .string ⟨#[]⟩] 9 (0, 0))) : w.ownsRow 0 9 1 (.slice (some ⟨g, 0, none⟩) 0 2) 0 [] :=
  ⟨rfl, Or.inr ⟨g, 2, _, rfl, Nat.zero_le _, h, by omega, by unfold maxLen; omega, rfl, rfl⟩⟩

theorem news_one (w : World) (o : Obj) (x : Value) : ∀ j u, [x][j]? = some u → ((w.alloc o).alloc (.cells #[x] 9)).cell? ((⟨w.heap.size + 1, 0, none⟩ : Addr).add j) = some u := by
  intro j u hj
  match j, hj with
  | 0, hj =>
    simp at hj; subst hj
    have := heap_alloc_new (w.alloc o) (.cells #[x] 9)
    have h2 : ((w.alloc o).alloc (.cells #[x] 9)).heap[w.heap.size + 1]? = some (.cells #[x] 9 (0, 0)) := by simpa using this
    simp [Addr.add, cell_of_heap h2]

theorem two_of (W : World) (s : ByteArray) (x y : UInt8) (hs : s = ⟨#[x, y]⟩) (S j : Nat) (v : Value) (c : Nat) (hS : S < W.heap.size) :
    Two (.slice (some ⟨W.heap.size, 0, none⟩) 2 c) x.toNat y.toNat ((Lib.bytesWorld W 5 s).setCell ⟨S, j, none⟩ v) := by
  refine ⟨W.heap.size, c, _, _, rfl, (Below.heap_setCell _ _ _ _ (by simp; omega)).trans (Lib.bytesWorld_at_new W 5 s), ?_, ?_⟩
  · subst hs; simp [Lib.bytesCells, Array.getElem?_append]
  · subst hs; simp [Lib.bytesCells, Array.getElem?_append]

theorem tab_not5 {S : Nat} {a b t t' : Value} {wx : World} (h : TabAt S a b t wx ∨ TabAt S a b t' wx) : ∀ g cs fr, wx.heap[g]? = some (.cells cs 5 fr) → ¬ g = S := by
  rintro g cs fr hg rfl
  rcases h with h | h <;> (unfold TabAt at h; rw [hg] at h; simp at h)

theorem two_new (w : World) (s : ByteArray) : (Lib.bytesWorld w 5 s).heap[w.heap.size]? = some (.cells (Lib.bytesCells w 5 s) 5 ((Lib.bytesCells w 5 s).size, (Lib.bytesCells w 5 s).size + 1)) := Lib.bytesWorld_at_new w 5 s

set_option maxRecDepth 100000 in
set_option maxHeartbeats 1000000 in
theorem build_any (R O cap : Nat) (w : World) (_hR : R < w.heap.size) (hO : O < w.heap.size) (h4 : w.cell? ⟨R, 4, none⟩ = some (.slice (some ⟨O, 0, none⟩) 4 cap))
    (o0 : w.cell? ⟨O, 0, none⟩ = some (.string s92)) (o1 : w.cell? ⟨O, 1, none⟩ = some (.string s9292)) (o2 : w.cell? ⟨O, 2, none⟩ = some (.string s39)) (o3 : w.cell? ⟨O, 3, none⟩ = some (.string s9239)) :
    Calls Try.prog 21 #[.pointer (some ⟨R, 0, none⟩)] w fun e w' => ∃ S t, e = .returned (.iface 66 (.pointer (some ⟨S, 0, none⟩))) ∧ w.heap.size ≤ S ∧ Laid S 2 t w' ∧ Kept (fun _ => False) w w' := by
  obtain ⟨i0, hi, hz⟩ := Option.map_eq_some_iff.1 info9
  simp only [Prod.mk.injEq] at hz
  obtain ⟨hz0, hz1, hz2⟩ := hz
  have z0 : s92.size = 1 := rfl
  have z1 : s9292.size = 2 := rfl
  have z2 : s39.size = 1 := rfl
  have z3 : s9239.size = 2 := rfl
  have b92 : ∀ h : 0 < s92.size, s92[0]'h = 92 := fun _ => rfl
  have b39 : ∀ h : 0 < s39.size, s39[0]'h = 39 := fun _ => rfl
  have hm2 := mk2
  obtain ⟨w1, hst, hT, hA, hk1⟩ := store_tab w
  go_enter Try.func21, Try.ntmps21
  go_wp2_with fail
  go_loop [4, 5] (fun f i => (f = .bool true ∧ i = .int .i64 0) ∨ (f = .bool false ∧ i = .int .i64 2) ∨ (f = .bool false ∧ i = .int .i64 4)) (fun _ i => 4 - (intOf i).toNat)
  case atStart => exact Or.inl ⟨rfl, rfl⟩
  case round =>
    rcases hrel with ⟨rfl, rfl⟩ | ⟨rfl, rfl⟩ | ⟨rfl, rfl⟩
    · go_wp2
      go_round
      case rel => exact Or.inr (Or.inl ⟨rfl, rfl⟩)
      case measure => simp [intOf]
    · go_wp2
      go_round
      case rel => exact Or.inr (Or.inr ⟨rfl, rfl⟩)
      case measure => simp [intOf]
    · go_wp2_with fail
      go_loopw [12] (fun i wr => ∃ (k : Nat) (t : Value), k ≤ 2 ∧ i = .int .i64 (2 - 2 * (k : Int)) ∧ Laid (w.heap.size + 1) k t wr ∧ (∀ g, t.ownBlock = some g → w.heap.size ≤ g) ∧ Kept (fun _ => False) w wr) (fun i _ => (intOf i + 2).toNat)
      case atStart => exact ⟨0, .slice (some ⟨w.heap.size, 0, none⟩) 0 2, by omega, rfl, Or.inl ⟨rfl, hT, own_start hA⟩, (fun g hg => by simp [Value.ownBlock] at hg; omega), hk1⟩
      case round =>
        obtain ⟨k, t, hk, rfl, hL, ht, hkw⟩ := hrel
        have cc : ∀ (p : Addr) (x : Value), p.block < w.heap.size → w.cell? p = some x → wr.cell? p = some x := fun p x hp h => (World.cell?_of_block (w := w) (hkw.block p.block hp (fun h => h))).trans h
        have p0 := cc ⟨O, 0, none⟩ _ hO o0
        have p1 := cc ⟨O, 1, none⟩ _ hO o1
        have p2 := cc ⟨O, 2, none⟩ _ hO o2
        have p3 := cc ⟨O, 3, none⟩ _ hO o3
        clear cc
        have heq := eq_nil27
        rcases hL with ⟨rfl, hL⟩ | ⟨rfl, hL⟩ | ⟨rfl, hL⟩
        · obtain ⟨hTab, hown⟩ := hL
          have c39 : wr.cell? ⟨w.heap.size + 1, 39, none⟩ = some (.slice none 0 0) := by rw [cell_of_heap hTab]; exact tab_39 _ _ _
          have c256 : wr.cell? ⟨w.heap.size + 1, 256, none⟩ = some t := by rw [cell_of_heap hTab]; exact tab_256 _ _ _
          have hcv : (convert 27 9 (.slice (some ⟨wr.heap.size, 0, none⟩) 1 1)).run Try.prog (wr.alloc (.cells #[.int .u8 39] 5)) = .ok (.string s39) (wr.alloc (.cells #[.int .u8 39] 5)) := str_of_byte wr 39 s39 rfl
          obtain ⟨ao, tc, hv⟩ := slice_of_own9 hown
          subst hv
          have hSlt := lt_of_heap hTab
          have hSne : (Value.slice ao 0 tc).ownBlock ≠ some (w.heap.size + 1) := own_ne9 hown hTab (by decide)
          go_wp2_with (at_builtin; refine wpList_append_own_at _ rfl _ _ 31 rfl 0 9 i0 _ 1 16 Try.underlying31 hi hz0 hz1 hz2 rfl (by decide) (.slice ao 0 tc) 0 [] rfl ?own ⟨wr.heap.size + 1, 0, none⟩ 1 1 [.string s39] rfl rfl ?news ?one ?c3 ?c4 ?c5 ?_)
          case own => exact (hown.alloc _).alloc _
          case news => exact news_one wr _ _
          case one => intro u hu; simp at hu; subst hu; rfl
          case c3 => unfold maxLen; omega
          case c4 => omega
          case c5 => exact Nat.zero_le _
          intro v' w2 hown' hgrow _ hat
          have HA : Hid (v'.ownBlock = (Value.slice ao 0 tc).ownBlock ∨ v'.ownBlock = some (wr.heap.size + 1 + 1)) := hat
          clear hat
          have kg : Kept (fun k => (Value.slice ao 0 tc).ownBlock = some k) wr w2 := ((Kept.alloc wr _ _).trans (Kept.alloc _ _ _) (fun _ _ h => h)).trans (Kept.grown hgrow) (fun _ _ h => h)
          have hTab2 := hTab.kept kg hSne
          obtain ⟨ao2, tc2, hv2⟩ := slice_of_own9 hown'
          subst hv2
          have d256 : w2.cell? ⟨w.heap.size + 1, 256, none⟩ = some (.slice ao 0 tc) := by rw [cell_of_heap hTab2]; exact tab_256 _ _ _
          have f256 : w2.frozen? ⟨w.heap.size + 1, 256, none⟩ = false := frozen_of_heap hTab2 _
          have hTab3 := hTab2.put256 (.slice ao2 (0 + 1) tc2)
          have kS := Kept.setCell w2 ⟨w.heap.size + 1, 256, none⟩ (.slice ao2 (0 + 1) tc2)
          have hTab4 : TabAt (w.heap.size + 1) (.slice none 0 0) (.slice none 0 0) (.slice ao2 (0 + 1) tc2) (Lib.bytesWorld (w2.setCell ⟨w.heap.size + 1, 256, none⟩ (.slice ao2 (0 + 1) tc2)) 5 s9239) := hTab3.kept (kept_bytes _ _) (fun h => h)
          have g39 : (Lib.bytesWorld (w2.setCell ⟨w.heap.size + 1, 256, none⟩ (.slice ao2 (0 + 1) tc2)) 5 s9239).cell? ⟨w.heap.size + 1, 39, none⟩ = some (.slice none 0 0) := by rw [cell_of_heap hTab4]; exact tab_39 _ _ _
          have j39 : (Lib.bytesWorld (w2.setCell ⟨w.heap.size + 1, 256, none⟩ (.slice ao2 (0 + 1) tc2)) 5 s9239).frozen? ⟨w.heap.size + 1, 39, none⟩ = false := frozen_of_heap hTab4 _
          have hbc := bytes_conv s9239
          go_wp2
          go_roundw
          case rel =>
            have k1 := hkw.trans kg (fun i hi hs => by have := ht i hs; omega)
            have k2 := k1.trans kS (fun i hi hs => by simp at hs; omega)
            have k3 := k2.trans (kept_bytes _ s9239) (fun _ _ h => h)
            have hTab5 := hTab4.put39 (.slice (some ⟨w2.heap.size, 0, none⟩) 2 (grownCap (w2.setCell ⟨w.heap.size + 1, 256, none⟩ (.slice ao2 (0 + 1) tc2)) 2 0 5))
            have kS2 := Kept.setCell (Lib.bytesWorld (w2.setCell ⟨w.heap.size + 1, 256, none⟩ (.slice ao2 (0 + 1) tc2)) 5 s9239) ⟨w.heap.size + 1, 39, none⟩ (.slice (some ⟨w2.heap.size, 0, none⟩) 2 (grownCap (w2.setCell ⟨w.heap.size + 1, 256, none⟩ (.slice ao2 (0 + 1) tc2)) 2 0 5))
            have k4 := k3.trans kS2 (fun i hi hs => by simp at hs; omega)
            have kb := kept_bytes (w2.setCell ⟨w.heap.size + 1, 256, none⟩ (.slice ao2 (0 + 1) tc2)) s9239
            have own2 := own_ne9 hown' hTab2 (by decide)
            have hown5 : (((Lib.bytesWorld (w2.setCell ⟨w.heap.size + 1, 256, none⟩ (.slice ao2 (0 + 1) tc2)) 5 s9239).setCell ⟨w.heap.size + 1, 39, none⟩ (.slice (some ⟨w2.heap.size, 0, none⟩) 2 (grownCap (w2.setCell ⟨w.heap.size + 1, 256, none⟩ (.slice ao2 (0 + 1) tc2)) 2 0 5)))).ownsRow 0 9 1 (.slice ao2 (0 + 1) tc2) (0 + 1) _ := own_kept9 (own_kept9 (own_kept9 hown' kS (fun g hg e => own2 (by rw [hg, e]))) kb (fun _ _ h => h)) kS2 (fun g hg e => own2 (by rw [hg, e]))
            have htwo := two_new (w2.setCell ⟨w.heap.size + 1, 256, none⟩ (.slice ao2 (0 + 1) tc2)) s9239
            have hz2w : (w2.setCell ⟨w.heap.size + 1, 256, none⟩ (.slice ao2 (0 + 1) tc2)).heap.size = w2.heap.size := by simp [World.setCell]
            have hnew := two_of (w2.setCell ⟨w.heap.size + 1, 256, none⟩ (.slice ao2 (0 + 1) tc2)) s9239 92 39 rfl (w.heap.size + 1) 39 (.slice (some ⟨w2.heap.size, 0, none⟩) 2 (grownCap (w2.setCell ⟨w.heap.size + 1, 256, none⟩ (.slice ao2 (0 + 1) tc2)) 2 0 5)) (grownCap (w2.setCell ⟨w.heap.size + 1, 256, none⟩ (.slice ao2 (0 + 1) tc2)) 2 0 5) (by rw [hz2w]; exact lt_of_heap hTab2)
            rw [hz2w] at hnew
            refine ⟨0 + 1, .slice ao2 (0 + 1) tc2, by omega, by go_num, ?_, ?_, k4⟩
            · exact Or.inr (Or.inl ⟨rfl, _, hTab5, hown5, hnew⟩)
            · intro g hg
              have := hkw.size
              rcases HA.out with h | h
              · exact ht g (h ▸ hg)
              · rw [h] at hg; injection hg with hg; omega
          case measure => simp [intOf]
        · obtain ⟨aa, hTab, hown, hA1⟩ := hL
          have c39 : wr.cell? ⟨w.heap.size + 1, 92, none⟩ = some (.slice none 0 0) := by rw [cell_of_heap hTab]; exact tab_92 _ _ _
          have c256 : wr.cell? ⟨w.heap.size + 1, 256, none⟩ = some t := by rw [cell_of_heap hTab]; exact tab_256 _ _ _
          have hcv : (convert 27 9 (.slice (some ⟨wr.heap.size, 0, none⟩) 1 1)).run Try.prog (wr.alloc (.cells #[.int .u8 92] 5)) = .ok (.string s92) (wr.alloc (.cells #[.int .u8 92] 5)) := str_of_byte wr 92 s92 rfl
          obtain ⟨ao, tc, hv⟩ := slice_of_own9 hown
          subst hv
          have hSlt := lt_of_heap hTab
          have hSne : (Value.slice ao 1 tc).ownBlock ≠ some (w.heap.size + 1) := own_ne9 hown hTab (by decide)
          go_wp2_with (at_builtin; refine wpList_append_own_at _ rfl _ _ 31 rfl 0 9 i0 _ 1 16 Try.underlying31 hi hz0 hz1 hz2 rfl (by decide) (.slice ao 1 tc) 1 [.string s39] rfl ?own ⟨wr.heap.size + 1, 0, none⟩ 1 1 [.string s92] rfl rfl ?news ?one ?c3 ?c4 ?c5 ?_)
          case own => exact (hown.alloc _).alloc _
          case news => exact news_one wr _ _
          case one => intro u hu; simp at hu; subst hu; rfl
          case c3 => unfold maxLen; omega
          case c4 => omega
          case c5 => exact Nat.zero_le _
          intro v' w2 hown' hgrow _ hat
          have HA : Hid (v'.ownBlock = (Value.slice ao 1 tc).ownBlock ∨ v'.ownBlock = some (wr.heap.size + 1 + 1)) := hat
          clear hat
          have kg : Kept (fun k => (Value.slice ao 1 tc).ownBlock = some k) wr w2 := ((Kept.alloc wr _ _).trans (Kept.alloc _ _ _) (fun _ _ h => h)).trans (Kept.grown hgrow) (fun _ _ h => h)
          have hTab2 := hTab.kept kg hSne
          obtain ⟨ao2, tc2, hv2⟩ := slice_of_own9 hown'
          subst hv2
          have d256 : w2.cell? ⟨w.heap.size + 1, 256, none⟩ = some (.slice ao 1 tc) := by rw [cell_of_heap hTab2]; exact tab_256 _ _ _
          have f256 : w2.frozen? ⟨w.heap.size + 1, 256, none⟩ = false := frozen_of_heap hTab2 _
          have hTab3 := hTab2.put256 (.slice ao2 (1 + 1) tc2)
          have kS := Kept.setCell w2 ⟨w.heap.size + 1, 256, none⟩ (.slice ao2 (1 + 1) tc2)
          have hTab4 : TabAt (w.heap.size + 1) aa (.slice none 0 0) (.slice ao2 (1 + 1) tc2) (Lib.bytesWorld (w2.setCell ⟨w.heap.size + 1, 256, none⟩ (.slice ao2 (1 + 1) tc2)) 5 s9292) := hTab3.kept (kept_bytes _ _) (fun h => h)
          have g39 : (Lib.bytesWorld (w2.setCell ⟨w.heap.size + 1, 256, none⟩ (.slice ao2 (1 + 1) tc2)) 5 s9292).cell? ⟨w.heap.size + 1, 92, none⟩ = some (.slice none 0 0) := by rw [cell_of_heap hTab4]; exact tab_92 _ _ _
          have j39 : (Lib.bytesWorld (w2.setCell ⟨w.heap.size + 1, 256, none⟩ (.slice ao2 (1 + 1) tc2)) 5 s9292).frozen? ⟨w.heap.size + 1, 92, none⟩ = false := frozen_of_heap hTab4 _
          have hbc := bytes_conv s9292
          go_wp2
          go_roundw
          case rel =>
            have k1 := hkw.trans kg (fun i hi hs => by have := ht i hs; omega)
            have k2 := k1.trans kS (fun i hi hs => by simp at hs; omega)
            have k3 := k2.trans (kept_bytes _ s9292) (fun _ _ h => h)
            have hTab5 := hTab4.put92 (.slice (some ⟨w2.heap.size, 0, none⟩) 2 (grownCap (w2.setCell ⟨w.heap.size + 1, 256, none⟩ (.slice ao2 (1 + 1) tc2)) 2 0 5))
            have kS2 := Kept.setCell (Lib.bytesWorld (w2.setCell ⟨w.heap.size + 1, 256, none⟩ (.slice ao2 (1 + 1) tc2)) 5 s9292) ⟨w.heap.size + 1, 92, none⟩ (.slice (some ⟨w2.heap.size, 0, none⟩) 2 (grownCap (w2.setCell ⟨w.heap.size + 1, 256, none⟩ (.slice ao2 (1 + 1) tc2)) 2 0 5))
            have k4 := k3.trans kS2 (fun i hi hs => by simp at hs; omega)
            have kb := kept_bytes (w2.setCell ⟨w.heap.size + 1, 256, none⟩ (.slice ao2 (1 + 1) tc2)) s9292
            have own2 := own_ne9 hown' hTab2 (by decide)
            have hown5 : (((Lib.bytesWorld (w2.setCell ⟨w.heap.size + 1, 256, none⟩ (.slice ao2 (1 + 1) tc2)) 5 s9292).setCell ⟨w.heap.size + 1, 92, none⟩ (.slice (some ⟨w2.heap.size, 0, none⟩) 2 (grownCap (w2.setCell ⟨w.heap.size + 1, 256, none⟩ (.slice ao2 (1 + 1) tc2)) 2 0 5)))).ownsRow 0 9 1 (.slice ao2 (1 + 1) tc2) (1 + 1) _ := own_kept9 (own_kept9 (own_kept9 hown' kS (fun g hg e => own2 (by rw [hg, e]))) kb (fun _ _ h => h)) kS2 (fun g hg e => own2 (by rw [hg, e]))
            have htwo := two_new (w2.setCell ⟨w.heap.size + 1, 256, none⟩ (.slice ao2 (1 + 1) tc2)) s9292
            have hz2w : (w2.setCell ⟨w.heap.size + 1, 256, none⟩ (.slice ao2 (1 + 1) tc2)).heap.size = w2.heap.size := by simp [World.setCell]
            have hnew := two_of (w2.setCell ⟨w.heap.size + 1, 256, none⟩ (.slice ao2 (1 + 1) tc2)) s9292 92 92 rfl (w.heap.size + 1) 92 (.slice (some ⟨w2.heap.size, 0, none⟩) 2 (grownCap (w2.setCell ⟨w.heap.size + 1, 256, none⟩ (.slice ao2 (1 + 1) tc2)) 2 0 5)) (grownCap (w2.setCell ⟨w.heap.size + 1, 256, none⟩ (.slice ao2 (1 + 1) tc2)) 2 0 5) (by rw [hz2w]; exact lt_of_heap hTab2)
            rw [hz2w] at hnew
            refine ⟨1 + 1, .slice ao2 (1 + 1) tc2, by omega, by go_num, ?_, ?_, k4⟩
            · have t1 := hA1.kept kg (fun g cs fr h5 hF => own_ne9 hown h5 (by decide) hF)
              have n2 : ∀ {wx : World}, TabAt (w.heap.size + 1) aa (.slice none 0 0) (.slice ao2 (1 + 1) tc2) wx ∨ TabAt (w.heap.size + 1) aa (.slice none 0 0) (.slice ao 1 tc) wx → ∀ g cs fr, wx.heap[g]? = some (.cells cs 5 fr) → ¬ g = w.heap.size + 1 := tab_not5
              have t2 := t1.kept kS (n2 (Or.inr hTab2))
              have t3 := t2.kept kb (fun _ _ _ _ h => h)
              have t4 := t3.kept kS2 (n2 (Or.inl hTab4))
              exact Or.inr (Or.inr ⟨rfl, _, _, hTab5, hown5, t4, hnew⟩)
            · intro g hg
              have := hkw.size
              rcases HA.out with h | h
              · exact ht g (h ▸ hg)
              · rw [h] at hg; injection hg with hg; omega
          case measure => simp [intOf]
        · obtain ⟨aa, bb, hTab, hown, hA1, hB1⟩ := hL
          go_wp2
          go_ret
          exact ⟨w.heap.size + 1, t, rfl, by omega, Or.inr (Or.inr ⟨rfl, aa, bb, hTab, hown, hA1, hB1⟩), hkw⟩
end Go.Proofs.Qxb6615994a
