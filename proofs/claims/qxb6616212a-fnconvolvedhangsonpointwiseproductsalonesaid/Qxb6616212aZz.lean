import Derived.Test.Qxb6616212aConv
namespace Go.Proofs.Qxb6616212a
open Go.RowKit

set_option maxHeartbeats 400000 in
set_option maxRecDepth 100000 in
theorem bytes5_any (p root inv r2 cube ci : Nat) (ao bo : Option Addr) (n m ca cb : Nat) (hn : n ≤ 9223372036854775807) (hm : m ≤ 9223372036854775807) (w : World) :
    Calls Try.prog 16 #[.int .u64 p, .int .u64 root, .int .u64 inv, .int .u64 r2, .int .u64 cube, .int .u64 ci, .slice ao n ca, .slice bo m cb] w fun e w' => ∃ r, e = .returned (.bool r) ∧ w = w' := by
  by_cases h1 : 1048576 < n
  · go_enter Try.func16, Try.ntmps16
    go_wp2_with fail
    go_ret
    exact ⟨_, rfl, rfl⟩
  · by_cases h2 : 1048576 < m
    · go_enter Try.func16, Try.ntmps16
      go_wp2_with fail
      go_ret
      exact ⟨_, rfl, rfl⟩
    · by_cases h3 : 1048576 < n + m
      · go_enter Try.func16, Try.ntmps16
        go_wp2_with fail
        go_ret
        exact ⟨_, rfl, rfl⟩
      · go_enter Try.func16, Try.ntmps16
        go_wp2_with fail
        go_ret
        exact ⟨_, rfl, rfl⟩

set_option maxHeartbeats 400000 in
set_option maxRecDepth 100000 in
theorem bytes6_any (p root inv r2 cube ci : Nat) (ao bo : Option Addr) (n m ca cb : Nat) (hn : n ≤ 9223372036854775807) (hm : m ≤ 9223372036854775807) (w : World) :
    Calls Try.prog 23 #[.int .u64 p, .int .u64 root, .int .u64 inv, .int .u64 r2, .int .u64 cube, .int .u64 ci, .slice ao n ca, .slice bo m cb] w fun e w' => ∃ r, e = .returned (.bool r) ∧ w = w' := by
  by_cases h1 : 1048576 < n
  · go_enter Try.func23, Try.ntmps23
    go_wp2_with fail
    go_ret
    exact ⟨_, rfl, rfl⟩
  · by_cases h2 : 1048576 < m
    · go_enter Try.func23, Try.ntmps23
      go_wp2_with fail
      go_ret
      exact ⟨_, rfl, rfl⟩
    · by_cases h3 : 1048576 < n + m
      · go_enter Try.func23, Try.ntmps23
        go_wp2_with fail
        go_ret
        exact ⟨_, rfl, rfl⟩
      · go_enter Try.func23, Try.ntmps23
        go_wp2_with fail
        go_ret
        exact ⟨_, rfl, rfl⟩

set_option maxHeartbeats 400000 in
set_option maxRecDepth 100000 in
theorem zzconv_any (M : Nat) (m : Md) (hg : Good m) (k : Nat) (b : Bool) (hk : 2 ≤ k) (n : Nat) (hn : n = len k b) (hn6 : n ≤ 65536) (A Bk : Nat) (x z : Nat → Nat) (f : Nat → Int) (o o3 : Held) (w : World) (hS : St w M m k o o3)
    (rA : Row w A n x) (rB : Row w Bk n z) (hAB : A ≠ Bk) (hA : ¬ Own M m o o3 A) (hx : Lo (2 * m.p) n x) (hz : Lo (2 * m.p) n z) (hf : ∀ i, i < n → Eqm m.p ((x i : Int) * z i * (n ^ (m.p - 2) % m.p : Nat)) (f i)) :
    Calls Try.prog 22 #[.pointer (some ⟨M, 0, none⟩), .slice (some ⟨A, 0, none⟩) n n, .slice (some ⟨Bk, 0, none⟩) n n] w fun e w' => e = .returned (.slice (some ⟨A, 0, none⟩) n n) ∧ CPost M m k b n A f o o3 w w' := by
  have hc := conv_any M m hg k b hk n hn hn6 A Bk x z f o o3 w hS rA rB hAB hA hx hz hf
  clear hn hf
  go_enter Try.func22, Try.ntmps22
  go_wp2_with fail
  refine hc.mono ?_
  rintro e w2 ⟨rfl, r⟩
  clear hc
  go_wp2_with fail
  go_ret
  exact ⟨rfl, r⟩

end Go.Proofs.Qxb6616212a
