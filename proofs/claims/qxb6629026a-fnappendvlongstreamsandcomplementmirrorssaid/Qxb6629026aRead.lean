import Derived.Test.Qxb6629026aCopy
namespace Go.Proofs.Qxb6629026a
open Go.RowKit
set_option linter.unusedVariables false
/-- A []byte that can be read. -/
def RowAt (w : World) (a : Option Addr) (n : Nat) (z : List Int) : Prop :=
  z.length = n ∧ (n = 0 ∨ ∃ g off, a = some ⟨g, off, none⟩ ∧ ∀ j, j < n → w.cell? ⟨g, off + j, none⟩ = some (.int .u8 (z.getD j 0)))
theorem RowAt.ofOwn {w : World} {b n c : Nat} {a : Option Addr} {z : List Int} (h : w.ownsRow b 5 1 (.slice a n c) n (u8s z)) : RowAt w a n z := by
  have hl : z.length = n := by simpa [u8s] using h.1
  refine ⟨hl, ?_⟩
  by_cases h0 : n = 0
  · exact .inl h0
  · obtain ⟨g, rfl, hc⟩ := own_at h (k := 0) (by omega)
    exact .inr ⟨g, 0, rfl, fun j hj => by rw [Nat.zero_add]; exact hc j _ (u8s_at z j (by omega))⟩
theorem RowAt.at {w : World} {a : Option Addr} {n k : Nat} {z : List Int} (h : RowAt w a n z) (hk : k < n) : ∃ g off, a = some ⟨g, off, none⟩ ∧ ∀ j, j < n → w.cell? ⟨g, off + j, none⟩ = some (.int .u8 (z.getD j 0)) := by
  rcases h.2 with h0 | h'
  · omega
  · exact h'
theorem RowAt.drew {w : World} {a : Option Addr} {n m : Nat} {z : List Int} (h : RowAt w a n z) : RowAt (w.drewN m) a n z := h
set_option maxHeartbeats 1000000 in
theorem pre_any (a b : Option Addr) (n c m d : Nat) (x y : List Int) (w : World) (hx : RowAt w a n x) (hy : RowAt w b m y) (hmn : m ≤ n) (hn : n ≤ 3000000) (he : ∀ j, j < m → x.getD j 0 = y.getD j 0) :
    Calls Try.prog 8 #[.slice a n c, .slice b m d] w fun e w' => e = .returned (.bool true) ∧ ∃ q, w' = w.drewN q := by
  go_enter Try.func8, Try.ntmps8
  go_wp2_with fail
  go_loopw [5] (fun i wr => ∃ k q : Nat, k ≤ m ∧ i = .int .i64 k ∧ wr = w.drewN q) (fun i _ => m - (intOf i).toNat)
  case atStart => exact ⟨0, 0, Nat.zero_le _, rfl, rfl⟩
  case round =>
    obtain ⟨k, q, hk, rfl, rfl⟩ := hrel
    by_cases hlt : k < m
    · obtain ⟨g1, o1, rfl, hc1⟩ := hx.at (k := k) (by omega)
      obtain ⟨g2, o2, rfl, hc2⟩ := hy.at hlt
      have d1 := hc1 k (by omega)
      have d2 := hc2 k hlt
      rw [he k hlt] at d1
      have hkn : k < n := by omega
      clear hc1 hc2 hx hy he
      generalize y.getD k 0 = v at *
      go_wp2_with fail
      go_quiet (fail)
      go_wp2_with fail
      go_roundw
      case rel => exact ⟨k + 1, _, hlt, by go_num, rfl⟩
      case measure => simp [intOf]; omega
    · go_wp2_with fail
      go_ret
      exact ⟨rfl, q, rfl⟩
set_option maxHeartbeats 1000000 in
theorem eq_any (a b : Option Addr) (n c d : Nat) (x : List Int) (w : World) (hx : RowAt w a n x) (hy : RowAt w b n x) (hn : n ≤ 3000000) :
    Calls Try.prog 10 #[.slice a n c, .slice b n d] w fun e w' => e = .returned (.bool true) ∧ ∃ q, w' = w.drewN q := by
  go_enter Try.func10, Try.ntmps10
  go_wp2_with fail
  go_loopw [5] (fun i wr => ∃ k q : Nat, k ≤ n ∧ i = .int .i64 k ∧ wr = w.drewN q) (fun i _ => n - (intOf i).toNat)
  case atStart => exact ⟨0, 0, Nat.zero_le _, rfl, rfl⟩
  case round =>
    obtain ⟨k, q, hk, rfl, rfl⟩ := hrel
    by_cases hlt : k < n
    · obtain ⟨g1, o1, rfl, hc1⟩ := hx.at hlt
      obtain ⟨g2, o2, rfl, hc2⟩ := hy.at hlt
      have d1 := hc1 k hlt
      have d2 := hc2 k hlt
      clear hc1 hc2 hx hy
      generalize x.getD k 0 = v at *
      go_wp2_with fail
      go_quiet (fail)
      go_wp2_with fail
      go_roundw
      case rel => exact ⟨k + 1, _, hlt, by go_num, rfl⟩
      case measure => simp [intOf]; omega
    · go_wp2_with fail
      go_ret
      exact ⟨rfl, q, rfl⟩
theorem i8w_hi (x : Int) (h0 : 128 ≤ x) (h1 : x ≤ 255) : IntKind.i8.wrap x = x - 256 := by
  show (if (true && decide (x % (2 ^ 8 : Int) ≥ (2 ^ 7 : Int))) = true then x % (2 ^ 8 : Int) - (2 ^ 8 : Int) else x % (2 ^ 8 : Int)) = _
  rw [show (2 ^ 8 : Int) = 256 from rfl, show (2 ^ 7 : Int) = 128 from rfl, show x % 256 = x by omega, Bool.true_and, if_pos (by rw [decide_eq_true_eq]; omega)]
theorem ret_dec {a b : Int} {n : Value} (h : a = b) : Ending.returned (.tuple #[.int .i64 a, n, .bool true]) = .returned (.tuple #[.int .i64 b, n, .bool true]) := by rw [h]
set_option maxHeartbeats 1000000 in
theorem dec_short (a : Option Addr) (n c : Nat) (z : List Int) (v : Int) (w : World) (hz : RowAt w a n z) (hn1 : 1 ≤ n) (h0 : -112 ≤ v) (h1 : v ≤ 127) (hz0 : z.getD 0 0 = v % 256) :
    Calls Try.prog 12 #[.slice a n c] w fun e w' => e = .returned (.tuple #[.int .i64 v, .int .i64 1, .bool true]) ∧ w' = w := by
  obtain ⟨g, off, rfl, hc⟩ := hz.at (k := 0) (by omega)
  have c0 := hc 0 (by omega)
  rw [hz0, Nat.add_zero] at c0
  have hb0 : ((n : Int) == 0) = false := beq_eq_false_iff_ne.2 (by omega)
  clear hc hz hz0
  by_cases hv : 0 ≤ v
  · rw [show v % 256 = v by omega] at c0
    go_enter Try.func12, Try.ntmps12
    go_wp2_with fail
    go_ret3
    exact ⟨rfl, rfl⟩
  · rw [show v % 256 = v + 256 by omega] at c0
    have hw := i8w_hi (v + 256) (by omega) (by omega)
    rw [show v + 256 - 256 = v by omega] at hw
    go_enter Try.func12, Try.ntmps12
    go_wp2_with fail
    go_ret3
    exact ⟨rfl, rfl⟩
theorem or_byte (U x : Int) (h0 : 0 ≤ U) (h1 : U < 72057594037927936) (h2 : 0 ≤ x) (h3 : x < 256) : bits .or .u64 (U * 256) x = U * 256 + x := by
  rw [u64_or _ _ (by omega) (by omega) h2 (by omega)]
  obtain ⟨N, rfl⟩ := Int.eq_ofNat_of_zero_le h0
  obtain ⟨X, rfl⟩ := Int.eq_ofNat_of_zero_le h2
  have e1 : ((N : Int) * 256).toNat = N <<< 8 := by rw [Nat.shiftLeft_eq]; omega
  rw [e1, Int.toNat_natCast, ← Nat.shiftLeft_add_eq_or_of_lt (by omega : X < 2 ^ 8), Nat.shiftLeft_eq]
  omega
theorem div_back (M : Int) (p : Nat) : M / 256 ^ (p + 1) * 256 + M / 256 ^ p % 256 = M / 256 ^ p := by
  have hp : (0 : Int) ≤ 256 ^ p := Int.pow_nonneg (by omega)
  have e : M / 256 ^ (p + 1) = M / 256 ^ p / 256 := by rw [Int.ediv_ediv_of_nonneg hp, Int.pow_succ]
  rw [e]; omega
theorem top_zero (M : Int) (k : Nat) (h0 : 0 ≤ M) (h1 : M < 256 ^ k) : M / 256 ^ k = 0 := Int.ediv_eq_zero_of_lt h0 h1
theorem mid_small (M : Int) (p : Nat) (h0 : 0 ≤ M) (h1 : M < 9223372036854775808) : 0 ≤ M / 256 ^ (p + 1) ∧ M / 256 ^ (p + 1) < 72057594037927936 := by
  have hp : (0 : Int) ≤ 256 ^ p := Int.pow_nonneg (by omega)
  have e : M / 256 ^ (p + 1) = M / 256 ^ p / 256 := by rw [Int.ediv_ediv_of_nonneg hp, Int.pow_succ]
  have := shift_bound M p h0 h1
  rw [e]; omega
end Go.Proofs.Qxb6629026a
