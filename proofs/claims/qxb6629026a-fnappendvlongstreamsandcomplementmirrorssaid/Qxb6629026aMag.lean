import Derived.Test.Qxb6629026aLen
import Derived.Laws.BitsAllLaws
namespace Go.Proofs.Qxb6629026a
open Go.RowKit
set_option linter.unusedVariables false
theorem u64w (n : Int) : IntKind.u64.wrap n = n % 18446744073709551616 := by
  show (if (false && decide (n % (2 ^ 64 : Int) ≥ (2 ^ 63 : Int))) = true then n % (2 ^ 64 : Int) - (2 ^ 64 : Int) else n % (2 ^ 64 : Int)) = _
  rw [Bool.false_and, if_neg (by simp)]
  rfl
theorem u8w (n : Int) : IntKind.u8.wrap n = n % 256 := by
  show (if (false && decide (n % (2 ^ 8 : Int) ≥ (2 ^ 7 : Int))) = true then n % (2 ^ 8 : Int) - (2 ^ 8 : Int) else n % (2 ^ 8 : Int)) = _
  rw [Bool.false_and, if_neg (by simp)]
  rfl
theorem xor_ones (n : Nat) (h : n < 18446744073709551616) : 18446744073709551615 ^^^ n = 18446744073709551615 - n := by
  apply Nat.eq_of_testBit_eq
  intro i
  have e1 : (18446744073709551615 : Nat) = 2 ^ 64 - 1 := by decide
  have e2 : 18446744073709551615 - n = 2 ^ 64 - (n + 1) := by
    rw [show (2 ^ 64 : Nat) = 18446744073709551616 by decide]; omega
  rw [e2, Nat.testBit_two_pow_sub_succ (by rw [show (2 ^ 64 : Nat) = 18446744073709551616 by decide]; exact h), Nat.testBit_xor, e1, Nat.testBit_two_pow_sub_one]
  by_cases hi : i < 64
  · simp [hi]
  · have : n.testBit i = false := Nat.testBit_lt_two_pow (Nat.lt_of_lt_of_le h (by
      rw [show (18446744073709551616 : Nat) = 2 ^ 64 by decide]; exact Nat.pow_le_pow_right (by omega) (by omega)))
    simp [hi, this]
/-- '^u' on a uint64. -/
theorem compl64 (x : Int) (h0 : 0 ≤ x) (h1 : x < 18446744073709551616) : bits .xor .u64 IntKind.u64.max x = 18446744073709551615 - x := by
  have hm : IntKind.u64.max = 18446744073709551615 := by decide
  rw [hm, u64_xor _ _ (by omega) (by omega) h0 h1]
  rw [show (18446744073709551615 : Int).toNat = 18446744073709551615 from rfl, xor_ones _ (by omega)]
  omega
/-- The magnitude. -/
def mag (v : Int) : Int := if v < 0 then -v - 1 else v
theorem compl_neg (v : Int) (h0 : -9223372036854775808 ≤ v) (h1 : v < 0) : bits .xor .u64 IntKind.u64.max (IntKind.u64.wrap v) = mag v := by
  rw [u64w, compl64 _ (by omega) (by omega)]
  unfold mag; rw [if_pos h1]; omega
theorem ret_uk {u a b : Int} (h : a = b) : Ending.returned (.tuple #[.int .u64 u, .int .i64 a]) = .returned (.tuple #[.int .u64 u, .int .i64 b]) := by rw [h]
/-- u wants k bytes. -/
def KB (u : Int) (k : Nat) : Prop := 1 ≤ k ∧ k ≤ 8 ∧ 256 ^ (k - 1) ≤ u ∧ u < 256 ^ k
theorem len64_any (x : Int) (k : Nat) (h : KB x k) (w : World) :
    Calls Try.prog 16 #[.int .u64 x] w fun e w' => ∃ L : Int, 8 * ((k : Int) - 1) + 1 ≤ L ∧ L ≤ 8 * ((k : Int) - 1) + 8 ∧ e = .returned (.int .i64 L) ∧ w' = w := by
  obtain ⟨h1, h2, h3, h4⟩ := h
  match k, h1, h2, h3, h4 with
  | 1, _, _, h0, h1 =>
    have a0 : 1 ≤ x := h0
    have a1 : x < 256 := h1
    exact len64_0 x a0 (by omega) w
  | 2, _, _, h0, h1 =>
    have a0 : 256 ≤ x := h0
    have a1 : x < 65536 := h1
    exact len64_1 x a0 (by omega) w
  | 3, _, _, h0, h1 =>
    have a0 : 65536 ≤ x := h0
    have a1 : x < 16777216 := h1
    exact len64_2 x a0 (by omega) w
  | 4, _, _, h0, h1 =>
    have a0 : 16777216 ≤ x := h0
    have a1 : x < 4294967296 := h1
    exact len64_3 x a0 (by omega) w
  | 5, _, _, h0, h1 =>
    have a0 : 4294967296 ≤ x := h0
    have a1 : x < 1099511627776 := h1
    exact len64_4 x a0 (by omega) w
  | 6, _, _, h0, h1 =>
    have a0 : 1099511627776 ≤ x := h0
    have a1 : x < 281474976710656 := h1
    exact len64_5 x a0 (by omega) w
  | 7, _, _, h0, h1 =>
    have a0 : 281474976710656 ≤ x := h0
    have a1 : x < 72057594037927936 := h1
    exact len64_6 x a0 (by omega) w
  | 8, _, _, h0, h1 =>
    have a0 : 72057594037927936 ≤ x := h0
    have a1 : x < 18446744073709551616 := h1
    exact len64_7 x a0 (by omega) w
/-- Each magnitude wants some number of bytes. -/
theorem KB_ex (u : Int) (h0 : 1 ≤ u) (h1 : u < 18446744073709551616) : ∃ k, KB u k := by
  unfold KB
  by_cases a1 : u < 256
  · exact ⟨1, by omega, by omega, by show (1 : Int) ≤ u; omega, a1⟩
  by_cases a2 : u < 65536
  · exact ⟨2, by omega, by omega, by show (256 : Int) ≤ u; omega, a2⟩
  by_cases a3 : u < 16777216
  · exact ⟨3, by omega, by omega, by show (65536 : Int) ≤ u; omega, a3⟩
  by_cases a4 : u < 4294967296
  · exact ⟨4, by omega, by omega, by show (16777216 : Int) ≤ u; omega, a4⟩
  by_cases a5 : u < 1099511627776
  · exact ⟨5, by omega, by omega, by show (4294967296 : Int) ≤ u; omega, a5⟩
  by_cases a6 : u < 281474976710656
  · exact ⟨6, by omega, by omega, by show (1099511627776 : Int) ≤ u; omega, a6⟩
  by_cases a7 : u < 72057594037927936
  · exact ⟨7, by omega, by omega, by show (281474976710656 : Int) ≤ u; omega, a7⟩
  · exact ⟨8, by omega, by omega, by show (72057594037927936 : Int) ≤ u; omega, h1⟩
set_option maxHeartbeats 1000000 in
set_option maxRecDepth 100000 in
theorem mag_short (v : Int) (h0 : -112 ≤ v) (h1 : v ≤ 127) (w : World) :
    Calls Try.prog 15 #[.int .i64 v] w fun e w' => e = .returned (.tuple #[.int .u64 0, .int .i64 0]) ∧ w' = w := by
  go_enter Try.func15, Try.ntmps15
  go_wp2
  go_ret2
  exact ⟨rfl, rfl⟩
set_option maxHeartbeats 1000000 in
set_option maxRecDepth 100000 in
theorem mag_neg (v : Int) (k : Nat) (h0 : -9223372036854775808 ≤ v) (h1 : v < -112) (hk : KB (mag v) k) (w : World) :
    Calls Try.prog 15 #[.int .i64 v] w fun e w' => e = .returned (.tuple #[.int .u64 (mag v), .int .i64 k]) ∧ w' = w := by
  have hc := compl_neg v h0 (by omega)
  have HC := show Hid _ from hc
  clear hc
  go_enter Try.func15, Try.ntmps15
  go_wp2_with fail
  rw [HC.out]
  refine (len64_any _ k hk _).mono ?_
  rintro e w' ⟨L, hL1, hL2, rfl, rfl⟩
  have hk1 := hk.1
  have hk2 := hk.2.1
  go_wp2_with fail
  go_ret2
  exact ⟨ret_uk (by omega), rfl⟩
set_option maxHeartbeats 1000000 in
set_option maxRecDepth 100000 in
theorem mag_pos (v : Int) (k : Nat) (h0 : v ≤ 9223372036854775807) (h1 : 127 < v) (hk : KB (mag v) k) (w : World) :
    Calls Try.prog 15 #[.int .i64 v] w fun e w' => e = .returned (.tuple #[.int .u64 (mag v), .int .i64 k]) ∧ w' = w := by
  have hm : mag v = v := by unfold mag; rw [if_neg (by omega)]
  rw [hm] at hk ⊢
  clear hm
  have hk1 := hk.1
  have hk2 := hk.2.1
  go_enter Try.func15, Try.ntmps15
  go_wp2_with fail
  refine (len64_any _ k hk _).mono ?_
  rintro e w' ⟨L, hL1, hL2, rfl, rfl⟩
  go_wp2_with fail
  go_ret2
  exact ⟨ret_uk (by omega), rfl⟩
/-- One of the values that go on beyond the first byte, with its number of bytes. -/
def Long (v : Int) (k : Nat) : Prop := -9223372036854775808 ≤ v ∧ v ≤ 9223372036854775807 ∧ (v < -112 ∨ 127 < v) ∧ KB (mag v) k
theorem mag_long (v : Int) (k : Nat) (h : Long v k) (w : World) :
    Calls Try.prog 15 #[.int .i64 v] w fun e w' => e = .returned (.tuple #[.int .u64 (mag v), .int .i64 k]) ∧ w' = w := by
  obtain ⟨h1, h2, h3 | h3, h4⟩ := h
  · exact mag_neg v k h1 h3 h4 w
  · exact mag_pos v k h2 h3 h4 w
/-- The byte at place j of the encoding of a value of k bytes. -/
def encAt (v : Int) (k j : Nat) : Int := if j = 0 then (if v < 0 then 136 - (k : Int) else 144 - (k : Int)) else mag v / 256 ^ (k - j) % 256
theorem mag_lt (v : Int) (h0 : -9223372036854775808 ≤ v) (h1 : v ≤ 9223372036854775807) : 0 ≤ mag v ∧ mag v < 9223372036854775808 := by
  unfold mag; split <;> omega
end Go.Proofs.Qxb6629026a
