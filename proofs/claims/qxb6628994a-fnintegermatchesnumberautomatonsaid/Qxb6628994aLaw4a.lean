import Derived.Test.Qxb6628994aClone
namespace Go.Proofs.Qxb6628994a
open Go.RowKit Go.IntWalk
set_option linter.unusedVariables false
theorem wrap64_id {x : Int} (h1 : -9223372036854775808 ≤ x) (h2 : x ≤ 9223372036854775807) : wrap64 x = x := by
  unfold wrap64
  omega
theorem pow18 (m : Nat) (h : m ≤ 18) : (10 : Int) ^ m ≤ 1000000000000000000 := by
  have : (10 : Nat) ^ m ≤ 10 ^ 18 := Nat.pow_le_pow_right (by omega) h
  have e : ((10 ^ m : Nat) : Int) = (10 : Int) ^ m := by simp
  rw [← e]; omega
theorem valN_small (z : List Int) (f m : Nat) (hd : ∀ j, j < m → dg (z.getD (f + j) 0)) (hm : m ≤ 18) : 0 ≤ valN z f m ∧ valN z f m < 10 ^ m := by
  induction m with
  | zero => exact ⟨Int.le_refl _, by simp [valN]⟩
  | succ m ih =>
    have ⟨h1, h2⟩ := ih (fun j hj => hd j (by omega)) (by omega)
    have ⟨h3, h4⟩ := hd m (by omega)
    have hp := pow18 m (by omega)
    have hp' := pow18 (m + 1) hm
    rw [Int.pow_succ] at hp' ⊢
    show 0 ≤ stepI _ _ ∧ stepI _ _ < _
    unfold stepI
    generalize valN z f m = v at *
    generalize z.getD (f + m) 0 = d at *
    generalize (10 : Int) ^ m = P at *
    rw [wrap64_id (x := v * 10) (by omega) (by omega), wrap64_id (by omega) (by omega)]
    omega
theorem valN_last (z : List Int) (f m : Nat) (hd : ∀ j, j < m + 1 → dg (z.getD (f + j) 0)) (hm : m + 1 ≤ 18) : valN z f (m + 1) = valN z f m * 10 + (z.getD (f + m) 0 - 48) := by
  have ⟨h1, h2⟩ := valN_small z f m (fun j hj => hd j (by omega)) (by omega)
  have ⟨h3, h4⟩ := hd m (by omega)
  have hp := pow18 (m + 1) hm
  rw [Int.pow_succ] at hp
  show stepI _ _ = _
  unfold stepI
  rw [wrap64_id (x := valN z f m * 10) (by omega) (by omega), wrap64_id (by omega) (by omega)]
/-- What may follow. -/
theorem IntAt.next {z : List Int} {i f k : Nat} (h : IntAt z i f k) (hk : k < z.length) : ¬ z.getD k 0 = 46 ∧ ¬ z.getD k 0 = 101 ∧ ¬ z.getD k 0 = 69 ∧ (dg (z.getD k 0) → k = f + 1 ∧ z.getD f 0 = 48) := by
  obtain ⟨⟨_, h2⟩, h3, h4, h5⟩ := h
  refine ⟨fun e => h3 ⟨hk, e⟩, fun e => h4 ⟨hk, e⟩, fun e => h5 ⟨hk, e⟩, fun hd => ?_⟩
  rcases h2 with ⟨h6, rfl⟩ | ⟨_, h6, _⟩
  · exact ⟨rfl, h6.2⟩
  · exact absurd hd (h6.2.2.2 hk)
theorem IntAt.zero {z : List Int} {i f k : Nat} (h : IntAt z i f k) (hz : z.getD f 0 = 48) : k = f + 1 := by
  have hlt := h.1.lt
  obtain ⟨⟨_, h2⟩, _⟩ := h
  rcases h2 with ⟨_, rfl⟩ | ⟨h6, _⟩
  · rfl
  · exact absurd ⟨by omega, hz⟩ h6
/-- Two scanners, over two clones of the data; nothing old has turned. -/
structure Two (w W : World) (n : Nat) (S1 S2 i1 i2 : Nat) (D1 D2 : Value) (s1 s2 : Bool) : Prop where
  sc1 : Sc W S1 D1 i1 s1
  sc2 : Sc W S2 D2 i2 s2
  bel : Below w.heap.size w W
theorem Sc.other {w w' : World} {S S' i : Nat} {D : Value} {b : Bool} (h : Sc w S D i b) (hg : w.grownBy w' (some S')) (hne : S ≠ S') : Sc w' S D i b := by
  unfold Sc; rw [hg.block S h.lt (by simpa using hne)]; exact h
theorem Sc.below {w w' : World} {S i : Nat} {D : Value} {b : Bool} (h : Sc w S D i b) (hg : Below w.heap.size w w') : Sc w' S D i b := by
  unfold Sc; rw [hg.block S h.lt]; exact h
theorem below_of_grown {w w1 w2 : World} {S : Nat} (h : Below w.heap.size w w1) (hg : w1.grownBy w2 (some S)) (hS : w.heap.size ≤ S) : Below w.heap.size w w2 :=
  h.grown hg h.size (fun k hk => by simp at hk; omega)
set_option maxHeartbeats 1000000 in
set_option maxRecDepth 100000 in
theorem law4_out (a : Option Addr) (len cap : Nat) (i d : Int) (w : World) (h : 1048576 < len ∨ i < 0 ∨ (len : Int) < i) (hl : len ≤ maxLen) :
    Calls Try.prog 4 #[.slice a len cap, .int .i64 i, .int .i64 d] w fun e w' => e = .returned (.bool true) ∧ Below w.heap.size w w' := by
  unfold maxLen at hl
  by_cases h1 : 1048576 < len
  · go_enter Try.func4, Try.ntmps4
    go_wp2
    go_ret
    exact ⟨rfl, Below.refl _ _⟩
  · by_cases h2 : i < 0
    · go_enter Try.func4, Try.ntmps4
      go_wp2
      go_ret
      exact ⟨rfl, Below.refl _ _⟩
    · have h3 : (len : Int) < i := by omega
      go_enter Try.func4, Try.ntmps4
      go_wp2
      go_ret
      exact ⟨rfl, Below.refl _ _⟩
set_option maxHeartbeats 1000000 in
set_option maxRecDepth 100000 in
theorem law4_no (a : Option Addr) (len cap i : Nat) (d : Int) (z : List Int) (w : World) (hR : Rd w a len z) (hn : len ≤ 1048576) (hi : i ≤ len) (h : ∀ f k, ¬ IntAt z i f k) :
    Calls Try.prog 4 #[.slice a len cap, .int .i64 i, .int .i64 d] w fun e w' => e = .returned (.bool true) ∧ Below w.heap.size w w' := by
  go_enter Try.func4, Try.ntmps4
  go_upto_region 7 with go_in
  go_wp2_with fail
  refine (clone_any a len cap z w hR hn).mono ?_
  rintro e w1 ⟨a1, c1, rfl, ho1, hb1⟩
  go_wp2_with fail
  refine (clone_any a len cap z w1 (hR.below hb1) hn).mono ?_
  rintro e w2 ⟨a2, c2, rfl, ho2, hb2⟩
  have ho1' := own_below ho1 hb2
  have hB2 := hb1.trans (hb2.mono hb1.size)
  clear ho1 hb1 hb2
  go_wp2_with fail
  refine (newSc a1 len c1 i w2).mono ?_
  rintro e w3 ⟨rfl, hS1, hb3⟩
  have ho1 := own_below ho1' hb3
  have ho2' := own_below ho2 hb3
  have hB3 := hB2.trans (hb3.mono hB2.size)
  have hs1 := hS1.lt
  have hle1 := hB2.size
  clear ho1' ho2 hB2 hb3
  generalize w2.heap.size = S1 at *
  go_wp2_with fail
  refine (newSc a2 len c2 i w3).mono ?_
  rintro e w4 ⟨rfl, hS2, hb4⟩
  have ho1' := own_below ho1 hb4
  have ho2 := own_below ho2' hb4
  have hB4 := hB3.trans (hb4.mono hB3.size)
  have hS1' := hS1.below hb4
  have hle2 := hB3.size
  clear ho1 ho2' hB3 hb4 hS1
  generalize w3.heap.size = S2 at *
  go_wp2_with fail
  refine (int_no S1 len c1 i _ a1 false z w4 _ hS1' ho1' hn hi h).mono ?_
  rintro e w5 ⟨rfl, hS1, ho1, hg5⟩
  have hB5 := below_of_grown hB4 hg5 hle1
  have hS2' := hS2.other hg5 (by omega)
  have ho2' := own_step ho2 hS1' hg5
  clear hS1' ho1' hB4 hS2 ho2 hg5
  go_wp2_with fail
  refine (int_no S2 len c2 i _ a2 false z w5 d hS2' ho2' hn hi h).mono ?_
  rintro e w6 ⟨rfl, hS2, ho2, hg6⟩
  have hB6 := below_of_grown hB5 hg6 hle2
  have hS1' := hS1.other hg6 (by omega)
  clear hS1 ho1 hB5 hS2' ho2' hg6 ho2 h hR
  go_wp2_with fail
  refine (zzOff _ _ _ _ _ hS1').mono ?_
  rintro e w' ⟨rfl, rfl⟩
  go_wp2_with fail
  refine (zzStop _ _ _ _ _ hS1').mono ?_
  rintro e w' ⟨rfl, rfl⟩
  go_wp2_with fail
  refine (zzOff _ _ _ _ _ hS2).mono ?_
  rintro e w' ⟨rfl, rfl⟩
  go_wp2_with fail
  refine (zzStop _ _ _ _ _ hS2).mono ?_
  rintro e w' ⟨rfl, rfl⟩
  go_wp2_with fail
  go_ret
  exact ⟨rfl, hB6⟩
end Go.Proofs.Qxb6628994a
