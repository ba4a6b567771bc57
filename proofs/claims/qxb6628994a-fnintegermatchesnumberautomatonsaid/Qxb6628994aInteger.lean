import Derived.Test.Qxb6628994aNumber
namespace Go.Proofs.Qxb6628994a
open Go.RowKit Go.IntWalk
set_option linter.unusedVariables false
/-- 'n*10 + int64(d-'0')', as it wraps. -/
def stepI (n d : Int) : Int := wrap64 (wrap64 (n * 10) + (d - 48))
/-- The value behind m digits from f on. -/
def valN (z : List Int) (f : Nat) : Nat → Int
  | 0 => 0
  | m + 1 => stepI (valN z f m) (z.getD (f + m) 0)
theorem Core.digit {z : List Int} {i f k : Nat} (h : Core z i f k) (j : Nat) (h1 : f ≤ j) (h2 : j < k) : dg (z.getD j 0) := by
  obtain ⟨_, h⟩ := h
  rcases h with ⟨h3, rfl⟩ | ⟨_, h3, _⟩
  · obtain rfl : j = f := by omega
    rw [h3.2]; exact ⟨by omega, by omega⟩
  · exact h3.2.2.1 j h1 h2
/-- Integer's answer. -/
def ans (z : List Int) (i f k : Nat) : Int := if f = i then valN z f (k - f) else wrap64 (-(valN z f (k - f)))
section
variable (S n c i b0 : Nat) (a : Option Addr) (st : Bool) (z : List Int) (w : World)
attribute [local go_sem] drewN_setCell

set_option maxHeartbeats 1000000 in
theorem int_yes_pos (k : Nat) (d : Int) (hS : Sc w S (.slice a n c) i st) (hD : w.ownsRow b0 5 1 (.slice a n c) n (u8s z)) (hn : n ≤ 1048576) (hi : i ≤ n) (h : IntAt z i i k) (hd : (k : Int) - i ≤ d) :
    Calls Try.prog 8 #[.pointer (some ⟨S, 0, none⟩), .int .i64 d] w fun e w' => e = .returned (.int .i64 (valN z i (k - i))) ∧ Sc w' S (.slice a n c) k st ∧ w'.ownsRow b0 5 1 (.slice a n c) n (u8s z) ∧ w.grownBy w' (some S) := by
  have hl : z.length = n := by simpa [u8s] using hD.1
  have hlt := h.1.lt
  have hneg : ¬ z.getD i 0 = 45 := by
    rcases h.1.1 with ⟨_, h1⟩ | ⟨h1, _⟩
    · omega
    · exact fun e => h1 ⟨by omega, e⟩
  have hdig := h.1.digit
  obtain ⟨L, rfl⟩ : ∃ L, k = i + L := ⟨k - i, by omega⟩
  rw [show i + L - i = L by omega]
  go_enter Try.func8, Try.ntmps8
  go_wp2_with fail
  refine (number_yes S n c i b0 a st z w i (i + L) hS hD hn hi h).mono ?_
  rintro e w1 ⟨g, rfl, rfl, hS1, hD1, hg1⟩
  rw [show i + L - i = L by omega]
  have hcell : ∀ j, j < n → w1.cell? ⟨g, j, none⟩ = some (.int .u8 (z.getD j 0)) := fun j hj => own_cell hD1 j _ (u8s_at z j (by omega))
  have hc0 := hcell i (by omega)
  have hb0 : (z.getD i 0 == 45) = false := beq_eq_false_iff_ne.2 hneg
  have hL : 0 < L := by omega
  have hLd : (L : Int) ≤ d := by omega
  have HC := show Hid (∀ j, j < n → w1.cell? ⟨g, j, none⟩ = some (.int .u8 (z.getD j 0))) from hcell
  clear hneg h hS hD hi hd hcell
  generalize z.getD i 0 = x at *
  go_wp2_with fail
  go_loop [8, 40] (fun v j => ∃ m : Nat, m ≤ L ∧ j = .int .i64 m ∧ v = .int .i64 (valN z i m)) (fun _ j => L - (intOf j).toNat)
  case atStart => exact ⟨0, Nat.zero_le _, rfl, rfl⟩
  case round =>
    obtain ⟨m, hm, rfl, rfl⟩ := hrel
    clear hc0 hb0
    by_cases hlm : m < L
    · have hc := HC.out (i + m) (by omega)
      have hx := hdig (i + m) (by omega) (by omega)
      have hst : Hid (valN z i (m + 1) = stepI (valN z i m) (z.getD (i + m) 0)) := rfl
      obtain ⟨hx1, hx2⟩ := hx
      clear hdig HC
      generalize z.getD (i + m) 0 = y at *
      generalize valN z i m = v at *
      go_wp2_with fail
      go_round
      case rel => exact ⟨m + 1, hlm, by go_num, by rw [hst.out]; rfl⟩
      case measure => simp [intOf]; omega
    · obtain rfl : m = L := by omega
      clear hdig HC
      go_wp2_with fail
      go_ret
      exact ⟨rfl, hS1, hD1, hg1⟩
set_option maxHeartbeats 1000000 in
theorem int_yes_neg (k : Nat) (d : Int) (hS : Sc w S (.slice a n c) i st) (hD : w.ownsRow b0 5 1 (.slice a n c) n (u8s z)) (hn : n ≤ 1048576) (hi : i ≤ n) (h : IntAt z i (i + 1) k) (hd : (k : Int) - (i + 1) ≤ d) :
    Calls Try.prog 8 #[.pointer (some ⟨S, 0, none⟩), .int .i64 d] w fun e w' => e = .returned (.int .i64 (wrap64 (-(valN z (i + 1) (k - (i + 1)))))) ∧ Sc w' S (.slice a n c) k st ∧ w'.ownsRow b0 5 1 (.slice a n c) n (u8s z) ∧ w.grownBy w' (some S) := by
  have hl : z.length = n := by simpa [u8s] using hD.1
  have hlt := h.1.lt
  have hnc : n ≤ c := by
    rcases hD.2 with ⟨h1, h2⟩ | ⟨g, c', cur, h1, _, _, h2, _⟩
    · omega
    · simp only [Value.slice.injEq] at h1; omega
  have hneg : z.getD i 0 = 45 := by
    rcases h.1.1 with ⟨h1, _⟩ | ⟨_, h1⟩
    · exact h1.2
    · omega
  have hdig := h.1.digit
  obtain ⟨L, rfl⟩ : ∃ L, k = i + 1 + L := ⟨k - (i + 1), by omega⟩
  rw [show i + 1 + L - (i + 1) = L by omega]
  go_enter Try.func8, Try.ntmps8
  go_wp2_with fail
  refine (number_yes S n c i b0 a st z w (i + 1) (i + 1 + L) hS hD hn hi h).mono ?_
  rintro e w1 ⟨g, rfl, rfl, hS1, hD1, hg1⟩
  rw [show i + 1 + L - i = L + 1 by omega]
  obtain ⟨C, hC⟩ : ∃ C, c - i = C + 2 := ⟨c - i - 2, by omega⟩
  rw [hC]
  clear hC
  have hcell : ∀ j, j < n → w1.cell? ⟨g, j, none⟩ = some (.int .u8 (z.getD j 0)) := fun j hj => own_cell hD1 j _ (u8s_at z j (by omega))
  have hc0 := hcell i (by omega)
  rw [hneg] at hc0
  have hL : 0 < L := by omega
  have hLd : (L : Int) ≤ d := by omega
  have HC := show Hid (∀ j, j < n → w1.cell? ⟨g, j, none⟩ = some (.int .u8 (z.getD j 0))) from hcell
  clear hneg h hS hD hi hd hcell
  go_wp2_with fail
  go_loop [8, 40] (fun v j => ∃ m : Nat, m ≤ L ∧ j = .int .i64 m ∧ v = .int .i64 (valN z (i + 1) m)) (fun _ j => L - (intOf j).toNat)
  case atStart => exact ⟨0, Nat.zero_le _, rfl, rfl⟩
  case round =>
    obtain ⟨m, hm, rfl, rfl⟩ := hrel
    clear hc0
    by_cases hlm : m < L
    · have hc := HC.out (i + 1 + m) (by omega)
      have hx := hdig (i + 1 + m) (by omega) (by omega)
      have hst : Hid (valN z (i + 1) (m + 1) = stepI (valN z (i + 1) m) (z.getD (i + 1 + m) 0)) := rfl
      obtain ⟨hx1, hx2⟩ := hx
      clear hdig HC
      generalize z.getD (i + 1 + m) 0 = y at *
      generalize valN z (i + 1) m = v at *
      go_wp2_with fail
      go_round
      case rel => exact ⟨m + 1, hlm, by go_num, by rw [hst.out]; rfl⟩
      case measure => simp [intOf]; omega
    · obtain rfl : m = L := by omega
      clear hdig HC
      go_wp2_with fail
      go_ret
      exact ⟨rfl, hS1, hD1, hg1⟩
/-- Integer, where an integer of at most d digits lies. -/
theorem int_yes (f k : Nat) (d : Int) (hS : Sc w S (.slice a n c) i st) (hD : w.ownsRow b0 5 1 (.slice a n c) n (u8s z)) (hn : n ≤ 1048576) (hi : i ≤ n) (h : IntAt z i f k) (hd : (k : Int) - f ≤ d) :
    Calls Try.prog 8 #[.pointer (some ⟨S, 0, none⟩), .int .i64 d] w fun e w' => e = .returned (.int .i64 (ans z i f k)) ∧ Sc w' S (.slice a n c) k st ∧ w'.ownsRow b0 5 1 (.slice a n c) n (u8s z) ∧ w.grownBy w' (some S) := by
  rcases h.1.1 with ⟨_, rfl⟩ | ⟨_, rfl⟩
  · unfold ans
    rw [if_neg (by omega)]
    exact int_yes_neg S n c i b0 a st z w k d hS hD hn hi h (by omega)
  · unfold ans
    rw [if_pos rfl]
    exact int_yes_pos S n c f b0 a st z w k d hS hD hn hi h hd
set_option maxHeartbeats 1000000 in
theorem int_over (f k : Nat) (d : Int) (hS : Sc w S (.slice a n c) i st) (hD : w.ownsRow b0 5 1 (.slice a n c) n (u8s z)) (hn : n ≤ 1048576) (hi : i ≤ n) (h : IntAt z i f k) (hd : d < (k : Int) - f) :
    Calls Try.prog 8 #[.pointer (some ⟨S, 0, none⟩), .int .i64 d] w fun e w' => e = .returned (.int .i64 0) ∧ Sc w' S (.slice a n c) n true ∧ w'.ownsRow b0 5 1 (.slice a n c) n (u8s z) ∧ w.grownBy w' (some S) := by
  have hl : z.length = n := by simpa [u8s] using hD.1
  have hlt := h.1.lt
  have hnc : n ≤ c := by
    rcases hD.2 with ⟨h1, h2⟩ | ⟨g, c', cur, h1, _, _, h2, _⟩
    · omega
    · simp only [Value.slice.injEq] at h1; omega
  rcases h.1.1 with ⟨hh, rfl⟩ | ⟨hh, rfl⟩
  · have hneg := hh.2
    obtain ⟨L, rfl⟩ : ∃ L, k = i + 1 + L := ⟨k - (i + 1), by omega⟩
    go_enter Try.func8, Try.ntmps8
    go_wp2_with fail
    refine (number_yes S n c i b0 a st z w (i + 1) (i + 1 + L) hS hD hn hi h).mono ?_
    rintro e w1 ⟨g, rfl, rfl, hS1, hD1, hg1⟩
    rw [show i + 1 + L - i = L + 1 by omega]
    obtain ⟨C, hC⟩ : ∃ C, c - i = C + 2 := ⟨c - i - 2, by omega⟩
    rw [hC]
    clear hC
    have hc0 : w1.cell? ⟨g, i, none⟩ = some (.int .u8 (z.getD i 0)) := own_cell hD1 i _ (u8s_at z i (by omega))
    rw [hneg] at hc0
    have hL : 0 < L := by omega
    have hLd : d < (L : Int) := by omega
    clear hneg h hh hS hD hi hd
    go_wp2_with fail
    refine (stop_any S n c _ b0 _ st z w1 hS1 hD1).mono ?_
    rintro e w2 ⟨rfl, hS2, hD2, hg2⟩
    go_wp2_with fail
    go_ret
    exact ⟨rfl, hS2, hD2, grown_trans hg1 hg2⟩
  · have hneg : ¬ z.getD f 0 = 45 := fun e => hh ⟨by omega, e⟩
    obtain ⟨L, rfl⟩ : ∃ L, k = f + L := ⟨k - f, by omega⟩
    go_enter Try.func8, Try.ntmps8
    go_wp2_with fail
    refine (number_yes S n c f b0 a st z w f (f + L) hS hD hn hi h).mono ?_
    rintro e w1 ⟨g, rfl, rfl, hS1, hD1, hg1⟩
    rw [show f + L - f = L by omega]
    have hc0 : w1.cell? ⟨g, f, none⟩ = some (.int .u8 (z.getD f 0)) := own_cell hD1 f _ (u8s_at z f (by omega))
    have hb0 : (z.getD f 0 == 45) = false := beq_eq_false_iff_ne.2 hneg
    have hL : 0 < L := by omega
    have hLd : d < (L : Int) := by omega
    clear hneg h hh hS hD hi hd
    generalize z.getD f 0 = x at *
    go_wp2_with fail
    refine (stop_any S n c _ b0 _ st z w1 hS1 hD1).mono ?_
    rintro e w2 ⟨rfl, hS2, hD2, hg2⟩
    go_wp2_with fail
    go_ret
    exact ⟨rfl, hS2, hD2, grown_trans hg1 hg2⟩
set_option maxHeartbeats 1000000 in
theorem int_no (d : Int) (hS : Sc w S (.slice a n c) i st) (hD : w.ownsRow b0 5 1 (.slice a n c) n (u8s z)) (hn : n ≤ 1048576) (hi : i ≤ n) (h : ∀ f k, ¬ IntAt z i f k) :
    Calls Try.prog 8 #[.pointer (some ⟨S, 0, none⟩), .int .i64 d] w fun e w' => e = .returned (.int .i64 0) ∧ Sc w' S (.slice a n c) n true ∧ w'.ownsRow b0 5 1 (.slice a n c) n (u8s z) ∧ w.grownBy w' (some S) := by
  have hl : z.length = n := by simpa [u8s] using hD.1
  have hnc : n ≤ c := by
    rcases hD.2 with ⟨h1, h2⟩ | ⟨g, c', cur, h1, _, _, h2, _⟩
    · simp only [Value.slice.injEq] at h1; omega
    · simp only [Value.slice.injEq] at h1; omega
  go_enter Try.func8, Try.ntmps8
  go_wp2_with fail
  refine (number_no S n c i b0 a st z w hS hD hn hi h).mono ?_
  rintro e w1 ⟨v, i', st', rfl, hT, hi', hS1, hD1, hg1⟩
  rcases hT with rfl | ⟨g, k, rfl, hik, hk, rfl⟩
  · go_wp2_with fail
    refine (stop_any S n c _ b0 _ st' z w1 hS1 hD1).mono ?_
    rintro e w2 ⟨rfl, hS2, hD2, hg2⟩
    go_wp2_with fail
    go_ret
    exact ⟨rfl, hS2, hD2, grown_trans hg1 hg2⟩
  · obtain ⟨L, rfl⟩ : ∃ L, k = i + (L + 1) := ⟨k - i - 1, by omega⟩
    rw [show i + (L + 1) - i = L + 1 by omega]
    obtain ⟨C, hC⟩ : ∃ C, c - i = C + 1 := ⟨c - i - 1, by omega⟩
    have hLC : L ≤ C := by omega
    rw [hC]
    clear hC
    have hc0 : w1.cell? ⟨g, i, none⟩ = some (.int .u8 (z.getD i 0)) := own_cell hD1 i _ (u8s_at z i (by omega))
    clear h hS hD hi
    cases hb : (z.getD i 0 == 45) with
    | false =>
      generalize z.getD i 0 = x at *
      go_wp2_with fail
      refine (stop_any S n c _ b0 _ st' z w1 hS1 hD1).mono ?_
      rintro e w2 ⟨rfl, hS2, hD2, hg2⟩
      go_wp2_with fail
      go_ret
      exact ⟨rfl, hS2, hD2, grown_trans hg1 hg2⟩
    | true =>
      generalize z.getD i 0 = x at *
      by_cases hC0 : C = 0
      all_goals
        go_wp2_with fail
        refine (stop_any S n c _ b0 _ st' z w1 hS1 hD1).mono ?_
        rintro e w2 ⟨rfl, hS2, hD2, hg2⟩
        go_wp2_with fail
        go_ret
        exact ⟨rfl, hS2, hD2, grown_trans hg1 hg2⟩
end
end Go.Proofs.Qxb6628994a
