import Derived.Test.Qxb6629026aRead
namespace Go.Proofs.Qxb6629026a
open Go.RowKit
set_option linter.unusedVariables false
theorem ret_dec2 {a b n m : Int} (h : a = b) (h2 : n = m) : Ending.returned (.tuple #[.int .i64 a, .int .i64 n, .bool true]) = .returned (.tuple #[.int .i64 b, .int .i64 m, .bool true]) := by rw [h, h2]
set_option maxHeartbeats 1000000 in
set_option maxRecDepth 100000 in
theorem dec_long (a : Option Addr) (n c : Nat) (z : List Int) (v : Int) (k : Nat) (w : World) (hz : RowAt w a n z) (hL : Long v k) (hn1 : k + 1 ≤ n) (hn : n ≤ 3000000) (hzj : ∀ j, j ≤ k → z.getD j 0 = encAt v k j) :
    Calls Try.prog 12 #[.slice a n c] w fun e w' => e = .returned (.tuple #[.int .i64 v, .int .i64 (k + 1 : Nat), .bool true]) ∧ w' = w := by
  obtain ⟨g, off, rfl, hc⟩ := hz.at (k := 0) (by omega)
  have hk1 := hL.2.2.2.1
  have hk2 := hL.2.2.2.2.1
  have hm := mag_lt v hL.1 hL.2.1
  have hlt := hL.2.2.2.2.2.2
  have c0 := hc 0 (by omega)
  rw [hzj 0 (by omega), Nat.add_zero] at c0
  have hcj : ∀ j, 1 ≤ j → j ≤ k → w.cell? ⟨g, off + j, none⟩ = some (.int .u8 (mag v / 256 ^ (k - j) % 256)) := by
    intro j h1 h2
    rw [hc j (by omega), hzj j h2]
    unfold encAt
    rw [if_neg (by omega)]
  have HC := show Hid _ from hcj
  have hb0 : ((n : Int) == 0) = false := beq_eq_false_iff_ne.2 (by omega)
  have hb1 := hL.1
  have hb2 := hL.2.1
  have hb3 := hL.2.2.1
  clear hc hz hzj hcj hL
  have hx0 : ∃ x0, x0 = encAt v k 0 ∧ 128 ≤ x0 ∧ x0 ≤ 143 ∧ (v < 0 → x0 = 136 - (k : Int)) ∧ (¬ v < 0 → x0 = 144 - (k : Int)) := by
    refine ⟨_, rfl, ?_⟩
    unfold encAt
    rw [if_pos rfl]
    split <;> omega
  obtain ⟨x0, hx, hx1, hx2, hx3, hx4⟩ := hx0
  rw [← hx] at c0
  clear hx
  have hw := i8w_hi x0 (by omega) (by omega)
  go_enter Try.func12, Try.ntmps12
  go_upto_if 23 with fail
  go_cut [6, 7] from 10 to 27 (fun ng kk wx => ng = .bool (decide (v < 0)) ∧ kk = .int .i64 k ∧ wx = w)
  case first =>
    by_cases hv : v < 0
    · have hx := hx3 hv
      have hd : x0 - 256 < -120 := by omega
      have HX := show Hid _ from hx
      clear hx3 hx4 hx
      go_wp2_with fail
      go_meet
      case rel => exact ⟨by rw [decide_eq_true hd, decide_eq_true hv], by rw [HX.out]; congr 1; omega, rfl⟩
    · have hx := hx4 hv
      have hd : ¬ x0 - 256 < -120 := by omega
      have HX := show Hid _ from hx
      clear hx3 hx4 hx
      go_wp2_with fail
      go_meet
      case rel => exact ⟨by rw [decide_eq_false (by omega), decide_eq_false (by omega)], by rw [HX.out]; congr 1; omega, rfl⟩
  case rest =>
    obtain ⟨rfl, rfl, rfl⟩ := hcut
    clear hw hx3 hx4 c0 hb0
    go_wp2_with fail
    go_loop [8, 9] (fun u i => ∃ t : Nat, t ≤ k ∧ i = .int .i64 ((t : Int) + 1) ∧ u = .int .u64 (mag v / 256 ^ (k - t))) (fun _ i => (k + 1) - (intOf i).toNat)
    case atStart => exact ⟨0, Nat.zero_le _, rfl, by rw [Nat.sub_zero, top_zero _ _ hm.1 hlt]⟩
    case round =>
      obtain ⟨t, ht, rfl, rfl⟩ := hrel
      by_cases htk : t < k
      · have ct := HC.out (t + 1) (by omega) (by omega)
        have hms := mid_small (mag v) (k - (t + 1)) hm.1 hm.2
        have hdb := div_back (mag v) (k - (t + 1))
        rw [show k - (t + 1) + 1 = k - t by omega] at hms hdb
        have hbx : 0 ≤ mag v / 256 ^ (k - (t + 1)) % 256 ∧ mag v / 256 ^ (k - (t + 1)) % 256 < 256 := by omega
        have hor := or_byte (mag v / 256 ^ (k - t)) (mag v / 256 ^ (k - (t + 1)) % 256) hms.1 hms.2 hbx.1 hbx.2
        rw [hdb] at hor
        have HOR := show Hid _ from hor
        clear hor hdb
        generalize hUU : mag v / 256 ^ (k - t) = U at *
        generalize hXX : mag v / 256 ^ (k - (t + 1)) % 256 = X at *
        clear hUU hXX HC
        obtain ⟨hU1, hU2⟩ := hms
        obtain ⟨hX1, hX2⟩ := hbx
        go_wp2_with fail
        exact ⟨⟨t + 1, htk, by go_num, by rw [HOR.out]⟩, by simp [intOf]; omega⟩
      · have htk' : t = k := by omega
        subst htk'
        rw [Nat.sub_self, Int.pow_zero, Int.ediv_one]
        clear HC
        by_cases hv : v < 0
        · have hcm := compl64 (mag v) hm.1 (by omega)
          have hcw : wrap64 (18446744073709551615 - mag v) = v := by
            unfold wrap64 mag; rw [if_pos hv]; omega
          go_wp2_with fail
          go_ret3
          exact ⟨ret_dec2 rfl (by omega), rfl⟩
        · have hcm : mag v = v := by unfold mag; rw [if_neg hv]
          rw [hcm]
          go_wp2_with fail
          go_ret3
          exact ⟨ret_dec2 rfl (by omega), rfl⟩
theorem ret_bool {a b : Bool} (h : a = b) : Ending.returned (.bool a) = .returned (.bool b) := by rw [h]
theorem enc_at (v : Int) (k j : Nat) (h : j ≤ k) : ((List.range (k + 1)).map (encAt v k)).getD j 0 = encAt v k j := by
  rw [List.getD_eq_getElem?_getD, List.getElem?_map, List.getElem?_range (by omega)]
  rfl
theorem dec_any (a : Option Addr) (n c : Nat) (z : List Int) (v : Int) (E : List Int) (w : World) (hz : RowAt w a n z) (hE : IsEnc v E) (hl : E.length ≤ n) (hj : ∀ j, j < E.length → z.getD j 0 = E.getD j 0) (hn : n ≤ 3000000) :
    Calls Try.prog 12 #[.slice a n c] w fun e w' => e = .returned (.tuple #[.int .i64 v, .int .i64 (E.length : Nat), .bool true]) ∧ w' = w := by
  rcases hE with ⟨h0, h1, rfl⟩ | ⟨k, hk, rfl⟩
  · exact dec_short a n c z v w hz hl h0 h1 (hj 0 (by simp))
  · rw [List.length_map, List.length_range] at hl hj ⊢
    exact dec_long a n c z v k w hz hk hl hn (fun j h => by rw [hj j (by omega), enc_at v k j h])
set_option maxHeartbeats 1000000 in
set_option maxRecDepth 100000 in
theorem can_any (a : Option Addr) (n c : Nat) (v : Int) (E : List Int) (w : World) (hz : RowAt w a n E) (hE : IsEnc v E) (hn : n ≤ 3000000) :
    Calls Try.prog 9 #[.slice a n c, .int .i64 v] w fun e w' => e = .returned (.bool true) ∧ w' = w := by
  have hl : E.length = n := hz.1
  have hdec := dec_any a n c E v E w hz hE (by omega) (fun j _ => rfl) hn
  rw [hl] at hdec
  rcases hE with ⟨h0, h1, rfl⟩ | ⟨k, hk, rfl⟩
  · have hn1 : n = 1 := hl.symm
    subst hn1
    clear hz hl
    go_enter Try.func9, Try.ntmps9
    go_wp2_with fail
    refine hdec.mono ?_
    rintro e w' ⟨rfl, rfl⟩
    go_wp2_with fail
    go_ret
    exact ⟨rfl, rfl⟩
  · have hnk : n = k + 1 := by rw [← hl, List.length_map, List.length_range]
    obtain ⟨hb1, hb2, hb3, hk1, hk2, hk3, hk4⟩ := hk
    obtain ⟨g, off, rfl, hc⟩ := hz.at (k := 0) (by omega)
    have c0 := hc 0 (by omega)
    have c1 := hc 1 (by omega)
    rw [enc_at v k 0 (by omega), Nat.add_zero] at c0
    rw [enc_at v k 1 (by omega)] at c1
    have hx1 : encAt v k 1 ≠ 0 := by
      have hp : (0 : Int) < 256 ^ (k - 1) := Int.pow_pos (by omega)
      have hp2 : (256 : Int) ^ k = 256 ^ (k - 1) * 256 := by rw [← Int.pow_succ]; congr 1; omega
      have d1 : 1 ≤ mag v / 256 ^ (k - 1) := by
        rw [Int.le_ediv_iff_mul_le hp]; omega
      have d2 : mag v / 256 ^ (k - 1) < 256 := by
        rw [Int.ediv_lt_iff_lt_mul hp]; rw [hp2, Int.mul_comm] at hk4; exact hk4
      unfold encAt
      rw [if_neg (by omega)]
      omega
    have hx0 : ∃ x0, x0 = encAt v k 0 ∧ 128 ≤ x0 ∧ x0 ≤ 143 ∧ (v < 0 → x0 = 136 - (k : Int)) ∧ (¬ v < 0 → x0 = 144 - (k : Int)) := by
      refine ⟨_, rfl, ?_⟩
      unfold encAt
      rw [if_pos rfl]
      split <;> omega
    obtain ⟨x0, hx, hx2, hx3, hx4, hx5⟩ := hx0
    rw [← hx] at c0
    clear hx
    have hw := i8w_hi x0 (by omega) (by omega)
    generalize encAt v k 1 = x1 at *
    clear hz hc hl hk3 hk4
    have hb : (x1 == 0) = false := beq_eq_false_iff_ne.2 hx1
    have hn1 : ((n : Int) == 1) = false := beq_eq_false_iff_ne.2 (by omega)
    have hn2 : 2 ≤ n := by omega
    have hq : (decide (x0 - 256 < -120) == decide (v < 0)) = true := by
      by_cases hv : v < 0
      · have := hx4 hv
        rw [decide_eq_true hv, decide_eq_true (by omega)]; rfl
      · have := hx5 hv
        rw [decide_eq_false hv, decide_eq_false (by omega)]; rfl
    have HQ := show Hid _ from hq
    clear hnk hx1 hx4 hx5 hq
    go_enter Try.func9, Try.ntmps9
    go_wp2_with fail
    refine hdec.mono ?_
    rintro e w' ⟨rfl, rfl⟩
    go_wp2_with fail
    all_goals
      go_ret
      exact ⟨ret_bool HQ.out, rfl⟩
end Go.Proofs.Qxb6629026a
