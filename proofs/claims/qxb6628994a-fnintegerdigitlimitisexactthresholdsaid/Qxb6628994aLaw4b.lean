import Derived.Test.Qxb6628994aLaw4a
namespace Go.Proofs.Qxb6628994a
open Go.RowKit Go.IntWalk
set_option linter.unusedVariables false
/-- The state of the limited scanner, and what it gave. -/
def Lim (d : Int) (V : Int) (n f k : Nat) (g : Int) (j : Nat) (s : Bool) : Prop := ((k : Int) - f ≤ d ∧ g = V ∧ j = k ∧ s = false) ∨ (d < (k : Int) - f ∧ g = 0 ∧ j = n ∧ s = true)
theorem int_lim (S n c i b0 : Nat) (a : Option Addr) (z : List Int) (w : World) (f k : Nat) (d : Int) (hS : Sc w S (.slice a n c) i false) (hD : w.ownsRow b0 5 1 (.slice a n c) n (u8s z)) (hn : n ≤ 1048576) (hi : i ≤ n) (h : IntAt z i f k) :
    Calls Try.prog 8 #[.pointer (some ⟨S, 0, none⟩), .int .i64 d] w fun e w' => ∃ g j s, e = .returned (.int .i64 g) ∧ Lim d (ans z i f k) n f k g j s ∧ Sc w' S (.slice a n c) j s ∧ w.grownBy w' (some S) := by
  by_cases hd : (k : Int) - f ≤ d
  · refine (int_yes S n c i b0 a false z w f k d hS hD hn hi h hd).mono ?_
    rintro e w' ⟨rfl, h1, _, h2⟩
    exact ⟨_, _, _, rfl, .inl ⟨hd, rfl, rfl, rfl⟩, h1, h2⟩
  · refine (int_over S n c i b0 a false z w f k d hS hD hn hi h (by omega)).mono ?_
    rintro e w' ⟨rfl, h1, _, h2⟩
    exact ⟨_, _, _, rfl, .inr ⟨by omega, rfl, rfl, rfl⟩, h1, h2⟩
set_option maxHeartbeats 2000000 in
set_option maxRecDepth 100000 in
theorem law4_yes (a : Option Addr) (len cap i : Nat) (d : Int) (z : List Int) (w : World) (hR : Rd w a len z) (hn : len ≤ 1048576) (hi : i ≤ len) (f k : Nat) (h : IntAt z i f k) :
    Calls Try.prog 4 #[.slice a len cap, .int .i64 i, .int .i64 d] w fun e w' => e = .returned (.bool true) ∧ Below w.heap.size w w' := by
  have hl := hR.hlen
  have hlt := h.1.lt
  obtain ⟨q, off, rfl, hqb, hcell⟩ := hR.at (j := i) (by omega)
  go_enter Try.func4, Try.ntmps4
  go_upto_region 7 with go_in
  go_wp2_with fail
  refine (clone_any _ len cap z w hR hn).mono ?_
  rintro e w1 ⟨a1, c1, rfl, ho1, hb1⟩
  go_wp2_with fail
  refine (clone_any _ len cap z w1 (hR.below hb1) hn).mono ?_
  rintro e w2 ⟨a2, c2, rfl, ho2, hb2⟩
  have ho1' := own_below ho1 hb2
  have hB2 := hb1.trans (hb2.mono hb1.size)
  clear ho1 hb1 hb2
  go_wp2_with fail
  refine (newSc a1 len c1 i w2).mono ?_
  rintro e w3 ⟨rfl, hS1, hb3⟩
  have ho1 := own_below ho1' hb3
  have ho2' := own_below ho2 hb3
  have hB3 := hB2.trans (hb3.mono hB2.size)
  have hs1 := hS1.lt
  have hle1 := hB2.size
  clear ho1' ho2 hB2 hb3
  generalize w2.heap.size = S1 at *
  go_wp2_with fail
  refine (newSc a2 len c2 i w3).mono ?_
  rintro e w4 ⟨rfl, hS2, hb4⟩
  have ho1' := own_below ho1 hb4
  have ho2 := own_below ho2' hb4
  have hB4 := hB3.trans (hb4.mono hB3.size)
  have hS1' := hS1.below hb4
  have hle2 := hB3.size
  clear ho1 ho2' hB3 hb4 hS1
  generalize w3.heap.size = S2 at *
  go_wp2_with fail
  refine (int_yes S1 len c1 i _ a1 false z w4 f k _ hS1' ho1' hn hi h (by omega)).mono ?_
  rintro e w5 ⟨rfl, hS1, ho1, hg5⟩
  have hB5 := below_of_grown hB4 hg5 hle1
  have hS2' := hS2.other hg5 (by omega)
  have ho2' := own_step ho2 hS1' hg5
  clear hS1' ho1' hB4 hS2 ho2 hg5
  go_wp2_with fail
  refine (int_lim S2 len c2 i _ a2 z w5 f k d hS2' ho2' hn hi h).mono ?_
  rintro e w6 ⟨g2, j2, s2, rfl, hLim, hS2, hg6⟩
  have hB6 := below_of_grown hB5 hg6 hle2
  have hS1' := hS1.other hg6 (by omega)
  have hcell6 : ∀ j, j < len → w6.cell? ⟨q, off + j, none⟩ = some (.int .u8 (z.getD j 0)) := fun j hj => by
    rw [hB6.cell (p := ⟨q, off + j, none⟩) hqb]; exact hcell j hj
  have HCell := show Hid (∀ j, j < len → w6.cell? ⟨q, off + j, none⟩ = some (.int .u8 (z.getD j 0))) from hcell6
  clear hS1 ho1 hB5 hS2' ho2' hg6 hcell hcell6
  have HLim := show Hid _ from hLim
  clear hLim
  go_wp2_with fail
  refine (zzOff _ _ _ _ _ hS1').mono ?_
  rintro e w' ⟨rfl, rfl⟩
  go_wp2_with fail
  refine (zzStop _ _ _ _ _ hS1').mono ?_
  rintro e w' ⟨rfl, rfl⟩
  go_wp2_with fail
  refine (zzOff _ _ _ _ _ hS2).mono ?_
  rintro e w' ⟨rfl, rfl⟩
  go_wp2_with fail
  refine (zzStop _ _ _ _ _ hS2).mono ?_
  rintro e w' ⟨rfl, rfl⟩
  clear hS1' hS2
  have hki : i < k := by omega
  have hkl : k ≤ len := by omega
  have ci := HCell.out i (by omega)
  have hV : ans z i f k = (if z.getD i 0 = 45 then wrap64 (-(valN z f (k - f))) else valN z f (k - f)) ∧ (z.getD i 0 = 45 → f = i + 1) ∧ (¬ z.getD i 0 = 45 → f = i) := by
    unfold ans
    rcases h.1.1 with ⟨h1, rfl⟩ | ⟨h1, rfl⟩
    · rw [if_neg (by omega), if_pos h1.2]
      exact ⟨rfl, fun _ => rfl, fun h2 => absurd h1.2 h2⟩
    · have h2 : ¬ z.getD f 0 = 45 := fun e => h1 ⟨by omega, e⟩
      rw [if_pos rfl, if_neg h2]
      exact ⟨rfl, fun h3 => absurd h3 h2, fun _ => rfl⟩
  obtain ⟨hV1, hV2, hV3⟩ := hV
  have HV1 := show Hid _ from hV1
  clear hV1
  generalize ans z i f k = V at *
  generalize hzi : z.getD i 0 = zi at *
  have Hzi := show Hid (z.getD i 0 = zi) from hzi
  clear hzi
  go_upto_if 99 with fail
  go_cut [18] from 23 to 101 (fun v wx => v = .int .i64 f ∧ wx = w')
  case first =>
    by_cases h45 : zi = 45
    · have hb : (zi == 45) = true := beq_iff_eq.2 h45
      have hf := hV2 h45
      have Hf := show Hid (f = i + 1) from hf
      clear hf h45 hV2 hV3
      go_wp2_with fail
      go_meet
      case rel => exact ⟨by rw [Hf.out]; go_num, rfl⟩
    · have hb : (zi == 45) = false := beq_eq_false_iff_ne.2 h45
      have hf := hV3 h45
      have Hf := show Hid (f = i) from hf
      clear hf h45 hV2 hV3
      go_wp2_with fail
      go_meet
      case rel => exact ⟨by rw [Hf.out], rfl⟩
  case rest =>
    obtain ⟨rfl, rfl⟩ := hcut
    have hfk : f < k := hlt.2.1
    have hif : i ≤ f := hlt.1
    go_upto_if 104 with fail
    go_cut [] from 102 to 104 (fun wx => wx = wc)
    case first =>
      go_wp2_with fail
      go_meet
      case rel => rfl
    case rest =>
      rename_i wc0 _ _ _
      subst hcut
      go_wp2_with fail
      go_loop [19] (fun v => ∃ m : Nat, f ≤ m ∧ m ≤ k ∧ v = .int .i64 m) (fun v => k - (intOf v).toNat)
      case atStart => exact ⟨f, Nat.le_refl _, by omega, rfl⟩
      case round =>
        obtain ⟨m, hfm, hmk, rfl⟩ := hrel
        by_cases hm : m < k
        · have cm := HCell.out m (by omega)
          have hd := h.1.digit m hfm hm
          have hdB : dgB (z.getD m 0) = true := by unfold dgB; rw [decide_eq_true hd.1, decide_eq_true hd.2]; rfl
          clear hd
          have hml : m < len := by omega
          generalize z.getD m 0 = x at *
          go_wp2_with (go_at_call 13; refine (isDig _ _).mono ?_; rintro e w' ⟨rfl, rfl⟩)
          go_round
          case rel => exact ⟨m + 1, by omega, by omega, by go_num⟩
          case measure => simp [intOf]; omega
        · go_upto_region 33 with fail
          go_cut [128] from 106 to 128 (fun v wx => v = .bool false ∧ wx = wc)
          case first =>
            by_cases hc1 : k = f + 1
            · have hd1 : decide ((1 : Int) < (k : Int) - (f : Int)) = false := by rw [decide_eq_false_iff_not]; omega
              clear hc1
              go_wp2_with fail
              go_meet
              case rel => exact ⟨rfl, rfl⟩
            · have hd1 : (1 : Int) < (k : Int) - (f : Int) := by omega
              have cf := HCell.out f (by omega)
              have hz48 : (z.getD f 0 == 48) = false := beq_eq_false_iff_ne.2 fun e => hc1 (h.zero e)
              have hfl : f < len := by omega
              clear hc1
              generalize z.getD f 0 = x at *
              go_wp2_with fail
              go_meet
              case rel => exact ⟨rfl, rfl⟩
          case rest =>
            obtain ⟨rfl, rfl⟩ := hcut
            go_upto_if 132 with fail
            go_cut [] from 129 to 160 (fun wx => wx = wc)
            case first =>
              by_cases hkn : k < len
              · have ck := HCell.out k hkn
                have hnx := h.next (by omega)
                have hn1 : (z.getD k 0 == 46) = false := beq_eq_false_iff_ne.2 hnx.1
                have hn2 : (z.getD k 0 == 101) = false := beq_eq_false_iff_ne.2 hnx.2.1
                have hn3 : (z.getD k 0 == 69) = false := beq_eq_false_iff_ne.2 hnx.2.2.1
                cases hdk : dgB (z.getD k 0) with
                | false =>
                  clear hnx
                  generalize z.getD k 0 = x at *
                  go_wp2_with (go_at_call 13; refine (isDig _ _).mono ?_; rintro e w' ⟨rfl, rfl⟩)
                  go_meet
                  case rel => rfl
                | true =>
                  have hdg : dg (z.getD k 0) := by
                    unfold dgB at hdk
                    rw [Bool.and_eq_true, decide_eq_true_eq, decide_eq_true_eq] at hdk
                    exact hdk
                  obtain ⟨hk1, hf48⟩ := hnx.2.2.2 hdg
                  have hc1 : (((k : Int) - (f : Int)) == 1) = true := beq_iff_eq.2 (by omega)
                  have cf := HCell.out f (by omega)
                  rw [hf48] at cf
                  have hfl : f < len := by omega
                  clear hnx hk1 hf48 hdg
                  generalize z.getD k 0 = x at *
                  go_wp2_with (go_at_call 13; refine (isDig _ _).mono ?_; rintro e w' ⟨rfl, rfl⟩)
                  go_meet
                  case rel => rfl
              · have hdn : decide ((k : Int) < (len : Int)) = false := by rw [decide_eq_false_iff_not]; omega
                have hdn' : decide (k < len) = false := by rw [decide_eq_false_iff_not]; omega
                go_wp2_with fail
                go_meet
                case rel => rfl
            case rest =>
              subst hcut
              go_upto_if 162 with fail
              go_cut [17] from 161 to 187 (fun _ wx => wx = wc)
              case first =>
                by_cases h18 : (k : Int) - (f : Int) ≤ 18
                · obtain ⟨mm, hmm⟩ : ∃ mm, k = f + (mm + 1) := ⟨k - f - 1, by omega⟩
                  have hdig : ∀ j, j < mm + 1 → dg (z.getD (f + j) 0) := fun j hj => h.1.digit (f + j) (by omega) (by omega)
                  have hsm := valN_small z f (mm + 1) hdig (by omega)
                  have hlast := valN_last z f mm hdig (by omega)
                  have hsm' := valN_small z f mm (fun j hj => hdig j (by omega)) (by omega)
                  have hp18 := pow18 (mm + 1) (by omega)
                  have hy := hdig mm (by omega)
                  have cl := HCell.out (f + mm) (by omega)
                  have cl1 : wc.cell? ⟨q, off + (k - 1), none⟩ = some (.int .u8 (z.getD (f + mm) 0)) := by
                    rw [show k - 1 = f + mm by omega]; exact cl
                  have cl2 : wc.cell? ⟨q, off + ((k : Int) - 1).toNat, none⟩ = some (.int .u8 (z.getD (f + mm) 0)) := by
                    rw [show ((k : Int) - 1).toNat = f + mm by omega]; exact cl
                  rw [show k - f = mm + 1 by omega] at HV1
                  have hVV : V = if zi = 45 then -(valN z f (mm + 1)) else valN z f (mm + 1) := by
                    rw [HV1.out]
                    split
                    · rw [wrap64_id (by omega) (by omega)]
                    · rfl
                  clear HV1
                  rw [hlast] at hVV hsm
                  generalize valN z f mm = Q at *
                  generalize z.getD (f + mm) 0 = y at *
                  generalize (10 : Int) ^ (mm + 1) = P at *
                  generalize (10 : Int) ^ mm = P' at *
                  clear hdig hlast hV2 hV3
                  obtain ⟨hy1, hy2⟩ := hy
                  by_cases h45 : zi = 45
                  · rw [if_pos h45] at hVV
                    have hb : (zi == 45) = true := beq_iff_eq.2 h45
                    have hV0 : V ≤ 0 := by omega
                    have hVl : -9223372036854775808 ≤ V := by omega
                    have hm1 : V.tmod 10 = 48 - y := by
                      rw [hVV, Int.neg_tmod, Int.tmod_eq_emod_of_nonneg (by omega)]; omega
                    have hm2 : (V.tmod 10 != -(y - 48)) = false := by rw [hm1, show -(y - 48) = 48 - y by omega]; simp
                    clear h45 hVV hm1 hmm hsm hsm' hp18
                    go_wp2_with fail
                    go_meet
                    case rel => rfl
                  · rw [if_neg h45] at hVV
                    have hb : (zi == 45) = false := beq_eq_false_iff_ne.2 h45
                    have hV0 : 0 ≤ V := by omega
                    have hVl : V ≤ 9223372036854775807 := by omega
                    have hm1 : V % 10 = y - 48 := by omega
                    have hm2 : (V % 10 != y - 48) = false := by rw [hm1]; simp
                    clear h45 hVV hm1 hmm hsm hsm' hp18
                    go_wp2_with fail
                    go_meet
                    case rel => rfl
                · have hd18 : decide ((k : Int) - (f : Int) ≤ 18) = false := by rw [decide_eq_false_iff_not]; exact h18
                  go_wp2_with fail
                  go_meet
                  case rel => rfl
              case rest =>
                subst hcut
                rcases HLim.out with ⟨h1, rfl, rfl, rfl⟩ | ⟨h1, rfl, rfl, rfl⟩
                · clear HLim HV1
                  go_wp2_with fail
                  go_ret
                  exact ⟨rfl, hB6⟩
                · clear HLim HV1
                  go_wp2_with fail
                  go_ret
                  exact ⟨rfl, hB6⟩
/-- The second law's walk, every input. -/
theorem law4 (a : Option Addr) (len cap : Nat) (i d : Int) (z : List Int) (w : World) (hR : Rd w a len z) (hl : len ≤ maxLen) :
    Calls Try.prog 4 #[.slice a len cap, .int .i64 i, .int .i64 d] w fun e w' => e = .returned (.bool true) ∧ Below w.heap.size w w' := by
  by_cases h : 1048576 < len ∨ i < 0 ∨ (len : Int) < i
  · exact law4_out a len cap i d w h hl
  · obtain ⟨i', rfl⟩ := Int.eq_ofNat_of_zero_le (a := i) (by omega)
    by_cases hI : ∃ f k, IntAt z i' f k
    · obtain ⟨f, k, hI⟩ := hI
      exact law4_yes a len cap i' d z w hR (by omega) (by omega) f k hI
    · exact law4_no a len cap i' d z w hR (by omega) (by omega) (fun f k hh => hI ⟨f, k, hh⟩)
end Go.Proofs.Qxb6628994a
