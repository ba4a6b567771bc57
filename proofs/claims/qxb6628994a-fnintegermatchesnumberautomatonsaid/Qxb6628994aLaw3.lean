import Derived.Test.Qxb6628994aAuto
import Derived.Deep.CutBlock
namespace Go.Proofs.Qxb6628994a
open Go.RowKit Go.IntWalk
set_option linter.unusedVariables false
/-- The value, exact. -/
def vE (z : List Int) (f : Nat) : Nat → Int
  | 0 => 0
  | m + 1 => vE z f m * 10 + (z.getD (f + m) 0 - 48)
/-- The same, summed from the right. -/
def mU (z : List Int) (p : Nat) : Nat → Int
  | 0 => 0
  | t + 1 => mU z p t + (z.getD (p - 1 - t) 0 - 48) * 10 ^ t
theorem vE_shift (z : List Int) (f m : Nat) : vE z f (m + 1) = (z.getD f 0 - 48) * 10 ^ m + vE z (f + 1) m := by
  induction m with
  | zero => simp [vE]
  | succ m ih =>
    rw [vE, ih, vE, Int.pow_succ, show f + (m + 1) = f + 1 + m by omega, Int.add_mul, Int.mul_assoc, Int.add_assoc]
theorem mU_eq (z : List Int) (f m t : Nat) (ht : t ≤ m) : mU z (f + m) t = vE z (f + m - t) t := by
  induction t with
  | zero => rfl
  | succ t ih =>
    rw [mU, ih (by omega), show f + m - (t + 1) = f + m - 1 - t by omega, vE_shift, show f + m - 1 - t + 1 = f + m - t by omega]
    omega
theorem valN_wrap (z : List Int) (f m : Nat) : valN z f m = wrap64 (vE z f m) := by
  induction m with
  | zero => unfold valN vE wrap64; omega
  | succ m ih =>
    show stepI _ _ = _
    unfold stepI
    rw [ih, vE]
    unfold wrap64
    omega
theorem u64w (n : Int) : IntKind.u64.wrap n = n % 18446744073709551616 := by
  show (if (false && decide (n % (2 ^ 64 : Int) ≥ (2 ^ 63 : Int))) = true then n % (2 ^ 64 : Int) - (2 ^ 64 : Int) else n % (2 ^ 64 : Int)) = _
  rw [Bool.false_and, if_neg (by simp)]
  rfl
theorem u64_step (A D P : Int) : IntKind.u64.wrap (IntKind.u64.wrap A + IntKind.u64.wrap (D * IntKind.u64.wrap P)) = IntKind.u64.wrap (A + D * P) := by
  rw [u64w, u64w, u64w, u64w, u64w, ← Int.add_emod, Int.add_emod A, Int.mul_emod D (P % _), Int.emod_emod_of_dvd _ (Int.dvd_refl _), ← Int.mul_emod, ← Int.add_emod]
theorem u64_mul (P : Int) : IntKind.u64.wrap (IntKind.u64.wrap P * 10) = IntKind.u64.wrap (P * 10) := by
  rw [u64w, u64w, u64w]; omega
theorem u64_i64 (N : Int) : wrap64 (IntKind.u64.wrap N) = wrap64 N := by
  rw [u64w]; unfold wrap64; omega
theorem u64_neg (N : Int) : wrap64 (IntKind.u64.wrap (-IntKind.u64.wrap N)) = wrap64 (-(wrap64 N)) := by
  rw [u64w, u64w]; unfold wrap64; omega
theorem ret3 {a b : Int} {p : Value} (h : a = b) : Ending.returned (.tuple #[.int .i64 a, p, .bool false]) = .returned (.tuple #[.int .i64 b, p, .bool false]) := by rw [h]
set_option maxHeartbeats 1000000 in
set_option maxRecDepth 100000 in
theorem model_no (a : Option Addr) (len cap i : Nat) (d : Int) (z : List Int) (w : World) (hR : Rd w a len z) (hn : len ≤ 1048576) (hi : i ≤ len) (h : ∀ f k, ¬ IntAt z i f k) :
    Calls Try.prog 9 #[.slice a len cap, .int .i64 i, .int .i64 d] w fun e w' => e = .returned (.tuple #[.int .i64 0, .int .i64 len, .bool true]) ∧ w' = w := by
  have hl := hR.hlen
  go_enter Try.func9, Try.ntmps9
  go_upto_block 0 with fail
  go_cut [9, 10] from 18 to 32 (fun s p wx => ∃ s' p' : Nat, s = .int .i64 s' ∧ p = .int .i64 p' ∧ AEnd z i p' s' ∧ wx = w)
  case first =>
    go_wp2_with fail
    go_loop [9, 10] (fun s p => ∃ s' p' : Nat, s = .int .i64 s' ∧ p = .int .i64 p' ∧ AInv z i p' s') (fun _ p => len - (intOf p).toNat)
    case atStart => exact ⟨0, i, rfl, rfl, Nat.le_refl _, by omega, .inl ⟨rfl, rfl⟩⟩
    case round =>
      obtain ⟨s, p, rfl, rfl, hA⟩ := hrel
      by_cases hp : p < len
      · obtain ⟨b, off, rfl, hbl, hcell⟩ := hR.at hp
        have hc := hcell p hp
        have hs9 := hA.lt
        have hst := fun hne => hA.step (by omega) hne
        have hbr : nst s (z.getD p 0) = 9 → AEnd z i p s := fun e => ⟨hA, fun _ => e⟩
        clear hcell
        generalize z.getD p 0 = x at *
        generalize hns : nst s x = ns at *
        have Hns := show Hid _ from hns
        clear hns
        by_cases h9 : ns = 9
        · have hb9 : ((ns : Int) == 9) = true := beq_iff_eq.2 (by omega)
          have hE := hbr h9
          clear hbr hst h9
          go_wp2_with (go_at_call 16; refine (nsStep_any _ hs9 _ _).mono ?_; rintro e w' ⟨rfl, rfl⟩; rw [Hns.out])
          go_meet
          case rel => exact ⟨s, p, rfl, rfl, hE, rfl⟩
        · have hb9 : ((ns : Int) == 9) = false := beq_eq_false_iff_ne.2 (by omega)
          have hA' := hst h9
          clear hbr hst h9
          go_wp2_with (go_at_call 16; refine (nsStep_any _ hs9 _ _).mono ?_; rintro e w' ⟨rfl, rfl⟩; rw [Hns.out])
          go_round
          case rel => exact ⟨ns, p + 1, rfl, by go_num, hA'⟩
          case measure => simp [intOf]; omega
      · have hE : AEnd z i p s := ⟨hA, fun h => absurd h (by omega)⟩
        go_wp2_with fail
        go_meet
        case rel => exact ⟨s, p, rfl, rfl, hE, rfl⟩
  case rest =>
    obtain ⟨s, p, rfl, rfl, hE, rfl⟩ := hcut
    have hs : ¬ (s = 2 ∨ s = 3) := fun hs => by obtain ⟨f, hf⟩ := hE.yes hs; exact h f p hf
    have h2 : ((s : Int) != 2) = true := by rw [bne_iff_ne]; omega
    have h3 : ((s : Int) != 3) = true := by rw [bne_iff_ne]; omega
    go_wp2_with fail
    go_ret3
    exact ⟨rfl, rfl⟩
set_option maxHeartbeats 1000000 in
set_option maxRecDepth 100000 in
theorem model_yes (a : Option Addr) (len cap i : Nat) (d : Int) (z : List Int) (w : World) (hR : Rd w a len z) (hn : len ≤ 1048576) (hi : i ≤ len) (f k : Nat) (h : IntAt z i f k) (hd : (k : Int) - f ≤ d) :
    Calls Try.prog 9 #[.slice a len cap, .int .i64 i, .int .i64 d] w fun e w' => e = .returned (.tuple #[.int .i64 (ans z i f k), .int .i64 k, .bool false]) ∧ w' = w := by
  have hl := hR.hlen
  go_enter Try.func9, Try.ntmps9
  go_upto_block 0 with fail
  go_cut [9, 10] from 18 to 32 (fun s p wx => ∃ s' p' : Nat, s = .int .i64 s' ∧ p = .int .i64 p' ∧ AEnd z i p' s' ∧ wx = w)
  case first =>
    go_wp2_with fail
    go_loop [9, 10] (fun s p => ∃ s' p' : Nat, s = .int .i64 s' ∧ p = .int .i64 p' ∧ AInv z i p' s') (fun _ p => len - (intOf p).toNat)
    case atStart => exact ⟨0, i, rfl, rfl, Nat.le_refl _, by omega, .inl ⟨rfl, rfl⟩⟩
    case round =>
      obtain ⟨s, p, rfl, rfl, hA⟩ := hrel
      by_cases hp : p < len
      · obtain ⟨b, off, rfl, hbl, hcell⟩ := hR.at hp
        have hc := hcell p hp
        have hs9 := hA.lt
        have hst := fun hne => hA.step (by omega) hne
        have hbr : nst s (z.getD p 0) = 9 → AEnd z i p s := fun e => ⟨hA, fun _ => e⟩
        clear hcell
        generalize z.getD p 0 = x at *
        generalize hns : nst s x = ns at *
        have Hns := show Hid _ from hns
        clear hns
        by_cases h9 : ns = 9
        · have hb9 : ((ns : Int) == 9) = true := beq_iff_eq.2 (by omega)
          have hE := hbr h9
          clear hbr hst h9
          go_wp2_with (go_at_call 16; refine (nsStep_any _ hs9 _ _).mono ?_; rintro e w' ⟨rfl, rfl⟩; rw [Hns.out])
          go_meet
          case rel => exact ⟨s, p, rfl, rfl, hE, rfl⟩
        · have hb9 : ((ns : Int) == 9) = false := beq_eq_false_iff_ne.2 (by omega)
          have hA' := hst h9
          clear hbr hst h9
          go_wp2_with (go_at_call 16; refine (nsStep_any _ hs9 _ _).mono ?_; rintro e w' ⟨rfl, rfl⟩; rw [Hns.out])
          go_round
          case rel => exact ⟨ns, p + 1, rfl, by go_num, hA'⟩
          case measure => simp [intOf]; omega
      · have hE : AEnd z i p s := ⟨hA, fun h => absurd h (by omega)⟩
        go_wp2_with fail
        go_meet
        case rel => exact ⟨s, p, rfl, rfl, hE, rfl⟩
  case rest =>
    obtain ⟨s, p, rfl, rfl, hE, rfl⟩ := hcut
    have hs : s = 2 ∨ s = 3 := Classical.byContradiction fun hs => hE.no hs f k h
    obtain ⟨f', hf'⟩ := hE.yes hs
    obtain ⟨rfl, rfl⟩ := h.1.unique hf'.1
    clear hf' hE
    have hlt := h.1.lt
    have hsb : (((s : Int) != 2) && ((s : Int) != 3)) = false := by
      rcases hs with rfl | rfl <;> rfl
    obtain ⟨b, off, rfl, hbl, hcell⟩ := hR.at (j := i) (by omega)
    have HCell := show Hid _ from hcell
    have ci := hcell i (by omega)
    clear hcell
    go_upto_region 8 with fail
    go_cut [38] from 33 to 38 (fun v wx => v = .bool false ∧ wx = wc)
    case first =>
      rcases hs with rfl | rfl
      · go_wp2_with fail
        go_meet
        case rel => exact ⟨rfl, rfl⟩
      · go_wp2_with fail
        go_meet
        case rel => exact ⟨rfl, rfl⟩
    case rest =>
      obtain ⟨rfl, rfl⟩ := hcut
      clear hs hsb
      have hV : (z.getD i 0 = 45 → f = i + 1) ∧ (¬ z.getD i 0 = 45 → f = i) := by
        rcases h.1.1 with ⟨h1, rfl⟩ | ⟨h1, rfl⟩
        · exact ⟨fun _ => rfl, fun h2 => absurd h1.2 h2⟩
        · have h2 : ¬ z.getD f 0 = 45 := fun e => h1 ⟨by omega, e⟩
          exact ⟨fun h3 => absurd h3 h2, fun _ => rfl⟩
      obtain ⟨hV2, hV3⟩ := hV
      have hdig := h.1.digit
      have Hdig := show Hid _ from hdig
      clear hdig h
      have hzi : ∃ zi, zi = z.getD i 0 := ⟨_, rfl⟩
      obtain ⟨zi, hzi⟩ := hzi
      rw [← hzi] at ci hV2 hV3
      have Hzi := show Hid _ from hzi
      clear hzi
      have hil : i < len := by omega
      go_upto_if 47 with fail
      go_cut [13] from 39 to 49 (fun v wx => v = .int .i64 f ∧ wx = wc)
      case first =>
        by_cases h45 : zi = 45
        · have hb : (zi == 45) = true := beq_iff_eq.2 h45
          have hf := hV2 h45
          have Hf := show Hid (f = i + 1) from hf
          clear hf h45 hV2 hV3
          go_wp2_with fail
          go_meet
          case rel => exact ⟨by rw [Hf.out]; go_num, rfl⟩
        · have hb : (zi == 45) = false := beq_eq_false_iff_ne.2 h45
          have hf := hV3 h45
          have Hf := show Hid (f = i) from hf
          clear hf h45 hV2 hV3
          go_wp2_with fail
          go_meet
          case rel => exact ⟨by rw [Hf.out], rfl⟩
      case rest =>
        obtain ⟨rfl, rfl⟩ := hcut
        have hfk : f < k := hlt.2.1
        have hif : i ≤ f := hlt.1
        go_wp2_with fail
        go_loop [14, 15, 16] (fun u pw j => ∃ t : Nat, t ≤ k - f ∧ j = .int .i64 ((k : Int) - 1 - t) ∧ u = .int .u64 (IntKind.u64.wrap (mU z k t)) ∧ pw = .int .u64 (IntKind.u64.wrap (10 ^ t))) (fun _ _ j => (intOf j + 1).toNat)
        case atStart => exact ⟨0, Nat.zero_le _, by go_num, rfl, rfl⟩
        case round =>
          obtain ⟨t, ht, rfl, rfl, rfl⟩ := hrel
          by_cases hlt2 : t < k - f
          · have hj : ∃ j : Nat, (k : Int) - 1 - t = j ∧ k - 1 - t = j ∧ f ≤ j ∧ j < k := ⟨k - 1 - t, by omega, rfl, by omega, by omega⟩
            obtain ⟨j, hj1, hj2, hj3, hj4⟩ := hj
            rw [hj1]
            have cj := HCell.out j (by omega)
            have hdj := Hdig.out j hj3 hj4
            obtain ⟨hd1, hd2⟩ := hdj
            have hjl : j < len := by omega
            have HJ1 := show Hid _ from hj1
            have HJ2 := show Hid _ from hj2
            clear hj1 hj2
            have hx : ∃ x, x = z.getD j 0 := ⟨_, rfl⟩
            obtain ⟨x, hx⟩ := hx
            rw [← hx] at cj hd1 hd2
            have HX := show Hid _ from hx
            clear hx
            have hmu : ∃ U, U = IntKind.u64.wrap (mU z k t) := ⟨_, rfl⟩
            obtain ⟨U, hU⟩ := hmu
            rw [← hU]
            have hpw : ∃ W, W = IntKind.u64.wrap (10 ^ t) := ⟨_, rfl⟩
            obtain ⟨W, hWw⟩ := hpw
            rw [← hWw]
            have HU := show Hid _ from hU
            have HW := show Hid _ from hWw
            clear hU hWw
            go_wp2_with fail
            go_round
            case rel =>
              refine ⟨t + 1, by omega, by have := HJ1.out; congr 1; omega, ?_, ?_⟩
              · rw [HU.out, HW.out, u64_step, HX.out, mU, HJ2.out]
              · rw [HW.out, u64_mul, Int.pow_succ]
            case measure => simp only [intOf]; omega
          · obtain rfl : t = k - f := by omega
            have hfin : mU z k (k - f) = vE z f (k - f) := by
              have := mU_eq z f (k - f) (k - f) (Nat.le_refl _)
              rw [show f + (k - f) = k by omega, show k - (k - f) = f by omega] at this
              exact this
            rw [hfin]
            have hans : Hid (ans z i f k = if zi = 45 then wrap64 (-(wrap64 (vE z f (k - f)))) else wrap64 (vE z f (k - f))) := by
              show ans z i f k = _
              unfold ans
              rw [valN_wrap]
              by_cases h45 : zi = 45
              · rw [if_pos h45, if_neg (by have := hV2 h45; omega)]
              · rw [if_neg h45, if_pos (hV3 h45)]
            clear hfin
            by_cases h45 : zi = 45
            · have hb : (zi == 45) = true := beq_iff_eq.2 h45
              rw [if_pos h45] at hans
              clear h45 hV2 hV3
              go_wp2_with fail
              go_ret3
              exact ⟨ret3 (by rw [hans.out]; exact u64_neg _), rfl⟩
            · have hb : (zi == 45) = false := beq_eq_false_iff_ne.2 h45
              rw [if_neg h45] at hans
              clear h45 hV2 hV3
              go_wp2_with fail
              go_ret3
              exact ⟨ret3 (by rw [hans.out]; exact u64_i64 _), rfl⟩
set_option maxHeartbeats 1000000 in
set_option maxRecDepth 100000 in
theorem model_over (a : Option Addr) (len cap i : Nat) (d : Int) (z : List Int) (w : World) (hR : Rd w a len z) (hn : len ≤ 1048576) (hi : i ≤ len) (f k : Nat) (h : IntAt z i f k) (hd : d < (k : Int) - f) :
    Calls Try.prog 9 #[.slice a len cap, .int .i64 i, .int .i64 d] w fun e w' => e = .returned (.tuple #[.int .i64 0, .int .i64 len, .bool true]) ∧ w' = w := by
  have hl := hR.hlen
  go_enter Try.func9, Try.ntmps9
  go_upto_block 0 with fail
  go_cut [9, 10] from 18 to 32 (fun s p wx => ∃ s' p' : Nat, s = .int .i64 s' ∧ p = .int .i64 p' ∧ AEnd z i p' s' ∧ wx = w)
  case first =>
    go_wp2_with fail
    go_loop [9, 10] (fun s p => ∃ s' p' : Nat, s = .int .i64 s' ∧ p = .int .i64 p' ∧ AInv z i p' s') (fun _ p => len - (intOf p).toNat)
    case atStart => exact ⟨0, i, rfl, rfl, Nat.le_refl _, by omega, .inl ⟨rfl, rfl⟩⟩
    case round =>
      obtain ⟨s, p, rfl, rfl, hA⟩ := hrel
      by_cases hp : p < len
      · obtain ⟨b, off, rfl, hbl, hcell⟩ := hR.at hp
        have hc := hcell p hp
        have hs9 := hA.lt
        have hst := fun hne => hA.step (by omega) hne
        have hbr : nst s (z.getD p 0) = 9 → AEnd z i p s := fun e => ⟨hA, fun _ => e⟩
        clear hcell
        generalize z.getD p 0 = x at *
        generalize hns : nst s x = ns at *
        have Hns := show Hid _ from hns
        clear hns
        by_cases h9 : ns = 9
        · have hb9 : ((ns : Int) == 9) = true := beq_iff_eq.2 (by omega)
          have hE := hbr h9
          clear hbr hst h9
          go_wp2_with (go_at_call 16; refine (nsStep_any _ hs9 _ _).mono ?_; rintro e w' ⟨rfl, rfl⟩; rw [Hns.out])
          go_meet
          case rel => exact ⟨s, p, rfl, rfl, hE, rfl⟩
        · have hb9 : ((ns : Int) == 9) = false := beq_eq_false_iff_ne.2 (by omega)
          have hA' := hst h9
          clear hbr hst h9
          go_wp2_with (go_at_call 16; refine (nsStep_any _ hs9 _ _).mono ?_; rintro e w' ⟨rfl, rfl⟩; rw [Hns.out])
          go_round
          case rel => exact ⟨ns, p + 1, rfl, by go_num, hA'⟩
          case measure => simp [intOf]; omega
      · have hE : AEnd z i p s := ⟨hA, fun h => absurd h (by omega)⟩
        go_wp2_with fail
        go_meet
        case rel => exact ⟨s, p, rfl, rfl, hE, rfl⟩
  case rest =>
    obtain ⟨s, p, rfl, rfl, hE, rfl⟩ := hcut
    have hs : s = 2 ∨ s = 3 := Classical.byContradiction fun hs => hE.no hs f k h
    obtain ⟨f', hf'⟩ := hE.yes hs
    obtain ⟨rfl, rfl⟩ := h.1.unique hf'.1
    clear hf' hE
    have hlt := h.1.lt
    have hsb : (((s : Int) != 2) && ((s : Int) != 3)) = false := by
      rcases hs with rfl | rfl <;> rfl
    obtain ⟨b, off, rfl, hbl, hcell⟩ := hR.at (j := i) (by omega)
    have HCell := show Hid _ from hcell
    have ci := hcell i (by omega)
    clear hcell
    go_upto_region 8 with fail
    go_cut [38] from 33 to 38 (fun v wx => v = .bool false ∧ wx = wc)
    case first =>
      rcases hs with rfl | rfl
      · go_wp2_with fail
        go_meet
        case rel => exact ⟨rfl, rfl⟩
      · go_wp2_with fail
        go_meet
        case rel => exact ⟨rfl, rfl⟩
    case rest =>
      obtain ⟨rfl, rfl⟩ := hcut
      clear hs hsb
      have hV : (z.getD i 0 = 45 → f = i + 1) ∧ (¬ z.getD i 0 = 45 → f = i) := by
        rcases h.1.1 with ⟨h1, rfl⟩ | ⟨h1, rfl⟩
        · exact ⟨fun _ => rfl, fun h2 => absurd h1.2 h2⟩
        · have h2 : ¬ z.getD f 0 = 45 := fun e => h1 ⟨by omega, e⟩
          exact ⟨fun h3 => absurd h3 h2, fun _ => rfl⟩
      obtain ⟨hV2, hV3⟩ := hV
      have hdig := h.1.digit
      have Hdig := show Hid _ from hdig
      clear hdig h
      have hzi : ∃ zi, zi = z.getD i 0 := ⟨_, rfl⟩
      obtain ⟨zi, hzi⟩ := hzi
      rw [← hzi] at ci hV2 hV3
      have Hzi := show Hid _ from hzi
      clear hzi
      have hil : i < len := by omega
      go_upto_if 47 with fail
      go_cut [13] from 39 to 49 (fun v wx => v = .int .i64 f ∧ wx = wc)
      case first =>
        by_cases h45 : zi = 45
        · have hb : (zi == 45) = true := beq_iff_eq.2 h45
          have hf := hV2 h45
          have Hf := show Hid (f = i + 1) from hf
          clear hf h45 hV2 hV3
          go_wp2_with fail
          go_meet
          case rel => exact ⟨by rw [Hf.out]; go_num, rfl⟩
        · have hb : (zi == 45) = false := beq_eq_false_iff_ne.2 h45
          have hf := hV3 h45
          have Hf := show Hid (f = i) from hf
          clear hf h45 hV2 hV3
          go_wp2_with fail
          go_meet
          case rel => exact ⟨by rw [Hf.out], rfl⟩
      case rest =>
        obtain ⟨rfl, rfl⟩ := hcut
        have hfk : f < k := hlt.2.1
        have hif : i ≤ f := hlt.1
        go_wp2_with fail
        go_ret3
        exact ⟨rfl, rfl⟩
set_option maxHeartbeats 1000000 in
set_option maxRecDepth 100000 in
theorem law3_out (a : Option Addr) (len cap : Nat) (i d : Int) (w : World) (h : 1048576 < len ∨ i < 0 ∨ (len : Int) < i) (hl : len ≤ maxLen) :
    Calls Try.prog 3 #[.slice a len cap, .int .i64 i, .int .i64 d] w fun e w' => e = .returned (.bool true) ∧ Below w.heap.size w w' := by
  unfold maxLen at hl
  by_cases h1 : 1048576 < len
  · go_enter Try.func3, Try.ntmps3
    go_wp2
    go_ret
    exact ⟨rfl, Below.refl _ _⟩
  · by_cases h2 : i < 0
    · go_enter Try.func3, Try.ntmps3
      go_wp2
      go_ret
      exact ⟨rfl, Below.refl _ _⟩
    · have h3 : (len : Int) < i := by omega
      go_enter Try.func3, Try.ntmps3
      go_wp2
      go_ret
      exact ⟨rfl, Below.refl _ _⟩
/-- What both sides give. -/
def Out (z : List Int) (i len : Nat) (d : Int) (v : Int) (j : Nat) (s : Bool) : Prop :=
  (∃ f k, IntAt z i f k ∧ (k : Int) - f ≤ d ∧ v = ans z i f k ∧ j = k ∧ s = false) ∨ ((∀ f k, IntAt z i f k → d < (k : Int) - f) ∧ v = 0 ∧ j = len ∧ s = true)
theorem Out.unique {z : List Int} {i len : Nat} {d v v' : Int} {j j' : Nat} {s s' : Bool} (h : Out z i len d v j s) (h' : Out z i len d v' j' s') : v = v' ∧ j = j' ∧ s = s' := by
  rcases h with ⟨f, k, h1, h2, rfl, rfl, rfl⟩ | ⟨h1, rfl, rfl, rfl⟩ <;> rcases h' with ⟨f', k', h1', h2', rfl, rfl, rfl⟩ | ⟨h1', rfl, rfl, rfl⟩
  · obtain ⟨rfl, rfl⟩ := h1.1.unique h1'.1
    exact ⟨rfl, rfl, rfl⟩
  · have := h1' _ _ h1; omega
  · have := h1 _ _ h1'; omega
  · exact ⟨rfl, rfl, rfl⟩
theorem int_out (S n c i b0 : Nat) (a : Option Addr) (z : List Int) (w : World) (d : Int) (hS : Sc w S (.slice a n c) i false) (hD : w.ownsRow b0 5 1 (.slice a n c) n (u8s z)) (hn : n ≤ 1048576) (hi : i ≤ n) :
    Calls Try.prog 8 #[.pointer (some ⟨S, 0, none⟩), .int .i64 d] w fun e w' => ∃ v j s, e = .returned (.int .i64 v) ∧ Out z i n d v j s ∧ Sc w' S (.slice a n c) j s ∧ w.grownBy w' (some S) := by
  by_cases hI : ∃ f k, IntAt z i f k
  · obtain ⟨f, k, h⟩ := hI
    by_cases hd : (k : Int) - f ≤ d
    · refine (int_yes S n c i b0 a false z w f k d hS hD hn hi h hd).mono ?_
      rintro e w' ⟨rfl, h1, _, h2⟩
      exact ⟨_, _, _, rfl, .inl ⟨f, k, h, hd, rfl, rfl, rfl⟩, h1, h2⟩
    · refine (int_over S n c i b0 a false z w f k d hS hD hn hi h (by omega)).mono ?_
      rintro e w' ⟨rfl, h1, _, h2⟩
      exact ⟨_, _, _, rfl, .inr ⟨fun f' k' h' => by obtain ⟨rfl, rfl⟩ := h.1.unique h'.1; omega, rfl, rfl, rfl⟩, h1, h2⟩
  · refine (int_no S n c i b0 a false z w d hS hD hn hi (fun f k h => hI ⟨f, k, h⟩)).mono ?_
    rintro e w' ⟨rfl, h1, _, h2⟩
    exact ⟨_, _, _, rfl, .inr ⟨fun f k h => absurd ⟨f, k, h⟩ hI, rfl, rfl, rfl⟩, h1, h2⟩
theorem model_out (a : Option Addr) (len cap i : Nat) (d : Int) (z : List Int) (w : World) (hR : Rd w a len z) (hn : len ≤ 1048576) (hi : i ≤ len) :
    Calls Try.prog 9 #[.slice a len cap, .int .i64 i, .int .i64 d] w fun e w' => ∃ v j s, e = .returned (.tuple #[.int .i64 v, .int .i64 (j : Nat), .bool s]) ∧ Out z i len d v j s ∧ w' = w := by
  by_cases hI : ∃ f k, IntAt z i f k
  · obtain ⟨f, k, h⟩ := hI
    by_cases hd : (k : Int) - f ≤ d
    · refine (model_yes a len cap i d z w hR hn hi f k h hd).mono ?_
      rintro e w' ⟨rfl, rfl⟩
      exact ⟨_, _, _, rfl, .inl ⟨f, k, h, hd, rfl, rfl, rfl⟩, rfl⟩
    · refine (model_over a len cap i d z w hR hn hi f k h (by omega)).mono ?_
      rintro e w' ⟨rfl, rfl⟩
      exact ⟨_, _, _, rfl, .inr ⟨fun f' k' h' => by obtain ⟨rfl, rfl⟩ := h.1.unique h'.1; omega, rfl, rfl, rfl⟩, rfl⟩
  · refine (model_no a len cap i d z w hR hn hi (fun f k h => hI ⟨f, k, h⟩)).mono ?_
    rintro e w' ⟨rfl, rfl⟩
    exact ⟨_, _, _, rfl, .inr ⟨fun f k h => absurd ⟨f, k, h⟩ hI, rfl, rfl, rfl⟩, rfl⟩
set_option maxHeartbeats 1000000 in
set_option maxRecDepth 100000 in
theorem law3_in (a : Option Addr) (len cap i : Nat) (d : Int) (z : List Int) (w : World) (hR : Rd w a len z) (hn : len ≤ 1048576) (hi : i ≤ len) :
    Calls Try.prog 3 #[.slice a len cap, .int .i64 i, .int .i64 d] w fun e w' => e = .returned (.bool true) ∧ Below w.heap.size w w' := by
  go_enter Try.func3, Try.ntmps3
  go_upto_region 7 with go_in
  go_wp2_with fail
  refine (clone_any a len cap z w hR hn).mono ?_
  rintro e w1 ⟨a1, c1, rfl, ho1, hb1⟩
  go_wp2_with fail
  refine (newSc a1 len c1 i w1).mono ?_
  rintro e w2 ⟨rfl, hS, hb2⟩
  have ho := own_below ho1 hb2
  have hB2 := hb1.trans (hb2.mono hb1.size)
  have hle := hb1.size
  clear ho1 hb1 hb2
  generalize w1.heap.size = S at *
  go_wp2_with fail
  refine (int_out S len c1 i _ a1 z w2 d hS ho hn hi).mono ?_
  rintro e w3 ⟨v, j, s, rfl, hO, hS3, hg3⟩
  have hB3 := below_of_grown hB2 hg3 hle
  clear hS ho hB2 hg3
  have HO := show Hid _ from hO
  clear hO
  go_wp2_with fail
  refine (model_out a len cap i d z w3 (hR.below hB3) hn hi).mono ?_
  rintro e w4 ⟨v', j', s', rfl, hO', rfl⟩
  obtain ⟨rfl, rfl, rfl⟩ := Out.unique HO.out hO'
  clear HO hO' hR
  go_wp2_with fail
  refine (zzOff _ _ _ _ _ hS3).mono ?_
  rintro e w' ⟨rfl, rfl⟩
  go_wp2_with fail
  refine (zzStop _ _ _ _ _ hS3).mono ?_
  rintro e w' ⟨rfl, rfl⟩
  go_wp2_with fail
  go_ret
  exact ⟨by cases s <;> rfl, hB3⟩
/-- The first law's walk, every input. -/
theorem law3 (a : Option Addr) (len cap : Nat) (i d : Int) (z : List Int) (w : World) (hR : Rd w a len z) (hl : len ≤ maxLen) :
    Calls Try.prog 3 #[.slice a len cap, .int .i64 i, .int .i64 d] w fun e w' => e = .returned (.bool true) ∧ Below w.heap.size w w' := by
  by_cases h : 1048576 < len ∨ i < 0 ∨ (len : Int) < i
  · exact law3_out a len cap i d w h hl
  · obtain ⟨i', rfl⟩ := Int.eq_ofNat_of_zero_le (a := i) (by omega)
    exact law3_in a len cap i' d z w hR (by omega) (by omega)
end Go.Proofs.Qxb6628994a
