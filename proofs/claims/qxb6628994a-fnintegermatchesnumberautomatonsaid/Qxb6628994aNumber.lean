import Derived.Test.Qxb6628994aKit
namespace Go.Proofs.Qxb6628994a
open Go.RowKit
set_option linter.unusedVariables false
/-- f: where the digits begin. -/
def First (z : List Int) (i f : Nat) : Prop := (hit z i 45 ∧ f = i + 1) ∨ (¬ hit z i 45 ∧ f = i)
/-- z[i:k] is an integer, its digits from f on, and nothing that would go on as a fraction or an exponent lies behind it. -/
def Core (z : List Int) (i f k : Nat) : Prop := First z i f ∧ ((hit z f 48 ∧ k = f + 1) ∨ (¬ hit z f 48 ∧ IsEnd z f k ∧ f < k))
def IntAt (z : List Int) (i f k : Nat) : Prop := Core z i f k ∧ ¬ hit z k 46 ∧ ¬ hit z k 101 ∧ ¬ hit z k 69
theorem isEnd_unique {z : List Int} {i k k' : Nat} (h : IsEnd z i k) (h' : IsEnd z i k') : k = k' := by
  obtain ⟨a1, a2, a3, a4⟩ := h
  obtain ⟨b1, b2, b3, b4⟩ := h'
  rcases Nat.lt_trichotomy k k' with hlt | rfl | hlt
  · exact absurd (b3 k a1 hlt) (a4 (by omega))
  · rfl
  · exact absurd (a3 k' b1 hlt) (b4 (by omega))
theorem Core.lt {z : List Int} {i f k : Nat} (h : Core z i f k) : i ≤ f ∧ f < k ∧ k ≤ z.length := by
  obtain ⟨h1, h2⟩ := h
  have : i ≤ f := by rcases h1 with ⟨_, rfl⟩ | ⟨_, rfl⟩ <;> omega
  rcases h2 with ⟨h3, rfl⟩ | ⟨_, h3, h4⟩
  · exact ⟨this, by omega, by have := h3.1; omega⟩
  · exact ⟨this, h4, h3.2.1⟩
section
variable (S n c i b0 : Nat) (a : Option Addr) (st : Bool) (z : List Int) (w : World)
attribute [local go_sem] drewN_setCell

set_option maxHeartbeats 1000000 in
theorem number_yes (f k : Nat) (hS : Sc w S (.slice a n c) i st) (hD : w.ownsRow b0 5 1 (.slice a n c) n (u8s z)) (hn : n ≤ 1048576) (hi : i ≤ n) (h : IntAt z i f k) :
    Calls Try.prog 14 #[.pointer (some ⟨S, 0, none⟩)] w fun e w' => ∃ g, a = some ⟨g, 0, none⟩ ∧ e = .returned (.tuple #[.slice (some ⟨g, i, none⟩) (k - i) (c - i), .bool true]) ∧ Sc w' S (.slice a n c) k st ∧ w'.ownsRow b0 5 1 (.slice a n c) n (u8s z) ∧ w.grownBy w' (some S) := by
  have hl : z.length = n := by simpa [u8s] using hD.1
  have hlt := h.1.lt
  obtain ⟨⟨hF, hC⟩, hn46, hn101, hn69⟩ := h
  have hnc : n ≤ c := by
    rcases hD.2 with ⟨h1, h2⟩ | ⟨g, c', cur, h1, _, _, h2, _⟩
    · omega
    · simp only [Value.slice.injEq] at h1; omega
  have c1 := hS.c1
  go_enter Try.func14, Try.ntmps14
  go_wp2_with fail
  refine (next_any S n c i b0 a st z w 45 hS hD hn hi).mono ?_
  rintro e w1 ⟨r, j, rfl, hr, hj, hS1, hD1, hg1⟩
  obtain rfl : j = f := by
    rcases hr with ⟨_, h1, h2⟩ | ⟨_, h1, h2⟩ <;> rcases hF with ⟨h3, h4⟩ | ⟨h3, h4⟩ <;> first | omega | exact absurd h1 h3 | exact absurd h3 h1
  clear hr
  go_wp2_with fail
  refine (next_any S n c j b0 a st z w1 48 hS1 hD1 hn hj).mono ?_
  rintro e w2 ⟨r, j2, rfl, hr, hj2, hS2, hD2, hg2⟩
  rcases hr with ⟨rfl, h48, rfl⟩ | ⟨rfl, h48, rfl⟩
  · rcases hC with ⟨_, rfl⟩ | ⟨h', _⟩
    · have hS3 := hS2
      have hD3 := hD2
      have hg3 := grown_trans hg1 hg2
      clear hS2 hD2 hg2
      obtain ⟨w3, rfl⟩ : ∃ w3, w3 = w2 := ⟨_, rfl⟩
      go_wp2_with fail
      refine (next_no S n c _ b0 a st z w3 46 hS3 hD3 hn (by omega) hn46).mono ?_
      rintro e w4 ⟨rfl, hS4, hg4⟩
      have hD4 := own_step hD3 hS3 hg4
      go_wp2_with fail
      refine (next_no S n c _ b0 a st z w4 101 hS4 hD4 hn (by omega) hn101).mono ?_
      rintro e w5 ⟨rfl, hS5, hg5⟩
      have hD5 := own_step hD4 hS4 hg5
      go_wp2_with fail
      refine (next_no S n c _ b0 a st z w5 69 hS5 hD5 hn (by omega) hn69).mono ?_
      rintro e w6 ⟨rfl, hS6, hg6⟩
      have hD6 := own_step hD5 hS5 hg6
      have hgg := grown_trans (grown_trans (grown_trans hg3 hg4) hg5) hg6
      clear hS hD hS1 hD1 hS3 hD3 hS4 hD4 hS5 hD5 hg1 hg3 hg4 hg5 hg6 c1 hn46 hn101 hn69
      obtain ⟨g, rfl, _⟩ := own_at hD6 (k := i) (by omega)
      have d0 := hS6.c0
      have d1 := hS6.c1
      have hci : i < c := by omega
      go_wp2_with fail
      go_quiet (fail)
      go_wp2
      go_ret2
      exact ⟨g, rfl, rfl, hS6, hD6, grown_trans hgg (grown_drew _ _ _)⟩
    · exact absurd h48 h'
  · rcases hC with ⟨h', _⟩ | ⟨_, hE, hfk⟩
    · exact absurd h' h48
    · go_wp2_with fail
      refine (digits_any S n c j2 b0 a st z w2 hS2 hD2 hn hj2).mono ?_
      rintro e w3 ⟨k', hE', rfl, hS3, hD3, hgd⟩
      obtain rfl : k' = k := isEnd_unique hE' hE
      have hdec : decide (j2 < k') = true := by rw [decide_eq_true_eq]; exact hfk
      have hg3 := grown_trans (grown_trans hg1 hg2) hgd
      clear hS2 hD2 hg2 hgd hE hE'
      go_wp2_with fail
      refine (next_no S n c _ b0 a st z w3 46 hS3 hD3 hn (by omega) hn46).mono ?_
      rintro e w4 ⟨rfl, hS4, hg4⟩
      have hD4 := own_step hD3 hS3 hg4
      go_wp2_with fail
      refine (next_no S n c _ b0 a st z w4 101 hS4 hD4 hn (by omega) hn101).mono ?_
      rintro e w5 ⟨rfl, hS5, hg5⟩
      have hD5 := own_step hD4 hS4 hg5
      go_wp2_with fail
      refine (next_no S n c _ b0 a st z w5 69 hS5 hD5 hn (by omega) hn69).mono ?_
      rintro e w6 ⟨rfl, hS6, hg6⟩
      have hD6 := own_step hD5 hS5 hg6
      have hgg := grown_trans (grown_trans (grown_trans hg3 hg4) hg5) hg6
      clear hS hD hS1 hD1 hS3 hD3 hS4 hD4 hS5 hD5 hg1 hg3 hg4 hg5 hg6 c1 hn46 hn101 hn69
      obtain ⟨g, rfl, _⟩ := own_at hD6 (k := i) (by omega)
      have d0 := hS6.c0
      have d1 := hS6.c1
      have hci : i < c := by omega
      go_wp2_with fail
      go_quiet (fail)
      go_wp2
      go_ret2
      exact ⟨g, rfl, rfl, hS6, hD6, grown_trans hgg (grown_drew _ _ _)⟩
/-- The text that number hands back: nil, or a part of the data from i on. -/
def Txt (a : Option Addr) (i n c : Nat) (v : Value) : Prop := v = .slice none 0 0 ∨ ∃ g k, a = some ⟨g, 0, none⟩ ∧ i < k ∧ k ≤ n ∧ v = .slice (some ⟨g, i, none⟩) (k - i) (c - i)
set_option maxHeartbeats 1000000 in
theorem number_no (hS : Sc w S (.slice a n c) i st) (hD : w.ownsRow b0 5 1 (.slice a n c) n (u8s z)) (hn : n ≤ 1048576) (hi : i ≤ n) (h : ∀ f k, ¬ IntAt z i f k) :
    Calls Try.prog 14 #[.pointer (some ⟨S, 0, none⟩)] w fun e w' => ∃ v i' st', e = .returned (.tuple #[v, .bool false]) ∧ Txt a i n c v ∧ i' ≤ n ∧ Sc w' S (.slice a n c) i' st' ∧ w'.ownsRow b0 5 1 (.slice a n c) n (u8s z) ∧ w.grownBy w' (some S) := by
  have hl : z.length = n := by simpa [u8s] using hD.1
  have hnc : n ≤ c := by
    rcases hD.2 with ⟨h1, h2⟩ | ⟨g, c', cur, h1, _, _, h2, _⟩
    · simp only [Value.slice.injEq] at h1; omega
    · simp only [Value.slice.injEq] at h1; omega
  have c1 := hS.c1
  go_enter Try.func14, Try.ntmps14
  go_wp2_with fail
  refine (next_any S n c i b0 a st z w 45 hS hD hn hi).mono ?_
  rintro e w1 ⟨r, f, rfl, hr, hj, hS1, hD1, hg1⟩
  have hF : First z i f := by
    rcases hr with ⟨_, h1, h2⟩ | ⟨_, h1, h2⟩
    · exact .inl ⟨h1, h2⟩
    · exact .inr ⟨h1, h2⟩
  clear hr
  go_upto_region 3 with fail
  go_cut [18] from 11 to 18 (fun v wx => ∃ (k : Nat) (b : Bool), v = .bool b ∧ k ≤ n ∧ Sc wx S (.slice a n c) k st ∧ wx.ownsRow b0 5 1 (.slice a n c) n (u8s z) ∧ w.grownBy wx (some S) ∧ (b = false → Core z i f k))
  case first =>
    go_wp2_with fail
    refine (next_any S n c f b0 a st z w1 48 hS1 hD1 hn hj).mono ?_
    rintro e w2 ⟨r, j2, rfl, hr, hj2, hS2, hD2, hg2⟩
    rcases hr with ⟨rfl, h48, rfl⟩ | ⟨rfl, h48, rfl⟩
    · go_wp2_with fail
      go_meet
      case rel => exact ⟨f + 1, false, rfl, hj2, hS2, hD2, grown_trans hg1 hg2, fun _ => ⟨hF, .inl ⟨h48, rfl⟩⟩⟩
    · go_wp2_with fail
      refine (digits_any S n c j2 b0 a st z w2 hS2 hD2 hn hj2).mono ?_
      rintro e w3 ⟨k', hE', rfl, hS3, hD3, hgd⟩
      go_wp2_with fail
      go_meet
      case rel => exact ⟨k', _, rfl, by have := hE'.2.1; omega, hS3, hD3, grown_trans (grown_trans hg1 hg2) hgd, fun hb => ⟨hF, .inr ⟨h48, hE', by simpa using hb⟩⟩⟩
  case rest =>
    clear hS1 hD1 hg1 c1
    obtain ⟨k, b, rfl, hk, hS2, hD2, hg2, hb⟩ := hcut
    cases b with
    | true =>
      go_wp2_with fail
      refine (stop_any S n c k b0 a st z wc hS2 hD2).mono ?_
      rintro e w3 ⟨rfl, hS3, hD3, hg3⟩
      go_wp2_with fail
      go_ret2
      exact ⟨_, n, true, rfl, .inl rfl, Nat.le_refl _, hS3, hD3, grown_trans hg2 hg3⟩
    | false =>
      have hC := hb rfl
      clear hb
      have hlt := hC.lt
      have hmore : hit z k 46 ∨ hit z k 101 ∨ hit z k 69 := by
        refine Classical.byContradiction fun hno => h f k ⟨hC, fun h1 => hno (.inl h1), fun h1 => hno (.inr (.inl h1)), fun h1 => hno (.inr (.inr h1))⟩
      clear h hC hF
      go_wp2_with fail
      refine (next_any S n c k b0 a st z wc 46 hS2 hD2 hn hk).mono ?_
      rintro e w3 ⟨r, k3, rfl, hr, hk3, hS3, hD3, hg3⟩
      go_upto_if 22 with fail
      go_cut [3] from 21 to 27 (fun v wx => ∃ (k' : Nat) (bb : Bool), v = .bool bb ∧ i < k' ∧ k' ≤ n ∧ Sc wx S (.slice a n c) k' st ∧ wx.ownsRow b0 5 1 (.slice a n c) n (u8s z) ∧ w.grownBy wx (some S) ∧ (bb = false ∨ hit z k' 101 ∨ hit z k' 69))
      case first =>
        rcases hr with ⟨rfl, h46, rfl⟩ | ⟨rfl, h46, rfl⟩
        · go_wp2_with fail
          refine (digits_any S n c _ b0 a st z w3 hS3 hD3 hn hk3).mono ?_
          rintro e w4 ⟨k4, hE, rfl, hS4, hD4, hg4⟩
          by_cases hd : k + 1 < k4
          · have hdd : decide (k + 1 < k4) = true := decide_eq_true hd
            go_wp2_with fail
            go_meet
            case rel => exact ⟨k4, false, rfl, by omega, by have := hE.2.1; omega, hS4, hD4, grown_trans (grown_trans hg2 hg3) hg4, .inl rfl⟩
          · have hdd : decide (k + 1 < k4) = false := decide_eq_false hd
            go_wp2_with fail
            refine (stop_any S n c k4 b0 a st z w4 hS4 hD4).mono ?_
            rintro e w5 ⟨rfl, hS5, hD5, hg5⟩
            go_wp2_with fail
            go_ret2
            exact ⟨_, n, true, rfl, .inl rfl, Nat.le_refl _, hS5, hD5, grown_trans (grown_trans (grown_trans hg2 hg3) hg4) hg5⟩
        · have hm2 : hit z k3 101 ∨ hit z k3 69 := by
            rcases hmore with h1 | h1
            · exact absurd h1 h46
            · exact h1
          go_wp2_with fail
          go_meet
          case rel => exact ⟨k3, true, rfl, by omega, hk3, hS3, hD3, grown_trans hg2 hg3, .inr hm2⟩
      case rest =>
        clear hS2 hD2 hg2 hS3 hD3 hg3 hr hmore
        obtain ⟨k5, bb, rfl, hik, hk5, hS5, hD5, hg5, hmore⟩ := hcut
        go_upto_region 12 with fail
        go_cut [33] from 28 to 33 (fun v wx => ∃ (k' : Nat) (b : Bool), v = .bool b ∧ i < k' ∧ k' ≤ n ∧ Sc wx S (.slice a n c) k' st ∧ wx.ownsRow b0 5 1 (.slice a n c) n (u8s z) ∧ w.grownBy wx (some S) ∧ (b = true ∨ bb = false))
        case first =>
          go_wp2_with fail
          refine (next_any S n c k5 b0 a st z _ 101 hS5 hD5 hn hk5).mono ?_
          rintro e w6 ⟨r, k6, rfl, hr, hk6, hS6, hD6, hg6⟩
          rcases hr with ⟨rfl, h101, rfl⟩ | ⟨rfl, h101, rfl⟩
          · go_wp2_with fail
            go_meet
            case rel => exact ⟨_, true, rfl, by omega, hk6, hS6, hD6, grown_trans hg5 hg6, .inl rfl⟩
          · go_wp2_with fail
            refine (next_any S n c k6 b0 a st z _ 69 hS6 hD6 hn hk5).mono ?_
            rintro e w7 ⟨r, k7, rfl, hr, hk7, hS7, hD7, hg7⟩
            rcases hr with ⟨rfl, h69, rfl⟩ | ⟨rfl, h69, rfl⟩
            · go_wp2_with fail
              go_meet
              case rel => exact ⟨_, true, rfl, by omega, hk7, hS7, hD7, grown_trans (grown_trans hg5 hg6) hg7, .inl rfl⟩
            · go_wp2_with fail
              go_meet
              case rel => exact ⟨_, false, rfl, by omega, hk7, hS7, hD7, grown_trans (grown_trans hg5 hg6) hg7, .inr (by rcases hmore with h1 | h1 | h1; exact h1; exact absurd h1 h101; exact absurd h1 h69)⟩
        case rest =>
          clear hS5 hD5 hg5 hmore
          obtain ⟨k8, b8, rfl, hik8, hk8, hS8, hD8, hg8, hb8⟩ := hcut
          go_upto_if 33 with fail
          go_cut [3] from 34 to 43 (fun v wx => ∃ (k' : Nat), v = .bool false ∧ i < k' ∧ k' ≤ n ∧ Sc wx S (.slice a n c) k' st ∧ wx.ownsRow b0 5 1 (.slice a n c) n (u8s z) ∧ w.grownBy wx (some S))
          case first =>
            cases b8 with
            | false =>
              obtain rfl : bb = false := by rcases hb8 with h1 | h1; cases h1; exact h1
              go_wp2_with fail
              go_meet
              case rel => exact ⟨k8, rfl, hik8, hk8, hS8, hD8, hg8⟩
            | true =>
              clear hb8
              go_wp2_with fail
              refine (next_any S n c k8 b0 a st z _ 43 hS8 hD8 hn hk8).mono ?_
              rintro e w9 ⟨r, k9, rfl, hr, hk9, hS9, hD9, hg9⟩
              have hi9 : i < k9 := by rcases hr with ⟨_, _, h1⟩ | ⟨_, _, h1⟩ <;> omega
              clear hr hik8
              go_upto_if 36 with fail
              go_cut [] from 34 to 38 (fun wx => ∃ (k' : Nat), i < k' ∧ k' ≤ n ∧ Sc wx S (.slice a n c) k' st ∧ wx.ownsRow b0 5 1 (.slice a n c) n (u8s z) ∧ w.grownBy wx (some S))
              case first =>
                cases r with
                | true =>
                  go_wp2_with fail
                  go_meet
                  case rel => exact ⟨k9, hi9, hk9, hS9, hD9, grown_trans hg8 hg9⟩
                | false =>
                  go_wp2_with fail
                  refine (next_any S n c k9 b0 a st z _ 45 hS9 hD9 hn hk9).mono ?_
                  rintro e w10 ⟨r, k10, rfl, hr, hk10, hS10, hD10, hg10⟩
                  go_wp2_with fail
                  go_meet
                  case rel => exact ⟨k10, by rcases hr with ⟨_, _, h1⟩ | ⟨_, _, h1⟩ <;> omega, hk10, hS10, hD10, grown_trans (grown_trans hg8 hg9) hg10⟩
              case rest =>
                clear hS8 hD8 hg8 hS9 hD9 hg9
                obtain ⟨kb, hikb, hkb, hSb, hDb, hgb⟩ := hcut
                go_wp2_with fail
                refine (digits_any S n c kb b0 a st z _ hSb hDb hn hkb).mono ?_
                rintro e wd ⟨kd, hE, rfl, hSd, hDd, hgd⟩
                by_cases hd : kb < kd
                · have hdd : decide (kb < kd) = true := decide_eq_true hd
                  go_wp2_with fail
                  go_meet
                  case rel => exact ⟨kd, rfl, by omega, by have := hE.2.1; omega, hSd, hDd, grown_trans hgb hgd⟩
                · have hdd : decide (kb < kd) = false := decide_eq_false hd
                  go_wp2_with fail
                  refine (stop_any S n c kd b0 a st z wd hSd hDd).mono ?_
                  rintro e we ⟨rfl, hSe, hDe, hge⟩
                  go_wp2_with fail
                  go_ret2
                  exact ⟨_, n, true, rfl, .inl rfl, Nat.le_refl _, hSe, hDe, grown_trans (grown_trans hgb hgd) hge⟩
          case rest =>
            clear hS8 hD8 hg8 hb8
            obtain ⟨kz, rfl, hikz, hkz, hSz, hDz, hgz⟩ := hcut
            obtain ⟨g, rfl, _⟩ := own_at hDz (k := i) (by omega)
            have d0 := hSz.c0
            have d1 := hSz.c1
            have hci : i < c := by omega
            go_wp2_with fail
            go_quiet (fail)
            go_wp2
            go_ret2
            exact ⟨_, kz, st, rfl, .inr ⟨g, kz, rfl, hikz, hkz, rfl⟩, hkz, hSz, hDz, grown_trans hgz (grown_drew _ _ _)⟩
end
end Go.Proofs.Qxb6628994a
