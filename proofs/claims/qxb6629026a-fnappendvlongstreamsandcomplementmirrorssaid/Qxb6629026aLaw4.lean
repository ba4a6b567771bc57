import Derived.Test.Qxb6629026aLaw3
import Derived.Lib.Zigzag
namespace Go.Proofs.Qxb6629026a
open Go.RowKit
set_option linter.unusedVariables false
theorem compl_i64 (v : Int) (h0 : -9223372036854775808 ≤ v) (h1 : v ≤ 9223372036854775807) : bits .xor .i64 (-1) v = -v - 1 := by
  show IntKind.i64.wrap ((BitVec.ofInt 64 (-1) ^^^ BitVec.ofInt 64 v).toNat : Int) = _
  have e1 : (BitVec.ofInt 64 (-1)).toNat = 2 ^ 64 - 1 := by decide
  have e2 : (BitVec.ofInt 64 v).toNat = (v % 18446744073709551616).toNat := by
    rw [BitVec.toNat_ofInt]; rfl
  rw [BitVec.toNat_xor, e1, e2, Lib.xor_ones64 _ (by omega), IntKind.wrap_i64]
  omega
theorem app_nil (v : Int) (E : List Int) (w : World) (hE : IsEnc v E) :
    Calls Try.prog 7 #[.slice none 0 0, .int .i64 v] w fun r w' => ∃ a' c', r = .returned (.slice a' E.length c') ∧ w'.ownsRow w.heap.size 5 1 (.slice a' E.length c') E.length (u8s E) ∧ w.grownBy w' none := by
  refine (app_any w.heap.size none 0 0 [] v E w hE (World.ownsRow_nil _ _ _ _) (by omega) (Nat.le_refl _)).mono ?_
  rintro e w' ⟨a', c', rfl, h1, h2, _⟩
  rw [Nat.zero_add] at h1 ⊢
  exact ⟨a', c', rfl, h1, h2⟩
theorem mag_compl (v : Int) : mag (-v - 1) = mag v := by unfold mag; split <;> split <;> omega
theorem hdr_xor (k : Nat) (h1 : 1 ≤ k) (h2 : k ≤ 8) : bits .xor .u8 (136 - (k : Int)) (144 - (k : Int)) = 8 ∧ bits .xor .u8 (144 - (k : Int)) (136 - (k : Int)) = 8 := by
  match k, h1, h2 with
  | 1, _, _ => decide
  | 2, _, _ => decide
  | 3, _, _ => decide
  | 4, _, _ => decide
  | 5, _, _ => decide
  | 6, _, _ => decide
  | 7, _, _ => decide
  | 8, _, _ => decide
theorem mirror (v : Int) (E : List Int) (hE : IsEnc v E) (h0 : -9223372036854775808 ≤ v) (h1 : v ≤ 9223372036854775807) :
    ∃ D, IsEnc (-v - 1) D ∧ ((128 ≤ v ∨ v ≤ -129) → D.length = E.length ∧ 2 ≤ E.length ∧ bits .xor .u8 (E.getD 0 0) (D.getD 0 0) = 8 ∧ ∀ j, 1 ≤ j → j < E.length → E.getD j 0 = D.getD j 0) := by
  by_cases hb : 128 ≤ v ∨ v ≤ -129
  · rcases hE with ⟨q0, q1, rfl⟩ | ⟨k, hk, rfl⟩
    · omega
    · have hkb := hk.2.2.2
      refine ⟨(List.range (k + 1)).map (encAt (-v - 1) k), .inr ⟨k, ⟨by omega, by omega, by omega, by rw [mag_compl]; exact hkb⟩, rfl⟩, fun _ => ⟨by simp, by have := hkb.1; simp; omega, ?_, ?_⟩⟩
      · rw [enc_at v k 0 (by omega), enc_at (-v - 1) k 0 (by omega)]
        have := hdr_xor k hkb.1 hkb.2.1
        unfold encAt
        rw [if_pos rfl, if_pos rfl]
        by_cases hv : v < 0
        · rw [if_pos hv, if_neg (by omega)]; exact this.1
        · rw [if_neg hv, if_pos (by omega)]; exact this.2
      · intro j j1 j2
        rw [List.length_map, List.length_range] at j2
        rw [enc_at v k j (by omega), enc_at (-v - 1) k j (by omega)]
        unfold encAt
        rw [if_neg (by omega), if_neg (by omega), mag_compl]
  · obtain ⟨D, hD⟩ := IsEnc.ex (-v - 1) (by omega) (by omega)
    exact ⟨D, hD, fun h => absurd h hb⟩
theorem law4_long (a : Option Addr) (len cap : Nat) (v u : Int) (w : World) (hn : ¬ len ≤ 1048576) :
    Calls Try.prog 4 #[.slice a len cap, .int .i64 v, .int .i64 u] w fun e w' => e = .returned (.bool true) ∧ Below w.heap.size w w' := by
  go_enter Try.func4, Try.ntmps4
  go_wp2_with fail
  refine (bytes11 a len cap v u w).mono ?_
  rintro e w' ⟨rfl, rfl⟩
  rw [decide_eq_false hn]
  go_wp2_with fail
  go_ret
  exact ⟨rfl, Below.refl _ _⟩
set_option maxHeartbeats 2000000 in
set_option maxRecDepth 100000 in
theorem law4 (a : Option Addr) (len cap : Nat) (v u : Int) (z : List Int) (w : World) (hR : Rd w a len z) (h0 : -9223372036854775808 ≤ v) (h1 : v ≤ 9223372036854775807) (u0 : -9223372036854775808 ≤ u) (u1 : u ≤ 9223372036854775807) :
    Calls Try.prog 4 #[.slice a len cap, .int .i64 v, .int .i64 u] w fun e w' => e = .returned (.bool true) ∧ Below w.heap.size w w' := by
  by_cases hn : len ≤ 1048576
  case neg => exact law4_long a len cap v u w hn
  obtain ⟨E, hE⟩ := IsEnc.ex v h0 h1
  obtain ⟨F, hF⟩ := IsEnc.ex u u0 u1
  obtain ⟨D, hD, hM⟩ := mirror v E hE h0 h1
  have HM := show Hid _ from hM
  clear hM
  have hEl := hE.len
  have hFl := hF.len
  have hDl := hD.len
  go_enter Try.func4, Try.ntmps4
  go_wp2_with fail
  refine (bytes11 a len cap v u w).mono ?_
  rintro e w' ⟨rfl, rfl⟩
  rw [decide_eq_true hn]
  go_wp2_with fail
  refine (copy_any a len cap 0 z w' hR hn (by omega)).mono ?_
  rintro e w1 ⟨a1, c1, rfl, own1, b1⟩
  have hR1 := hR.below b1
  go_wp2_with fail
  refine (copy_any a len cap 0 z w1 hR1 hn (by omega)).mono ?_
  rintro e w2 ⟨a2, c2, rfl, own2, b2⟩
  go_wp2_with fail
  have hs1 := b1.size
  have hs2 := b2.size
  refine (app_any w1.heap.size a2 len c2 z v E w2 hE own2 (by omega) (by omega)).mono ?_
  rintro e w3 ⟨a3, c3, rfl, own3, g3, _⟩
  have hs3 := g3.size
  go_wp2_with fail
  refine (app_any w1.heap.size a3 (len + E.length) c3 (z ++ E) u F w3 hF own3 (by omega) (by omega)).mono ?_
  rintro e w4 ⟨a4, c4, rfl, own4, g4, _⟩
  have hs4 := g4.size
  have own1' := ((own_below own1 b2).kept g3 (apart own1 own2 (Nat.le_refl _)).1).kept g4 (apart own1 own3 (Nat.le_refl _)).1
  have bel : Below w'.heap.size w' w4 := by
    have q1 : Below w'.heap.size w' w2 := b1.trans (b2.mono hs1)
    have q2 : Below w'.heap.size w' w3 := q1.grown g3 (by omega) (fun k hk => by have := (own2.lt k hk).1; omega)
    exact q2.grown g4 (by omega) (fun k hk => by have := (own3.lt k hk).1; omega)
  have hc4 := own_cap own4
  rw [List.append_assoc, Nat.add_assoc] at own4
  rw [Nat.add_assoc] at hc4 ⊢
  have r1 := RowAt.ofOwn own1'
  have r4 := RowAt.ofOwn own4
  have hzl := hR.hlen
  have hW4 : w'.heap.size ≤ w4.heap.size := by omega
  clear own1 own2 own3 own1' own4 g3 g4 b1 b2 hR hR1 hs1 hs2 hs3 hs4
  have hc4' : ¬ c4 = len := by omega
  have hq1 : ¬ len + (E.length + F.length) ≤ len := by omega
  go_wp2_with fail
  refine (pre_any a4 a1 (len + (E.length + F.length)) c4 len c1 (z ++ (E ++ F)) z w4 r4 r1 (by omega) (by omega) (fun j hj => getD_app_l z _ j (by omega))).mono ?_
  rintro e w6 ⟨rfl, q, rfl⟩
  have r5 := r4.drew (m := q) |>.tail hzl (by omega)
  clear r4 r1
  go_wp2_with fail
  generalize Option.map (fun x => x.add len) a4 = a5 at *
  have hc5 : ¬ c4 - len = E.length := by omega
  refine (dec_any a5 (E.length + F.length) (c4 - len) (E ++ F) v E (w4.drewN q) r5 hE (by omega) (fun j hj => getD_app_l E F j hj) (by omega)).mono ?_
  rintro e w7 ⟨rfl, rfl⟩
  go_wp2_with fail
  have r6 := r5.tail rfl (by omega)
  refine (dec_any _ F.length (c4 - len - E.length) F u F (w4.drewN q) r6 hF (by omega) (fun j hj => rfl) (by omega)).mono ?_
  rintro e w7 ⟨rfl, rfl⟩
  generalize Option.map (fun x => x.add E.length) a5 = a6 at *
  clear r5 r6
  go_wp2_with fail
  refine (app_nil v E (w4.drewN q) hE).mono ?_
  rintro e w8 ⟨a8, c8, rfl, own8, g8⟩
  have hs8 := g8.size
  go_wp2_with fail
  rw [compl_i64 v h0 h1]
  refine (app_nil (-v - 1) D w8 hD).mono ?_
  rintro e w9 ⟨a9, c9, rfl, own9, g9⟩
  have bel' : Below w'.heap.size w' w9 := by
    have q1 : Below w'.heap.size w' (w4.drewN q) := ⟨bel.os, bel.tape, bel.output, bel.size, bel.block⟩
    have hq : w'.heap.size ≤ (w4.drewN q).heap.size := hW4
    exact (q1.grown g8 hq (by simp)).grown g9 (by omega) (by simp)
  have own8' := own8.kept g9 (by cases hv : (Value.slice a8 E.length c8).ownBlock <;> simp)
  have r8 := RowAt.ofOwn own8'
  have r9 := RowAt.ofOwn own9
  clear own8 own8' own9 g8 g9 bel hs8 hE hF hD hc4 hc4' hc5 hq1 hW4
  have hb0 : ((E.length : Int) == 0) = false := beq_eq_false_iff_ne.2 (by omega)
  have hb1 : ((D.length : Int) == 0) = false := beq_eq_false_iff_ne.2 (by omega)
  by_cases hbig : 128 ≤ v ∨ v ≤ -129
  case neg =>
    clear HM
    go_wp2_with fail
    go_ret
    exact ⟨rfl, bel'⟩
  obtain ⟨hl, h2, hx, hj⟩ := HM.out hbig
  clear HM hb1
  rw [hl] at r9 ⊢
  obtain ⟨p8, o8, rfl, e8⟩ := r8.at (k := 0) (by omega)
  obtain ⟨p9, o9, rfl, e9⟩ := r9.at (k := 0) (by omega)
  have x8 := e8 0 (by omega)
  have x9 := e9 0 (by omega)
  rw [Nat.add_zero] at x8 x9
  have hcc : ∀ j, 1 ≤ j → j < E.length → ∃ V, w9.cell? ⟨p8, o8 + j, none⟩ = some (.int .u8 V) ∧ w9.cell? ⟨p9, o9 + j, none⟩ = some (.int .u8 V) :=
    fun j q1 q2 => ⟨_, e8 j q2, by rw [e9 j q2, hj j q1 q2]⟩
  have HC := show Hid _ from hcc
  clear hcc
  clear e8 e9 r8 r9 hj hDl hl
  generalize E.getD 0 0 = X at *
  generalize D.getD 0 0 = Y at *
  generalize E.length = n at *
  rcases hbig with hb | hb
  · go_wp2_with fail
    go_quiet (fail)
    go_wp2_with fail
    rename_i nq
    clear x8 x9 hx hb0
    go_loopw [19] (fun i wr => ∃ k q : Nat, 1 ≤ k ∧ k ≤ n ∧ i = .int .i64 k ∧ wr = w9.drewN q) (fun i _ => n - (intOf i).toNat)
    case atStart => exact ⟨1, nq, Nat.le_refl _, by omega, rfl, rfl⟩
    case round =>
      obtain ⟨k, q, hk1, hk, rfl, rfl⟩ := hrel
      by_cases hlt : k < n
      · obtain ⟨V, d1, d2⟩ := HC.out k hk1 hlt
        clear HC
        go_wp2_with fail
        go_quiet (fail)
        go_wp2_with fail
        go_roundw
        case rel => exact ⟨k + 1, _, by omega, hlt, by go_num, rfl⟩
        case measure => simp [intOf]; omega
      · clear HC
        go_wp2_with fail
        go_ret
        exact ⟨rfl, ⟨bel'.os, bel'.tape, bel'.output, bel'.size, bel'.block⟩⟩
  · go_wp2_with fail
    go_quiet (fail)
    go_wp2_with fail
    rename_i nq
    clear x8 x9 hx hb0
    go_loopw [19] (fun i wr => ∃ k q : Nat, 1 ≤ k ∧ k ≤ n ∧ i = .int .i64 k ∧ wr = w9.drewN q) (fun i _ => n - (intOf i).toNat)
    case atStart => exact ⟨1, nq, Nat.le_refl _, by omega, rfl, rfl⟩
    case round =>
      obtain ⟨k, q, hk1, hk, rfl, rfl⟩ := hrel
      by_cases hlt : k < n
      · obtain ⟨V, d1, d2⟩ := HC.out k hk1 hlt
        clear HC
        go_wp2_with fail
        go_quiet (fail)
        go_wp2_with fail
        go_roundw
        case rel => exact ⟨k + 1, _, by omega, hlt, by go_num, rfl⟩
        case measure => simp [intOf]; omega
      · clear HC
        go_wp2_with fail
        go_ret
        exact ⟨rfl, ⟨bel'.os, bel'.tape, bel'.output, bel'.size, bel'.block⟩⟩
end Go.Proofs.Qxb6629026a
