import Derived.Test.Qxb6629026aDec
namespace Go.Proofs.Qxb6629026a
open Go.RowKit
set_option linter.unusedVariables false
theorem bytes5 (a : Option Addr) (len cap : Nat) (v : Int) (w : World) :
    Calls Try.prog 5 #[.slice a len cap, .int .i64 v] w fun e w' => e = .returned (.bool (decide (len ≤ 1048576))) ∧ w' = w := by
  by_cases h : len ≤ 1048576
  · rw [decide_eq_true h]
    go_enter Try.func5, Try.ntmps5
    go_wp2_with fail
    go_ret
    exact ⟨rfl, rfl⟩
  · rw [decide_eq_false h]
    go_enter Try.func5, Try.ntmps5
    go_wp2_with fail
    go_ret
    exact ⟨rfl, rfl⟩
theorem bytes11 (a : Option Addr) (len cap : Nat) (v u : Int) (w : World) :
    Calls Try.prog 11 #[.slice a len cap, .int .i64 v, .int .i64 u] w fun e w' => e = .returned (.bool (decide (len ≤ 1048576))) ∧ w' = w := by
  by_cases h : len ≤ 1048576
  · rw [decide_eq_true h]
    go_enter Try.func11, Try.ntmps11
    go_wp2_with fail
    go_ret
    exact ⟨rfl, rfl⟩
  · rw [decide_eq_false h]
    go_enter Try.func11, Try.ntmps11
    go_wp2_with fail
    go_ret
    exact ⟨rfl, rfl⟩
theorem apart {w w2 : World} {b b' e n n' : Nat} {v v' : Value} {xs ys : List Value} (h : w.ownsRow b e 1 v n xs) (h' : w2.ownsRow b' e 1 v' n' ys) (hs : w.heap.size ≤ b') : (v.ownBlock = none ∨ v.ownBlock ≠ v'.ownBlock) ∧ (v'.ownBlock = none ∨ v'.ownBlock ≠ v.ownBlock) := by
  cases hv : v.ownBlock with
  | none => exact ⟨.inl rfl, by cases hv' : v'.ownBlock <;> simp⟩
  | some k =>
    cases hv' : v'.ownBlock with
    | none => exact ⟨.inr (by simp), .inl rfl⟩
    | some k' =>
      have h1 := (h.lt k hv).2
      have h2 := (h'.lt k' hv').1
      have : k ≠ k' := by omega
      exact ⟨.inr (by simpa using this), .inr (by simpa using fun q => this q.symm)⟩
theorem getD_app_l (x y : List Int) (j : Nat) (h : j < x.length) : (x ++ y).getD j 0 = x.getD j 0 := by
  simp [List.getD_eq_getElem?_getD, List.getElem?_append_left h]
theorem getD_app_r (x y : List Int) (j : Nat) : (x ++ y).getD (x.length + j) 0 = y.getD j 0 := by
  simp [List.getD_eq_getElem?_getD, List.getElem?_append_right]
theorem own_cap {w : World} {b e n c : Nat} {a : Option Addr} {xs : List Value} (h : w.ownsRow b e 1 (.slice a n c) n xs) : n ≤ c := by
  rcases h.2 with ⟨h1, h0⟩ | ⟨g, cap', cur, h', _, _, h2, _⟩
  · omega
  · simp only [Value.slice.injEq] at h'
    obtain ⟨_, _, rfl⟩ := h'
    exact h2
theorem add_at (g off m : Nat) : (⟨g, off, none⟩ : Addr).add m = ⟨g, off + m, none⟩ := by unfold Addr.add; split <;> simp_all
theorem RowAt.tail {w : World} {a : Option Addr} {m l : Nat} {x y : List Int} (h : RowAt w a (m + l) (x ++ y)) (hx : x.length = m) (hl : 1 ≤ l) : RowAt w (Option.map (fun q => q.add m) a) l y := by
  have hyl : y.length = l := by have := h.1; rw [List.length_append] at this; omega
  obtain ⟨g, off, rfl, hc⟩ := h.at (k := 0) (by omega)
  refine ⟨hyl, .inr ⟨g, off + m, by rw [Option.map_some, add_at], fun j hj => ?_⟩⟩
  rw [Nat.add_assoc, hc (m + j) (by omega), ← hx, getD_app_r]
theorem law3_long (a : Option Addr) (len cap : Nat) (v : Int) (w : World) (hn : ¬ len ≤ 1048576) :
    Calls Try.prog 3 #[.slice a len cap, .int .i64 v] w fun e w' => e = .returned (.bool true) ∧ Below w.heap.size w w' := by
  go_enter Try.func3, Try.ntmps3
  go_wp2_with fail
  refine (bytes5 a len cap v w).mono ?_
  rintro e w' ⟨rfl, rfl⟩
  rw [decide_eq_false hn]
  go_wp2_with fail
  go_ret
  exact ⟨rfl, Below.refl _ _⟩
set_option maxHeartbeats 1000000 in
set_option maxRecDepth 100000 in
theorem law3 (a : Option Addr) (len cap : Nat) (v : Int) (z : List Int) (w : World) (hR : Rd w a len z) (h0 : -9223372036854775808 ≤ v) (h1 : v ≤ 9223372036854775807) :
    Calls Try.prog 3 #[.slice a len cap, .int .i64 v] w fun e w' => e = .returned (.bool true) ∧ Below w.heap.size w w' := by
  by_cases hn : len ≤ 1048576
  case neg => exact law3_long a len cap v w hn
  obtain ⟨E, hE⟩ := IsEnc.ex v h0 h1
  have hEl := hE.len
  go_enter Try.func3, Try.ntmps3
  go_wp2_with fail
  refine (bytes5 a len cap v w).mono ?_
  rintro e w' ⟨rfl, rfl⟩
  rw [decide_eq_true hn]
  go_wp2_with fail
  refine (copy_any a len cap 0 z w' hR hn (by omega)).mono ?_
  rintro e w1 ⟨a1, c1, rfl, own1, b1⟩
  have hR1 := hR.below b1
  go_wp2_with fail
  refine (copy_any a len cap 0 z w1 hR1 hn (by omega)).mono ?_
  rintro e w2 ⟨a2, c2, rfl, own2, b2⟩
  have hR2 := hR1.below b2
  go_wp2_with fail
  refine (copy_any a len cap 9 z w2 hR2 hn (by omega)).mono ?_
  rintro e w3 ⟨a3, c3, rfl, own3, b3⟩
  have own1' := own_below (own_below own1 b2) b3
  have own2' := own_below own2 b3
  go_wp2_with fail
  refine (app_any w1.heap.size a2 len c2 z v E w3 hE own2' (by omega) (by have := b2.size; have := b3.size; omega)).mono ?_
  rintro e w4 ⟨a4, c4, rfl, own4, g4, at4⟩
  have hs2 := b2.size
  have hs3 := b3.size
  have hs4 := g4.size
  have ap23 := apart own2 own3 (Nat.le_refl _)
  have own14 := own1'.kept g4 (apart own1 own2 (Nat.le_refl _)).1
  have own34 := own3.kept g4 ap23.2
  go_wp2_with fail
  refine (app_any w2.heap.size a3 len c3 z v E w4 hE own34 (by omega) (by omega)).mono ?_
  rintro e w5 ⟨a5, c5, rfl, own5, g5, at5⟩
  have own15 := own14.kept g5 (apart own1 own3 hs2).1
  have own45 : w5.ownsRow w1.heap.size 5 1 (Value.slice a4 (len + E.length) c4) (len + E.length) (u8s (z ++ E)) := by
    refine own4.kept g5 ?_
    cases hv : (Value.slice a4 (len + E.length) c4).ownBlock with
    | none => exact .inl rfl
    | some k =>
      right
      intro he
      rcases at4 k hv with h' | h'
      · rcases ap23.2 with hq | hq
        · rw [hq] at he; cases he
        · exact hq (he.symm.trans h'.symm)
      · have := (own3.lt k he.symm).2
        omega
  have bel : Below w'.heap.size w' w5 := by
    have hs1 := b1.size
    have q1 : Below w'.heap.size w' w3 := (b1.trans (b2.mono hs1)).trans (b3.mono (by omega))
    have q2 : Below w'.heap.size w' w4 := q1.grown g4 (by omega) (fun k hk => by have := (own2.lt k hk).1; omega)
    exact q2.grown g5 (by omega) (fun k hk => by have := (own3.lt k hk).1; omega)
  have hc4 := own_cap own4
  have hc4' : ¬ c4 = len := by omega
  have r1 := RowAt.ofOwn own15
  have r4 := RowAt.ofOwn own45
  have r5 := RowAt.ofOwn own5
  have hzl := hR.hlen
  clear own1 own2 own3 own1' own2' own14 own34 own4 own15 own45 own5 g4 g5 at4 at5 ap23 b1 b2 b3 hR hR1 hR2 hs2 hs3 hs4
  have hq1 : ¬ len + E.length ≤ len := by omega
  go_wp2_with fail
  refine (pre_any a4 a1 (len + E.length) c4 len c1 (z ++ E) z w5 r4 r1 (by omega) (by omega) (fun j hj => getD_app_l z E j (by omega))).mono ?_
  rintro e w6 ⟨rfl, q, rfl⟩
  go_wp2_with fail
  refine (can_any _ E.length (c4 - len) v E (w5.drewN q) (r4.drew.tail hzl hEl.1) hE (by omega)).mono ?_
  rintro e w7 ⟨rfl, rfl⟩
  go_wp2_with fail
  refine (eq_any a4 a5 (len + E.length) c4 c5 (z ++ E) (w5.drewN q) r4.drew r5.drew (by omega)).mono ?_
  rintro e w8 ⟨rfl, q', rfl⟩
  go_wp2_with fail
  go_ret
  refine ⟨rfl, ?_⟩
  exact ⟨bel.os, bel.tape, bel.output, bel.size, bel.block⟩
end Go.Proofs.Qxb6629026a
