import Derived.Test.Qxb6628473aWalk1
namespace Go.Proofs.Qxb6628473a
open Ieee Go.RowKit
attribute [local go_sem] run_store_float drewN_setCell
theorem own_form {w : World} {b e n : Nat} {v : Value} {xs : List Value} (h : w.ownsRow b e 1 v n xs) : ∃ a c, v = .slice a n c := by
  rcases h.2 with ⟨rfl, rfl⟩ | ⟨g, cap, cur, rfl, _⟩
  · exact ⟨_, _, rfl⟩
  · exact ⟨_, _, rfl⟩
theorem newVec (fa : Option Addr) (fl fc : Nat) (wa : Option Addr) (wc : Nat) (ws : List Nat) (len b : Nat) (w : World) (hown : w.ownsRow b 24 1 (.slice wa ws.length wc) ws.length (f32s ws)) (hl : ws.length ≤ 1000000) :
    Calls Try.prog 14 #[.slice fa fl fc, .slice wa ws.length wc, .int .i64 len] w fun e w' => ∃ nb, e = .returned (.agg #[.slice fa fl fc, .slice wa ws.length wc, .int .i64 len, .float .f64 nb]) ∧ Is64 (norm ws) nb ∧ Below w.heap.size w w' := by
  rcases hown.2 with ⟨h, h0⟩ | ⟨g, cap, cur, h, hb, hg, hnc, hcm, hcs, htake⟩
  · obtain rfl : ws = [] := List.eq_nil_of_length_eq_zero h0
    simp only [List.length_nil, Value.slice.injEq] at h ⊢
    obtain ⟨rfl, _, rfl⟩ := h
    exact newVec_nil fa fl fc len w
  · simp only [Value.slice.injEq] at h
    obtain ⟨rfl, _, rfl⟩ := h
    exact newVec_row fa fl fc g wc ws len w (Array.getElem?_eq_some_iff.1 hg).1 hl (fun k hk => own_cell hown k _ (by simp [f32s, hk]))

/-- The positions, among the first k, of what is not 0. -/
def fts (vs : List Nat) (k : Nat) : List Nat := (List.range k).filter fun i => !isZ (vs.getD i 0)
def u32s (xs : List Nat) : List Value := xs.map fun i : Nat => Value.int .u32 (i : Int)
theorem fts_yes (vs : List Nat) (k : Nat) (h : isZ (vs.getD k 0) = false) : fts vs (k + 1) = fts vs k ++ [k] := by
  unfold fts; rw [List.range_succ, List.filter_append, List.filter_cons_of_pos (by rw [h]; rfl), List.filter_nil]
theorem fts_no (vs : List Nat) (k : Nat) (h : isZ (vs.getD k 0) = true) : fts vs (k + 1) = fts vs k := by
  unfold fts; rw [List.range_succ, List.filter_append, List.filter_cons_of_neg (by rw [h]; simp), List.filter_nil, List.append_nil]
theorem nz_yes (vs : List Nat) (k : Nat) (hk : k < vs.length) (h : isZ (vs.getD k 0) = false) : nz (vs.take (k + 1)) = nz (vs.take k) ++ [vs.getD k 0] := by
  have : vs.getD k 0 = vs[k] := by simp [List.getD, hk]
  rw [this] at h ⊢
  unfold nz; rw [List.take_succ_eq_append_getElem hk, List.filter_append]; simp [h]
theorem nz_no (vs : List Nat) (k : Nat) (hk : k < vs.length) (h : isZ (vs.getD k 0) = true) : nz (vs.take (k + 1)) = nz (vs.take k) := by
  have : vs.getD k 0 = vs[k] := by simp [List.getD, hk]
  rw [this] at h
  unfold nz; rw [List.take_succ_eq_append_getElem hk, List.filter_append]; simp [h]
theorem fts_le (vs : List Nat) (k : Nat) : (fts vs k).length ≤ k := by
  unfold fts; have := List.length_filter_le (fun i => !isZ (vs.getD i 0)) (List.range k); simpa using this
theorem nz_le (vs : List Nat) (k : Nat) : (nz (vs.take k)).length ≤ k := by
  unfold nz; have := List.length_filter_le (fun x => !isZ x) (vs.take k); have := List.length_take_le k vs; omega
theorem fts_nz (vs : List Nat) (k : Nat) (hk : k ≤ vs.length) : (fts vs k).length = (nz (vs.take k)).length := by
  induction k with
  | zero => simp [fts, nz]
  | succ k ih =>
    have ih := ih (by omega)
    cases h : isZ (vs.getD k 0) with
    | true => rw [fts_no vs k h, nz_no vs k hk h, ih]
    | false => rw [fts_yes vs k h, nz_yes vs k hk h]; simp [ih]

/-- Two owned rows of different element types: a step on the one keeps the other. -/
theorem own_other {w w' : World} {b e e' n m : Nat} {v v' : Value} {xs ys : List Value} (h : w.ownsRow b e 1 v n xs) (h' : w.ownsRow b e' 1 v' m ys) (hne : e ≠ e') (hg : w.grownBy w' v'.ownBlock) : w'.ownsRow b e 1 v n xs := by
  refine h.kept hg ?_
  rcases h.2 with ⟨rfl, _⟩ | ⟨g, c, cur, rfl, _, hb, _⟩
  · left; rfl
  · right
    rcases h'.2 with ⟨rfl, _⟩ | ⟨g', c', cur', rfl, _, hb', _⟩
    · simp [Value.ownBlock]
    · simp only [Value.ownBlock, ne_eq, Option.some.injEq]
      intro hgg; subst hgg
      rw [hb] at hb'
      simp at hb'
      exact hne hb'.2

theorem own_below {w w' : World} {b e n : Nat} {v : Value} {xs : List Value} (h : w.ownsRow b e 1 v n xs) (hb : Below w.heap.size w w') : w'.ownsRow b e 1 v n xs :=
  h.kept (row := none) ⟨hb.os, hb.tape, hb.output, hb.size, fun k hk _ => hb.block k hk⟩ (by cases hv : v.ownBlock <;> simp)
theorem own_base {w : World} {b b' e n : Nat} {v : Value} {xs : List Value} (h : w.ownsRow b e 1 v n xs) (hb : b' ≤ b) : w.ownsRow b' e 1 v n xs := by
  refine ⟨h.1, ?_⟩
  rcases h.2 with h' | ⟨g, c, cur, h1, h2, h3⟩
  · exact .inl h'
  · exact .inr ⟨g, c, cur, h1, by omega, h3⟩
theorem own_set4 {w : World} {b e n B : Nat} {v : Value} {xs : List Value} (h : w.ownsRow b e 1 v n xs) (hB : B < b) (x0 x1 x2 x3 : Value) :
    ((((w.setCell ⟨B, 0, none⟩ x0).setCell ⟨B, 1, none⟩ x1).setCell ⟨B, 2, none⟩ x2).setCell ⟨B, 3, none⟩ x3).ownsRow b e 1 v n xs :=
  ownsRow_setCell_below (ownsRow_setCell_below (ownsRow_setCell_below (ownsRow_setCell_below h hB _) hB _) hB _) hB _
theorem below_set4 {w0 w : World} {B : Nat} (h : Below B w0 w) (x0 x1 x2 x3 : Value) :
    Below B w0 ((((w.setCell ⟨B, 0, none⟩ x0).setCell ⟨B, 1, none⟩ x1).setCell ⟨B, 2, none⟩ x2).setCell ⟨B, 3, none⟩ x3) :=
  (((h.setCell (Nat.le_refl _) _).setCell (Nat.le_refl _) _).setCell (Nat.le_refl _) _).setCell (Nat.le_refl _) _
theorem one_new (w : World) (v : Value) (t : TypeId) : ∀ j u, [v][j]? = some u → (w.alloc (.cells #[v] t)).cell? ((⟨w.heap.size, 0, none⟩ : Addr).add j) = some u := by
  intro j u hj
  match j, hj with
  | 0, hj => simp at hj; subst hj; simp [Addr.add]
theorem one_cell {v : Value} (h : v.oneCell' = true) : ∀ u ∈ [v], u.oneCell' = true := by
  intro u hu; simp at hu; subst hu; exact h
set_option maxHeartbeats 1000000 in
theorem fromVals_row (g cap : Nat) (vs : List Nat) (w : World) (hgl : g < w.heap.size) (hl : vs.length ≤ 1000000)
    (hcell : ∀ k, k < vs.length → w.cell? ⟨g, k, none⟩ = some (.float .f32 (vs.getD k 0))) :
    Calls Try.prog 6 #[.slice (some ⟨g, 0, none⟩) vs.length cap] w fun e w' => ∃ fv wv nb, e = .returned (.agg #[fv, wv, .int .i64 vs.length, .float .f64 nb]) ∧ Is64 (norm (nz vs)) nb ∧
      w'.ownsRow w.heap.size 33 1 fv (fts vs vs.length).length (u32s (fts vs vs.length)) ∧ w'.ownsRow w.heap.size 24 1 wv (nz vs).length (f32s (nz vs)) ∧ Below w.heap.size w w' := by
  obtain ⟨i33, hi, hz0, hz1, hz2⟩ := info_parts Try.info33
  obtain ⟨i24, ji, jz0, jz1, jz2⟩ := info_parts Try.info24
  go_enter Try.func6, Try.ntmps6
  go_wp2_with fail
  go_loopw [3, 4, 9] (fun fv wv i wr => ∃ k : Nat, k ≤ vs.length ∧ i = .int .i64 k ∧ wr.ownsRow (w.heap.size + 1) 33 1 fv (fts vs k).length (u32s (fts vs k)) ∧ wr.ownsRow (w.heap.size + 1) 24 1 wv (nz (vs.take k)).length (f32s (nz (vs.take k))) ∧
      Below (w.heap.size + 1) (w.alloc (.cells #[.slice none 0 0, .slice none 0 0, .int .i64 0, .float .f64 0] 28)) wr)
    (fun _ _ i _ => vs.length - (intOf i).toNat)
  case atStart => exact ⟨0, Nat.zero_le _, rfl, by simpa [fts, u32s] using World.ownsRow_nil _ _ _ _, by simpa [nz, f32s] using World.ownsRow_nil _ _ _ _, Below.refl _ _⟩
  case round =>
    obtain ⟨k, hk, rfl, hf, hw, hbel⟩ := hrel
    have hsz := hbel.size
    simp only [World.size_alloc] at hsz
    by_cases hlt : k < vs.length
    · have hc : wr.cell? ⟨g, k, none⟩ = some (.float .f32 (vs.getD k 0)) := by
        rw [hbel.cell (p := ⟨g, k, none⟩) (by show g < _; omega), World.cell?_alloc_past (hn := hgl)]
        exact hcell k hlt
      clear hcell
      have hfl := fts_le vs k
      have hwl := nz_le vs k
      cases hz : isZ (vs.getD k 0) with
      | true =>
        have hzb : (FloatKind.f32.format.order (vs.getD k 0) 0 != some .eq) = false := by unfold bne; exact congrArg not hz
        rw [← fts_no vs k hz] at hf
        rw [← nz_no vs k hlt hz] at hw
        clear hz hfl hwl
        generalize vs.getD k 0 = x at *
        go_wp2_with fail
        go_roundw
        case rel => exact ⟨k + 1, hlt, by go_num, hf, hw, hbel⟩
        case measure => simp [intOf]; omega
      | false =>
        have hzb : (FloatKind.f32.format.order (vs.getD k 0) 0 != some .eq) = true := by unfold bne; exact congrArg not hz
        have ef : Hid (fts vs (k + 1) = fts vs k ++ [k]) := fts_yes vs k hz
        have ew : Hid (nz (vs.take (k + 1)) = nz (vs.take k) ++ [vs.getD k 0]) := nz_yes vs k hlt hz
        clear hz
        generalize vs.getD k 0 = x at *
        generalize fts vs k = F at *
        generalize nz (vs.take k) = N at *
        go_wp2_with (first
          | (at_builtin; refine wpList_append_own _ rfl (.tmp 16) (.tmp 19) 25 rfl (w.heap.size + 1) 33 i33 (.int .u32 0) 1 4 Try.underlying25 hi hz0 hz1 hz2 rfl (by decide) _ _ _ rfl (hf.alloc _) ⟨wr.heap.size, 0, none⟩ 1 1 [.int .u32 k] rfl rfl (one_new _ _ _) (one_cell rfl) (by unfold maxLen; omega) (by omega) (by simp; omega) ?_; intro v1 w1 hf1 hg1 _; have hw1 := own_other (hw.alloc _) (hf.alloc _) (by decide) hg1; have hsz1 := hg1.size; have hb1 := (hbel.alloc (by omega) _).grown hg1 (by simp; omega) (fun k hk => (hf.lt k hk).1); simp only [World.size_alloc] at hsz1; clear hg1 hf hw hbel)
          | (at_builtin; refine wpList_append_own _ rfl (.tmp 21) (.tmp 23) 22 rfl (w.heap.size + 1) 24 i24 (.float .f32 0) 1 4 Try.underlying22 ji jz0 jz1 jz2 rfl (by decide) _ _ _ rfl (hw1.alloc _) ⟨w1.heap.size, 0, none⟩ 1 1 [.float .f32 x] rfl rfl (one_new _ _ _) (one_cell rfl) (by unfold maxLen; omega) (by omega) (by simp; omega) ?_; intro v2 w2 hw2 hg2 _; have hf2 := own_other (hf1.alloc _) (hw1.alloc _) (by decide) hg2; have hb2 := (hb1.alloc (by omega) _).grown hg2 (by simp; omega) (fun k hk => (hw1.lt k hk).1); clear hg2 hf1 hw1 hb1))
        go_roundw
        case rel => exact ⟨k + 1, hlt, by go_num, by rw [ef.out]; simpa [u32s] using hf2, by rw [ew.out]; simpa [f32s] using hw2, hb2⟩
        case measure => simp [intOf]; omega
    · obtain rfl : k = vs.length := by omega
      rw [List.take_length] at hw
      clear hcell
      have hwl := nz_le vs vs.length
      rw [List.take_length] at hwl
      obtain ⟨fa, fc, rfl⟩ := own_form hf
      obtain ⟨wa, wc, rfl⟩ := own_form hw
      go_wp2_with (go_at_call 14; refine (newVec _ _ _ _ _ (nz vs) vs.length _ _ hw (by omega)).mono ?_; rintro e w1 ⟨nb, rfl, hnb, hb1⟩; have hcc : ∀ o, w1.cell? ⟨w.heap.size, o, none⟩ = (w.alloc (.cells #[.slice none 0 0, .slice none 0 0, .int .i64 0, .float .f64 0] 28)).cell? ⟨w.heap.size, o, none⟩ := (fun o => (hbel.trans (hb1.mono (by omega))).cell (p := ⟨w.heap.size, o, none⟩) (by show w.heap.size < _; omega)); have hff : ∀ o, w1.frozen? ⟨w.heap.size, o, none⟩ = (w.alloc (.cells #[.slice none 0 0, .slice none 0 0, .int .i64 0, .float .f64 0] 28)).frozen? ⟨w.heap.size, o, none⟩ := (fun o => (hbel.trans (hb1.mono (by omega))).frozen (p := ⟨w.heap.size, o, none⟩) (by show w.heap.size < _; omega)))
      have hf1 := own_below hf hb1
      have hw1 := own_below hw hb1
      have hbb := hbel.trans (hb1.mono (by omega))
      refine bodyPost_ret (v := .agg #[.slice fa (fts vs vs.length).length fc, .slice wa (nz vs).length wc, .int .i64 vs.length, .float .f64 nb]) (by simp [results, Try.results6, go_sem, hcc]) rfl ⟨_, _, nb, rfl, hnb, ?_, ?_, ?_⟩
      · exact own_base (own_set4 hf1 (Nat.lt_succ_self _) _ _ _ _) (Nat.le_succ _)
      · exact own_base (own_set4 hw1 (Nat.lt_succ_self _) _ _ _ _) (Nat.le_succ _)
      · have hB : Below w.heap.size w w1 := ((Below.refl _ w).alloc (Nat.le_refl _) _).trans (hbb.mono (Nat.le_succ _))
        exact below_set4 hB _ _ _ _
set_option maxHeartbeats 400000 in
theorem fromVals_nil (w : World) :
    Calls Try.prog 6 #[.slice none 0 0] w fun e w' => ∃ nb, e = .returned (.agg #[.slice none 0 0, .slice none 0 0, .int .i64 0, .float .f64 nb]) ∧ Is64 (norm []) nb ∧ Below w.heap.size w w' := by
  go_enter Try.func6, Try.ntmps6
  go_wp2_with fail
  refine wp_loop_rounds 1 ?_; rw [rounds_succ]
  go_wp2_with (go_at_call 14; refine (newVec_nil _ _ _ 0 _).mono ?_; rintro e w1 ⟨nb, rfl, hnb, hb1⟩; have hcc : ∀ o, w1.cell? ⟨w.heap.size, o, none⟩ = (w.alloc (.cells #[.slice none 0 0, .slice none 0 0, .int .i64 0, .float .f64 0] 28)).cell? ⟨w.heap.size, o, none⟩ := (fun o => hb1.cell (p := ⟨w.heap.size, o, none⟩) (by simp)); have hff : ∀ o, w1.frozen? ⟨w.heap.size, o, none⟩ = (w.alloc (.cells #[.slice none 0 0, .slice none 0 0, .int .i64 0, .float .f64 0] 28)).frozen? ⟨w.heap.size, o, none⟩ := (fun o => hb1.frozen (p := ⟨w.heap.size, o, none⟩) (by simp)))
  refine bodyPost_ret (v := .agg #[.slice none 0 0, .slice none 0 0, .int .i64 0, .float .f64 nb]) (by simp [results, Try.results6, go_sem, hcc]) rfl ⟨nb, rfl, hnb, ?_⟩
  have hB : Below w.heap.size w w1 := ((Below.refl _ w).alloc (Nat.le_refl _) _).trans (hb1.mono (by simp))
  exact below_set4 hB _ _ _ _
/-- FromValues. -/
theorem fromVals (a : Option Addr) (c : Nat) (vs : List Nat) (b : Nat) (w : World) (hown : w.ownsRow b 24 1 (.slice a vs.length c) vs.length (f32s vs)) (hl : vs.length ≤ 1000000) :
    Calls Try.prog 6 #[.slice a vs.length c] w fun e w' => ∃ fa fc wa wc nb, e = .returned (.agg #[.slice fa (fts vs vs.length).length fc, .slice wa (nz vs).length wc, .int .i64 vs.length, .float .f64 nb]) ∧ Is64 (norm (nz vs)) nb ∧
      w'.ownsRow w.heap.size 33 1 (.slice fa (fts vs vs.length).length fc) (fts vs vs.length).length (u32s (fts vs vs.length)) ∧ w'.ownsRow w.heap.size 24 1 (.slice wa (nz vs).length wc) (nz vs).length (f32s (nz vs)) ∧ Below w.heap.size w w' := by
  rcases hown.2 with ⟨h, h0⟩ | ⟨g, cap, cur, h, hb, hg, hnc, hcm, hcs, htake⟩
  · obtain rfl : vs = [] := List.eq_nil_of_length_eq_zero h0
    simp only [List.length_nil, Value.slice.injEq] at h ⊢
    obtain ⟨rfl, _, rfl⟩ := h
    refine (fromVals_nil w).mono ?_
    rintro e w1 ⟨nb, rfl, hnb, hb1⟩
    exact ⟨none, 0, none, 0, nb, rfl, hnb, World.ownsRow_nil _ _ _ _, World.ownsRow_nil _ _ _ _, hb1⟩
  · simp only [Value.slice.injEq] at h
    obtain ⟨rfl, _, rfl⟩ := h
    refine (fromVals_row g c vs w (Array.getElem?_eq_some_iff.1 hg).1 hl (fun k hk => own_cell hown k _ (by simp [f32s, hk]))).mono ?_
    rintro e w1 ⟨fv, wv, nb, rfl, hnb, hf, hw, hb1⟩
    obtain ⟨fa, fc, rfl⟩ := own_form hf
    obtain ⟨wa, wc, rfl⟩ := own_form hw
    exact ⟨fa, fc, wa, wc, nb, rfl, hnb, hf, hw, hb1⟩
end Go.Proofs.Qxb6628473a
