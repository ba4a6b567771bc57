import Derived.Test.Qxb6628994aRows
import Derived.WalkKit
import Derived.ProofKit
import Derived.OpenShut
import Derived.WalkLawsBesides
import Derived.Deep.CutRange
import Derived.WalkSpells
import Derived.BigQuiet
import Derived.Deep.QuietTactic
namespace Go.Proofs.Qxb6628994a
open Go.RowKit

theorem Try.info5 : (Try.prog.info? 5).map (fun i => (i.zero, i.size, i.bytes)) = some (some (.int .u8 0), 1, 1) := by kernel_rfl
def u8s (z : List Int) : List Value := z.map (Value.int .u8)
theorem u8s_at (z : List Int) (k : Nat) (h : k < z.length) : (u8s z)[k]? = some (.int .u8 (z.getD k 0)) := by simp [u8s, h]
theorem own_cell {w : World} {b e n : Nat} {g c : Nat} {xs : List Value} (h : w.ownsRow b e 1 (.slice (some ⟨g, 0, none⟩) n c) n xs) (k : Nat) (v : Value) (hk : xs[k]? = some v) : w.cell? ⟨g, k, none⟩ = some v := by
  have hl : xs.length = n := by simpa using h.1
  rw [h.cellAt k (by have := (List.getElem?_eq_some_iff.1 hk).1; omega), hk]
theorem own_below {w w' : World} {b e n : Nat} {v : Value} {xs : List Value} (h : w.ownsRow b e 1 v n xs) (hb : Below w.heap.size w w') : w'.ownsRow b e 1 v n xs :=
  h.kept (row := none) ⟨hb.os, hb.tape, hb.output, hb.size, fun k hk _ => hb.block k hk⟩ (by cases hv : v.ownBlock <;> simp)
theorem own_base {w : World} {b b' e n : Nat} {v : Value} {xs : List Value} (h : w.ownsRow b e 1 v n xs) (hb : b' ≤ b) : w.ownsRow b' e 1 v n xs := by
  refine ⟨h.1, ?_⟩
  rcases h.2 with h' | ⟨g, c, cur, h1, h2, h3⟩
  · exact .inl h'
  · exact .inr ⟨g, c, cur, h1, by omega, h3⟩
theorem own_at {w : World} {b e n c k : Nat} {a : Option Addr} {xs : List Value} (h : w.ownsRow b e 1 (.slice a n c) n xs) (hk : k < n) : ∃ g, a = some ⟨g, 0, none⟩ ∧ ∀ v, xs[k]? = some v → w.cell? ⟨g, k, none⟩ = some v := by
  rcases h.2 with ⟨_, h0⟩ | ⟨g, cap', cur, h', _⟩
  · omega
  · simp only [Value.slice.injEq] at h'
    obtain ⟨rfl, _, rfl⟩ := h'
    exact ⟨g, rfl, fun v hv => own_cell h k v hv⟩
theorem own_form {w : World} {b e n : Nat} {v : Value} {xs : List Value} (h : w.ownsRow b e 1 v n xs) : ∃ a c, v = .slice a n c := by
  rcases h.2 with ⟨rfl, rfl⟩ | ⟨g, cap, cur, rfl, _⟩
  · exact ⟨_, _, rfl⟩
  · exact ⟨_, _, rfl⟩
theorem wp_world {P : Program} {c : Code} {Q : Exit → Act → World → Prop} {a : Act} {w : World} (R : World → Prop) (h0 : R w) (h : ∀ w', R w' → Code.wp P c Q a w') : Code.wp P c Q a w := h w h0
theorem balloc {w0 w : World} (h : Below w0.heap.size w0 w) (o : Obj) : Below w0.heap.size w0 (w.alloc o) := h.alloc h.size o
theorem drewN_setCell (w : World) (n : Nat) (a : Addr) (v : Value) : (w.drewN n).setCell a v = (w.setCell a v).drewN n := rfl

/-- The scanner in block S: its data, its offset, whether it is stopped; no list of skipped strings. -/
def Sc (w : World) (S : Nat) (D : Value) (i : Nat) (b : Bool) : Prop := w.heap[S]? = some (.cells #[D, .int .i64 i, .bool b, .pointer none] 35 (0, 0))
theorem Sc.c0 {w : World} {S : Nat} {D : Value} {i : Nat} {b : Bool} (h : Sc w S D i b) : w.cell? ⟨S, 0, none⟩ = some D := by rw [cell_of_row w S 0 _ 35 (0, 0) h]; rfl
theorem Sc.c1 {w : World} {S : Nat} {D : Value} {i : Nat} {b : Bool} (h : Sc w S D i b) : w.cell? ⟨S, 1, none⟩ = some (.int .i64 i) := by rw [cell_of_row w S 1 _ 35 (0, 0) h]; rfl
theorem Sc.c2 {w : World} {S : Nat} {D : Value} {i : Nat} {b : Bool} (h : Sc w S D i b) : w.cell? ⟨S, 2, none⟩ = some (.bool b) := by rw [cell_of_row w S 2 _ 35 (0, 0) h]; rfl
theorem Sc.fz {w : World} {S : Nat} {D : Value} {i : Nat} {b : Bool} (h : Sc w S D i b) (j : Nat) : w.frozen? ⟨S, j, none⟩ = false := frozen_of_row w S j _ 35 h
theorem Sc.lt {w : World} {S : Nat} {D : Value} {i : Nat} {b : Bool} (h : Sc w S D i b) : S < w.heap.size := (Array.getElem?_eq_some_iff.1 h).1
theorem grown_set (w : World) (S j n : Nat) (v : Value) : w.grownBy ((w.setCell ⟨S, j, none⟩ v).drewN n) (some S) :=
  ⟨rfl, rfl, rfl, by simp, fun k _ hk => heap_setCell_other w ⟨S, j, none⟩ k v (fun e => hk (by simp [e]))⟩
theorem grown_drew (w : World) (S n : Nat) : w.grownBy (w.drewN n) (some S) := ⟨rfl, rfl, rfl, Nat.le_refl _, fun _ _ _ => rfl⟩
theorem grown_trans {a b c : World} {r : Option Nat} (h : a.grownBy b r) (k : b.grownBy c r) : a.grownBy c r :=
  ⟨k.os.trans h.os, k.tape.trans h.tape, k.output.trans h.output, Nat.le_trans h.size k.size, fun i hi hr => (k.block i (Nat.lt_of_lt_of_le hi h.size) hr).trans (h.block i hi hr)⟩
theorem Sc.set1 {w : World} {S : Nat} {D : Value} {i : Nat} {b : Bool} (h : Sc w S D i b) (j n : Nat) : Sc ((w.setCell ⟨S, 1, none⟩ (.int .i64 j)).drewN n) S D j b := by
  show (w.setCell ⟨S, 1, none⟩ (.int .i64 j)).heap[S]? = _
  rw [heap_setCell_same w S 1 _ 35 _ h]; rfl
theorem Sc.set2 {w : World} {S : Nat} {D : Value} {i : Nat} {b : Bool} (h : Sc w S D i b) (b' : Bool) (n : Nat) : Sc ((w.setCell ⟨S, 2, none⟩ (.bool b')).drewN n) S D i b' := by
  show (w.setCell ⟨S, 2, none⟩ (.bool b')).heap[S]? = _
  rw [heap_setCell_same w S 2 _ 35 _ h]; rfl
/-- The data's row is not the scanner's block. -/
theorem own_step {w w' : World} {b n S i : Nat} {v D : Value} {st : Bool} {xs : List Value} (h : w.ownsRow b 5 1 v n xs) (hS : Sc w S D i st) (hg : w.grownBy w' (some S)) : w'.ownsRow b 5 1 v n xs := by
  refine h.kept hg ?_
  rcases h.2 with ⟨rfl, _⟩ | ⟨g, c, cur, rfl, _, hb, _⟩
  · left; rfl
  · right
    simp only [Value.ownBlock, ne_eq, Option.some.injEq]
    intro hgg; subst hgg
    unfold Sc at hS
    rw [hb] at hS
    simp at hS

/-- Byte i is there and is b. -/
def hit (z : List Int) (i : Nat) (b : Int) : Prop := i < z.length ∧ z.getD i 0 = b

set_option linter.unusedVariables false
def offOf (w : World) (S : Nat) : Nat := match w.cell? ⟨S, 1, none⟩ with | some v => (intOf v).toNat | none => 0
theorem Sc.off {w : World} {S : Nat} {D : Value} {i : Nat} {b : Bool} (h : Sc w S D i b) : offOf w S = i := by unfold offOf; rw [h.c1]; simp [intOf]
section
variable (S n c i b0 : Nat) (a : Option Addr) (st : Bool) (z : List Int) (w : World)
attribute [local go_sem] drewN_setCell

set_option maxHeartbeats 400000 in
theorem next_yes (b : Int) (hS : Sc w S (.slice a n c) i st) (hD : w.ownsRow b0 5 1 (.slice a n c) n (u8s z)) (hn : n ≤ 1048576) (h : hit z i b) :
    Calls Try.prog 17 #[.pointer (some ⟨S, 0, none⟩), .int .u8 b] w fun e w' => e = .returned (.bool true) ∧ Sc w' S (.slice a n c) (i + 1) st ∧ w.grownBy w' (some S) := by
  have hl : z.length = n := by simpa [u8s] using hD.1
  obtain ⟨h1, rfl⟩ := h
  rw [hl] at h1
  obtain ⟨g, rfl, hc⟩ := own_at hD h1
  have hc' := hc _ (u8s_at z i (by omega))
  have c0 := hS.c0
  have c1 := hS.c1
  have fz := hS.fz 1
  have hset := hS.set1 (i + 1)
  clear hc hD
  generalize z.getD i 0 = x at *
  go_enter Try.func17, Try.ntmps17
  go_wp2
  go_quiet (fail)
  go_wp2
  go_ret
  exact ⟨rfl, hset _, grown_set _ _ _ _ _⟩
set_option maxHeartbeats 400000 in
theorem next_end (b : Int) (hS : Sc w S (.slice a n c) i st) (hn : n ≤ 1048576) (hi : i ≤ n) (h : ¬ i < n) :
    Calls Try.prog 17 #[.pointer (some ⟨S, 0, none⟩), .int .u8 b] w fun e w' => e = .returned (.bool false) ∧ Sc w' S (.slice a n c) i st ∧ w.grownBy w' (some S) := by
  have c0 := hS.c0
  have c1 := hS.c1
  have hd : decide ((i : Int) < (n : Int)) = false := by rw [decide_eq_false_iff_not]; omega
  have hd' : decide (i < n) = false := by rw [decide_eq_false_iff_not]; omega
  go_enter Try.func17, Try.ntmps17
  go_wp2
  go_quiet (fail)
  go_wp2
  go_ret
  exact ⟨rfl, hS, grown_drew _ _ _⟩
set_option maxHeartbeats 400000 in
theorem next_other (b : Int) (hS : Sc w S (.slice a n c) i st) (hD : w.ownsRow b0 5 1 (.slice a n c) n (u8s z)) (hn : n ≤ 1048576) (h1 : i < n) (h : ¬ z.getD i 0 = b) :
    Calls Try.prog 17 #[.pointer (some ⟨S, 0, none⟩), .int .u8 b] w fun e w' => e = .returned (.bool false) ∧ Sc w' S (.slice a n c) i st ∧ w.grownBy w' (some S) := by
  have hl : z.length = n := by simpa [u8s] using hD.1
  obtain ⟨g, rfl, hc⟩ := own_at hD h1
  have hc' := hc _ (u8s_at z i (by omega))
  have c0 := hS.c0
  have c1 := hS.c1
  have hb : (z.getD i 0 == b) = false := beq_eq_false_iff_ne.2 h
  clear hc hD h
  generalize z.getD i 0 = x at *
  go_enter Try.func17, Try.ntmps17
  go_wp2
  go_quiet (fail)
  go_wp2
  go_ret
  exact ⟨rfl, hS, grown_drew _ _ _⟩
theorem next_no (b : Int) (hS : Sc w S (.slice a n c) i st) (hD : w.ownsRow b0 5 1 (.slice a n c) n (u8s z)) (hn : n ≤ 1048576) (hi : i ≤ n) (h : ¬ hit z i b) :
    Calls Try.prog 17 #[.pointer (some ⟨S, 0, none⟩), .int .u8 b] w fun e w' => e = .returned (.bool false) ∧ Sc w' S (.slice a n c) i st ∧ w.grownBy w' (some S) := by
  have hl : z.length = n := by simpa [u8s] using hD.1
  by_cases h1 : i < n
  · exact next_other S n c i b0 a st z w b hS hD hn h1 (fun e => h ⟨by omega, e⟩)
  · exact next_end S n c i a st w b hS hn hi h1
/-- next(b), whatever lies there. -/
theorem next_any (b : Int) (hS : Sc w S (.slice a n c) i st) (hD : w.ownsRow b0 5 1 (.slice a n c) n (u8s z)) (hn : n ≤ 1048576) (hi : i ≤ n) :
    Calls Try.prog 17 #[.pointer (some ⟨S, 0, none⟩), .int .u8 b] w fun e w' => ∃ (r : Bool) (j : Nat), e = .returned (.bool r) ∧ ((r = true ∧ hit z i b ∧ j = i + 1) ∨ (r = false ∧ ¬ hit z i b ∧ j = i)) ∧ j ≤ n ∧ Sc w' S (.slice a n c) j st ∧ w'.ownsRow b0 5 1 (.slice a n c) n (u8s z) ∧ w.grownBy w' (some S) := by
  have hl : z.length = n := by simpa [u8s] using hD.1
  by_cases h : hit z i b
  · refine (next_yes S n c i b0 a st z w b hS hD hn h).mono ?_
    rintro e w' ⟨rfl, h1, h2⟩
    exact ⟨true, i + 1, rfl, .inl ⟨rfl, h, rfl⟩, by have := h.1; omega, h1, own_step hD hS h2, h2⟩
  · refine (next_no S n c i b0 a st z w b hS hD hn hi h).mono ?_
    rintro e w' ⟨rfl, h1, h2⟩
    exact ⟨false, i, rfl, .inr ⟨rfl, h, rfl⟩, hi, h1, own_step hD hS h2, h2⟩
set_option maxHeartbeats 400000 in
theorem stop_any (hS : Sc w S (.slice a n c) i st) (hD : w.ownsRow b0 5 1 (.slice a n c) n (u8s z)) :
    Calls Try.prog 15 #[.pointer (some ⟨S, 0, none⟩)] w fun e w' => e = .returned (.tuple #[]) ∧ Sc w' S (.slice a n c) n true ∧ w'.ownsRow b0 5 1 (.slice a n c) n (u8s z) ∧ w.grownBy w' (some S) := by
  have c0 := hS.c0
  have c1 := hS.c1
  have c2 := hS.c2
  have f1 := hS.fz 1
  have f2 := hS.fz 2
  have hset := (hS.set2 true 0).set1 n 0
  have hgr := grown_trans (grown_set w S 2 0 (.bool true)) (grown_set ((w.setCell ⟨S, 2, none⟩ (.bool true)).drewN 0) S 1 0 (.int .i64 n))
  go_enter Try.func15, Try.ntmps15
  go_wp2
  go_end0
  exact ⟨rfl, hset, own_step hD hS hgr, hgr⟩
def dg (x : Int) : Prop := 48 ≤ x ∧ x ≤ 57
/-- k: where the run of digits that begins at i ends. -/
def IsEnd (z : List Int) (i k : Nat) : Prop := i ≤ k ∧ k ≤ z.length ∧ (∀ j, i ≤ j → j < k → dg (z.getD j 0)) ∧ (k < z.length → ¬ dg (z.getD k 0))
set_option maxHeartbeats 1000000 in
theorem digits_any (hS : Sc w S (.slice a n c) i st) (hD : w.ownsRow b0 5 1 (.slice a n c) n (u8s z)) (hn : n ≤ 1048576) (hi : i ≤ n) :
    Calls Try.prog 18 #[.pointer (some ⟨S, 0, none⟩)] w fun e w' => ∃ k, IsEnd z i k ∧ e = .returned (.bool (decide (i < k))) ∧ Sc w' S (.slice a n c) k st ∧ w'.ownsRow b0 5 1 (.slice a n c) n (u8s z) ∧ w.grownBy w' (some S) := by
  have hl : z.length = n := by simpa [u8s] using hD.1
  have c1 := hS.c1
  go_enter Try.func18, Try.ntmps18
  go_wp2_with fail
  go_loopw [] (fun wr => ∃ k : Nat, i ≤ k ∧ k ≤ n ∧ (∀ j, i ≤ j → j < k → dg (z.getD j 0)) ∧ Sc wr S (.slice a n c) k st ∧ w.grownBy wr (some S)) (fun wr => n - offOf wr S)
  case atStart => exact ⟨i, Nat.le_refl _, hi, fun j h1 h2 => absurd h1 (by omega), hS, ⟨rfl, rfl, rfl, Nat.le_refl _, fun _ _ _ => rfl⟩⟩
  case round =>
    obtain ⟨k, hik, hkn, hdg, hSr, hgr⟩ := hrel
    have hDr := own_step hD hS hgr
    have c0 := hSr.c0
    clear c1
    have c1 := hSr.c1
    have fz := hSr.fz 1
    have hoff := hSr.off
    have HO : Hid (offOf wr S = k) := hoff
    clear hoff
    have hend : ¬ (k < n ∧ dg (z.getD k 0)) → IsEnd z i k := fun h => ⟨hik, by omega, hdg, fun h1 h2 => h ⟨by omega, h2⟩⟩
    by_cases hlt : k < n
    · obtain ⟨g, rfl, hc⟩ := own_at hDr hlt
      have hc' := hc _ (u8s_at z k (by omega))
      clear hc
      by_cases h1 : 48 ≤ z.getD k 0
      · by_cases h2 : z.getD k 0 ≤ 57
        · have hset := hSr.set1 (k + 1)
          have hdg' : ∀ j, i ≤ j → j < k + 1 → dg (z.getD j 0) := fun j hj1 hj2 => by
            by_cases hjk : j = k
            · subst hjk; exact ⟨h1, h2⟩
            · exact hdg j hj1 (by omega)
          clear hdg hend
          generalize z.getD k 0 = x at *
          go_wp2_with fail
          go_quiet (fail)
          go_wp2_with fail
          go_roundw
          case rel => exact ⟨k + 1, by omega, by omega, hdg', hset _, grown_trans hgr (grown_set _ _ _ _ _)⟩
          case measure =>
            have e := (hset nq).off
            rw [show ((k + 1 : Nat) : Int) = (k : Int) + 1 by omega] at e
            rw [e, HO.out]; omega
        · have hd : decide (z.getD k 0 ≤ 57) = false := by rw [decide_eq_false_iff_not]; exact h2
          have hE := hend (fun h => h2 h.2.2)
          have HE : Hid (IsEnd z i k) := hE
          clear hend hE hdg h2
          generalize z.getD k 0 = x at *
          go_wp2_with fail
          go_quiet (fail)
          go_wp2_with fail
          go_ret
          exact ⟨k, HE, by simp, hSr, hDr, grown_trans hgr (grown_drew _ _ _)⟩
      · have hd : decide (48 ≤ z.getD k 0) = false := by rw [decide_eq_false_iff_not]; exact h1
        have hE := hend (fun h => h1 h.2.1)
        have HE : Hid (IsEnd z i k) := hE
        clear hend hE hdg h1
        generalize z.getD k 0 = x at *
        go_wp2_with fail
        go_quiet (fail)
        go_wp2_with fail
        go_ret
        exact ⟨k, HE, by simp, hSr, hDr, grown_trans hgr (grown_drew _ _ _)⟩
    · have hd : decide ((k : Int) < (n : Int)) = false := by rw [decide_eq_false_iff_not]; omega
      have hd' : decide (k < n) = false := by rw [decide_eq_false_iff_not]; omega
      have hE := hend (fun h => hlt h.1)
      have HE : Hid (IsEnd z i k) := hE
      clear hend hE hdg
      go_wp2_with fail
      go_quiet (fail)
      go_wp2_with fail
      go_ret
      exact ⟨k, HE, by simp, hSr, hDr, grown_trans hgr (grown_drew _ _ _)⟩
end
end Go.Proofs.Qxb6628994a
