import Derived.Test.Qxb6628994aInteger
namespace Go.Proofs.Qxb6628994a
open Go.RowKit Go.IntWalk
set_option linter.unusedVariables false
/-- A []byte that came in. -/
structure Rd (w : World) (a : Option Addr) (len : Nat) (z : List Int) : Prop where
  hlen : z.length = len
  hbyte : ∀ x ∈ z, 0 ≤ x ∧ x ≤ 255
  hcell : len = 0 ∨ ∃ b off, a = some ⟨b, off, none⟩ ∧ b < w.heap.size ∧ ∀ j, j < len → w.cell? ⟨b, off + j, none⟩ = some (.int .u8 (z.getD j 0))
  hnil : a = none → len = 0
theorem Rd.below {w w' : World} {a : Option Addr} {len : Nat} {z : List Int} (h : Rd w a len z) (hb : Below w.heap.size w w') : Rd w' a len z := by
  refine ⟨h.hlen, h.hbyte, ?_, h.hnil⟩
  rcases h.hcell with h0 | ⟨b, off, rfl, h1, h2⟩
  · exact .inl h0
  · exact .inr ⟨b, off, rfl, Nat.lt_of_lt_of_le h1 hb.size, fun j hj => by rw [hb.cell (p := ⟨b, off + j, none⟩) h1]; exact h2 j hj⟩
theorem Rd.at {w : World} {a : Option Addr} {len : Nat} {z : List Int} (h : Rd w a len z) {j : Nat} (hj : j < len) : ∃ b off, a = some ⟨b, off, none⟩ ∧ b < w.heap.size ∧ ∀ j, j < len → w.cell? ⟨b, off + j, none⟩ = some (.int .u8 (z.getD j 0)) := by
  rcases h.hcell with h0 | h'
  · omega
  · exact h'
theorem Rd.range {w : World} {a : Option Addr} {len : Nat} {z : List Int} (h : Rd w a len z) (j : Nat) : 0 ≤ z.getD j 0 ∧ z.getD j 0 ≤ 255 := by
  by_cases hj : j < z.length
  · rw [show z.getD j 0 = z[j] by simp [hj]]; exact h.hbyte _ (List.getElem_mem hj)
  · rw [show z.getD j 0 = 0 by simp [List.getElem?_eq_none (Nat.le_of_not_lt hj)]]; omega
def part (z : List Int) (k : Nat) : List Value := u8s (z.take k) ++ List.replicate (z.length - k) (.int .u8 0)
theorem part_zero (z : List Int) : part z 0 = List.replicate z.length (.int .u8 0) := by simp [part, u8s]
theorem part_all (z : List Int) : part z z.length = u8s z := by simp [part]
theorem part_set (z : List Int) (k : Nat) (hk : k < z.length) : (part z k).set k (.int .u8 (z.getD k 0)) = part z (k + 1) := by
  unfold part u8s
  have e : z.length - k = (z.length - (k + 1)) + 1 := by omega
  rw [e, List.replicate_succ, List.set_append_right _ _ (by simp; omega), List.take_succ_eq_append_getElem hk, List.map_append, List.append_assoc]
  simp [hk, Nat.min_eq_left (Nat.le_of_lt hk)]
theorem part_at (z : List Int) (k : Nat) (hk : k < z.length) : (part z k)[k]? = some (.int .u8 0) := by
  unfold part u8s
  have e : z.length - k = (z.length - (k + 1)) + 1 := by omega
  rw [e, List.replicate_succ, List.getElem?_append_right (by simp; omega)]
  simp [Nat.min_eq_left (Nat.le_of_lt hk)]
theorem clone_nil (len cap : Nat) (w : World) :
    Calls Try.prog 6 #[.slice none len cap] w fun e w' => e = .returned (.slice none 0 0) ∧ w' = w := by
  have hq : ∀ w : World, (binOp .eql 22 (.slice none len cap) (.slice none 0 0)).run Try.prog w = .ok (.bool true) w := fun w => Lib.run_eql_slice_nil w 22 5 none len cap 0 0 Try.underlying22
  go_enter Try.func6, Try.ntmps6
  go_wp2
  go_ret
  exact ⟨rfl, rfl⟩
set_option maxHeartbeats 1000000 in
theorem clone_some (x : Addr) (len cap : Nat) (z : List Int) (w : World) (hR : Rd w (some x) len z) (hn : len ≤ 1048576) :
    Calls Try.prog 6 #[.slice (some x) len cap] w fun e w' => e = .returned (.slice (some ⟨w.heap.size, 0, none⟩) len len) ∧ w'.ownsRow w.heap.size 5 1 (.slice (some ⟨w.heap.size, 0, none⟩) len len) len (u8s z) ∧ Below w.heap.size w w' := by
  obtain ⟨i5, ji, jz0, jz1, jz2⟩ := info_parts Try.info5
  have hl := hR.hlen
  have hq : ∀ w : World, (binOp .eql 22 (.slice (some x) len cap) (.slice none 0 0)).run Try.prog w = .ok (.bool false) w := fun w => Lib.run_eql_slice_nil w 22 5 (some x) len cap 0 0 Try.underlying22
  go_enter Try.func6, Try.ntmps6
  go_wp2_with (at_make; refine wpList_make_full _ rfl (.tmp 8) (.tmp 8) 22 rfl w.heap.size 5 i5 (.int .u8 0) 1 Try.underlying22 ji jz0 jz1 .i64 .i64 _ _ len rfl rfl rfl rfl (by rw [jz2]; omega) (by unfold maxLen; omega) (Nat.le_refl _) ?_; intro w1 ho1 hg1)
  have hb1 : Below w.heap.size w w1 := Below.grown (Below.refl _ _) hg1 (Nat.le_refl _) (by simp)
  have ho1' : w1.ownsRow w.heap.size 5 1 (.slice (some ⟨w.heap.size, 0, none⟩) len len) len (part z 0) := by
    rw [part_zero, hl]
    simpa [Value.cells, toList_madeCells_one] using ho1
  clear ho1 hg1
  go_loopw [4] (fun i wr => ∃ k : Nat, k ≤ len ∧ i = .int .i64 k ∧ wr.ownsRow w.heap.size 5 1 (.slice (some ⟨w.heap.size, 0, none⟩) len len) len (part z k) ∧ Below w.heap.size w wr) (fun i _ => len - (intOf i).toNat)
  case atStart => exact ⟨0, Nat.zero_le _, rfl, ho1', hb1⟩
  case round =>
    obtain ⟨k, hk, rfl, ho, hb⟩ := hrel
    clear ho1' hb1
    by_cases hlt : k < len
    · obtain ⟨b, off, hx, hbl, hcell⟩ := hR.at hlt
      simp only [Option.some.injEq] at hx
      subst hx
      have hc : wr.cell? ⟨b, off + k, none⟩ = some (.int .u8 (z.getD k 0)) := by
        rw [hb.cell (p := ⟨b, off + k, none⟩) hbl]; exact hcell k hlt
      have hc2 : wr.cell? ⟨w.heap.size, k, none⟩ = some (.int .u8 0) := own_cell ho k _ (part_at _ k (by omega))
      have hfz : wr.frozen? ⟨w.heap.size, k, none⟩ = false := ho.frozenAt k
      have hst := (ho.stored k (.int .u8 (z.getD k 0))).1
      have hst2 : Hid ((part z k).set k (.int .u8 (z.getD k 0)) = part z (k + 1)) := part_set z k (by omega)
      clear ho hcell
      generalize z.getD k 0 = y at *
      go_wp2_with fail
      go_roundw
      case rel => exact ⟨k + 1, hlt, by go_num, by rw [← hst2.out]; exact hst, hb.setCell (Nat.le_refl _) _⟩
      case measure => simp [intOf]; omega
    · obtain rfl : k = len := by omega
      go_wp2_with fail
      go_ret
      refine ⟨rfl, ?_, hb⟩
      rw [← part_all z, hl]; exact ho
/-- nsClone. -/
theorem clone_any (a : Option Addr) (len cap : Nat) (z : List Int) (w : World) (hR : Rd w a len z) (hn : len ≤ 1048576) :
    Calls Try.prog 6 #[.slice a len cap] w fun e w' => ∃ a' c', e = .returned (.slice a' len c') ∧ w'.ownsRow w.heap.size 5 1 (.slice a' len c') len (u8s z) ∧ Below w.heap.size w w' := by
  cases a with
  | none =>
    have h0 := hR.hnil rfl
    have hz : z = [] := List.eq_nil_of_length_eq_zero (by rw [hR.hlen, h0])
    refine (clone_nil len cap w).mono ?_
    rintro e w' ⟨rfl, rfl⟩
    subst h0 hz
    exact ⟨none, 0, rfl, World.ownsRow_nil _ _ _ _, Below.refl _ _⟩
  | some x =>
    refine (clone_some x len cap z w hR hn).mono ?_
    rintro e w' ⟨rfl, h1, h2⟩
    exact ⟨_, _, rfl, h1, h2⟩
/-- ZZnewScanner. -/
theorem newSc (a : Option Addr) (n c : Nat) (i : Nat) (w : World) :
    Calls Try.prog 7 #[.slice a n c, .int .i64 i] w fun e w' => e = .returned (.pointer (some ⟨w.heap.size, 0, none⟩)) ∧ Sc w' w.heap.size (.slice a n c) i false ∧ Below w.heap.size w w' := by
  go_enter Try.func7, Try.ntmps7
  go_wp2
  go_ret
  exact ⟨rfl, heap_alloc_new w _, balloc (Below.refl _ _) _⟩
theorem zzOff (S i : Nat) (D : Value) (st : Bool) (w : World) (hS : Sc w S D i st) :
    Calls Try.prog 10 #[.pointer (some ⟨S, 0, none⟩)] w fun e w' => e = .returned (.int .i64 i) ∧ w' = w := by
  have c1 := hS.c1
  go_enter Try.func10, Try.ntmps10
  go_wp2
  go_ret
  exact ⟨rfl, rfl⟩
theorem zzStop (S i : Nat) (D : Value) (st : Bool) (w : World) (hS : Sc w S D i st) :
    Calls Try.prog 11 #[.pointer (some ⟨S, 0, none⟩)] w fun e w' => e = .returned (.bool st) ∧ w' = w := by
  have c2 := hS.c2
  go_enter Try.func11, Try.ntmps11
  go_wp2
  go_ret
  exact ⟨rfl, rfl⟩
def dgB (x : Int) : Bool := decide (48 ≤ x) && decide (x ≤ 57)
theorem isDig (x : Int) (w : World) :
    Calls Try.prog 13 #[.int .u8 x] w fun e w' => e = .returned (.bool (dgB x)) ∧ w' = w := by
  unfold dgB
  by_cases h1 : 48 ≤ x
  · by_cases h2 : x ≤ 57
    all_goals
      go_enter Try.func13, Try.ntmps13
      go_wp2
      go_ret
      exact ⟨by simp [h1, h2], rfl⟩
  · go_enter Try.func13, Try.ntmps13
    go_wp2
    go_ret
    exact ⟨by simp; omega, rfl⟩
end Go.Proofs.Qxb6628994a
