import Derived.Test.Qxb6629026aApp
namespace Go.Proofs.Qxb6629026a
open Go.RowKit
set_option linter.unusedVariables false
theorem own_cell {w : World} {b e n : Nat} {g c : Nat} {xs : List Value} (h : w.ownsRow b e 1 (.slice (some ⟨g, 0, none⟩) n c) n xs) (k : Nat) (v : Value) (hk : xs[k]? = some v) : w.cell? ⟨g, k, none⟩ = some v := by
  have hl : xs.length = n := by simpa using h.1
  rw [h.cellAt k (by have := (List.getElem?_eq_some_iff.1 hk).1; omega), hk]
theorem own_below {w w' : World} {b e n : Nat} {v : Value} {xs : List Value} (h : w.ownsRow b e 1 v n xs) (hb : Below w.heap.size w w') : w'.ownsRow b e 1 v n xs :=
  h.kept (row := none) ⟨hb.os, hb.tape, hb.output, hb.size, fun k hk _ => hb.block k hk⟩ (by cases hv : v.ownBlock <;> simp)
theorem own_base {w : World} {b b' e n : Nat} {v : Value} {xs : List Value} (h : w.ownsRow b e 1 v n xs) (hb : b' ≤ b) : w.ownsRow b' e 1 v n xs := by
  refine ⟨h.1, ?_⟩
  rcases h.2 with h' | ⟨g, c, cur, h1, h2, h3⟩
  · exact .inl h'
  · exact .inr ⟨g, c, cur, h1, by omega, h3⟩
theorem own_at {w : World} {b e n c k : Nat} {a : Option Addr} {xs : List Value} (h : w.ownsRow b e 1 (.slice a n c) n xs) (hk : k < n) : ∃ g, a = some ⟨g, 0, none⟩ ∧ ∀ j v, xs[j]? = some v → w.cell? ⟨g, j, none⟩ = some v := by
  rcases h.2 with ⟨_, h0⟩ | ⟨g, cap', cur, h', _⟩
  · omega
  · simp only [Value.slice.injEq] at h'
    obtain ⟨rfl, _, rfl⟩ := h'
    exact ⟨g, rfl, fun j v hv => own_cell h j v hv⟩
theorem balloc {w0 w : World} (h : Below w0.heap.size w0 w) (o : Obj) : Below w0.heap.size w0 (w.alloc o) := h.alloc h.size o
theorem wp_world {P : Program} {c : Code} {Q : Exit → Act → World → Prop} {a : Act} {w : World} (R : World → Prop) (h0 : R w) (h : ∀ w', R w' → Code.wp P c Q a w') : Code.wp P c Q a w := h w h0
/-- A []byte that came in. -/
structure Rd (w : World) (a : Option Addr) (len : Nat) (z : List Int) : Prop where
  hlen : z.length = len
  hbyte : ∀ x ∈ z, 0 ≤ x ∧ x ≤ 255
  hcell : len = 0 ∨ ∃ b off, a = some ⟨b, off, none⟩ ∧ b < w.heap.size ∧ ∀ j, j < len → w.cell? ⟨b, off + j, none⟩ = some (.int .u8 (z.getD j 0))
  hnil : a = none → len = 0
theorem Rd.below {w w' : World} {a : Option Addr} {len : Nat} {z : List Int} (h : Rd w a len z) (hb : Below w.heap.size w w') : Rd w' a len z := by
  refine ⟨h.hlen, h.hbyte, ?_, h.hnil⟩
  rcases h.hcell with h0 | ⟨b, off, rfl, h1, h2⟩
  · exact .inl h0
  · exact .inr ⟨b, off, rfl, Nat.lt_of_lt_of_le h1 hb.size, fun j hj => by rw [hb.cell (p := ⟨b, off + j, none⟩) h1]; exact h2 j hj⟩
theorem Rd.at {w : World} {a : Option Addr} {len : Nat} {z : List Int} (h : Rd w a len z) {j : Nat} (hj : j < len) : ∃ b off, a = some ⟨b, off, none⟩ ∧ b < w.heap.size ∧ ∀ j, j < len → w.cell? ⟨b, off + j, none⟩ = some (.int .u8 (z.getD j 0)) := by
  rcases h.hcell with h0 | h'
  · omega
  · exact h'
def part (z : List Int) (k : Nat) : List Value := u8s (z.take k) ++ List.replicate (z.length - k) (.int .u8 0)
theorem part_zero (z : List Int) : part z 0 = List.replicate z.length (.int .u8 0) := by simp [part, u8s]
theorem part_all (z : List Int) : part z z.length = u8s z := by simp [part]
theorem part_set (z : List Int) (k : Nat) (hk : k < z.length) : (part z k).set k (.int .u8 (z.getD k 0)) = part z (k + 1) := by
  unfold part u8s
  have e : z.length - k = (z.length - (k + 1)) + 1 := by omega
  rw [e, List.replicate_succ, List.set_append_right _ _ (by simp; omega), List.take_succ_eq_append_getElem hk, List.map_append, List.append_assoc]
  simp [hk, Nat.min_eq_left (Nat.le_of_lt hk)]
theorem part_at (z : List Int) (k : Nat) (hk : k < z.length) : (part z k)[k]? = some (.int .u8 0) := by
  unfold part u8s
  have e : z.length - k = (z.length - (k + 1)) + 1 := by omega
  rw [e, List.replicate_succ, List.getElem?_append_right (by simp; omega)]
  simp [Nat.min_eq_left (Nat.le_of_lt hk)]
theorem wpList_make_lc {P : Program} (w : World) {ops : Array Oper} {rest : List Oper} {o : Oper} {a : Act} {Q : Exit → Act → World → Prop}
    (hg : o.guard = none) (l c : Operand) (t : TypeId) (hop : o.op = Op.makeSlice t l c) (base : Nat) (e : TypeId) (i : TypeInfo) (z : Value) (h1 : P.underlying t = some (.slice e)) (h2 : P.info? e = some i) (h3 : i.zero = some z) (h4 : i.size = 1) (hz : z.cells = #[z])
    (kl kc : IntKind) (L C : Int) (n m : Nat) (hl : a.eval l = .int kl L) (hc : a.eval c = .int kc C) (hL : L = (n : Int)) (hC : C = (m : Int)) (hnm : n ≤ m) (b2 : (i.bytes : Int) * m ≤ 281474976710656) (b3 : m ≤ maxLen) (b4 : base ≤ w.heap.size)
    (hK : ∀ w', w'.ownsRow base e 1 (.slice (some ⟨w.heap.size, 0, none⟩) n m) n (List.replicate n z) → w.grownBy w' none → wpList P ops Q rest (a.put o.dst (.slice (some ⟨w.heap.size, 0, none⟩) n m)) w') :
    wpList P ops Q (o :: rest) a w := by
  refine wpList_plain hg fun K hK' => ?_
  have hm : (m : Int) ≤ 9223372036854775807 := by unfold maxLen at b3; omega
  have hrun := run_make (P := P) w t e i z h1 h2 h3 kl kc n m (by omega) (by omega) b2 hm
  simp only [Int.toNat_natCast] at hrun
  subst hL hC
  unfold Oper.wp
  simp [execOp, hop, hl, hc, hrun, Result.andThen]
  refine hK' _ _ (hK _ ⟨by simp, .inr ⟨w.heap.size, m, _, rfl, b4, heap_alloc_new w _, hnm, b3, ?_, ?_⟩⟩ (World.grownBy_alloc w _ none))
  · rw [size_madeCells, h4]
  · rw [h4, hz, Nat.mul_one, Nat.mul_one, toList_madeCells_one]
    simp [Nat.min_eq_left hnm]
theorem copy_nil (len cap : Nat) (w : World) :
    Calls Try.prog 6 #[.slice none len cap, .int .i64 0] w fun e w' => e = .returned (.slice none 0 0) ∧ w' = w := by
  have hq : ∀ w : World, (binOp .eql 22 (.slice none len cap) (.slice none 0 0)).run Try.prog w = .ok (.bool true) w := fun w => Lib.run_eql_slice_nil w 22 5 none len cap 0 0 Try.underlying22
  go_enter Try.func6, Try.ntmps6
  go_wp2
  go_ret
  exact ⟨rfl, rfl⟩
set_option maxHeartbeats 1000000 in
theorem copy_some (a : Option Addr) (len cap x : Nat) (z : List Int) (w : World) (hR : Rd w a len z) (hn : len ≤ 1048576) (hx : x ≤ 9) (ha : (a.isNone && ((x : Int) == 0)) = false) :
    Calls Try.prog 6 #[.slice a len cap, .int .i64 x] w fun e w' => e = .returned (.slice (some ⟨w.heap.size, 0, none⟩) len (len + x)) ∧ w'.ownsRow w.heap.size 5 1 (.slice (some ⟨w.heap.size, 0, none⟩) len (len + x)) len (u8s z) ∧ Below w.heap.size w w' := by
  obtain ⟨i5, ji, jz0, jz1, jz2⟩ := info_parts Try.info5
  have hl := hR.hlen
  have hq : ∀ w : World, (binOp .eql 22 (.slice a len cap) (.slice none 0 0)).run Try.prog w = .ok (.bool a.isNone) w := fun w => Lib.run_eql_slice_nil w 22 5 a len cap 0 0 Try.underlying22
  go_enter Try.func6, Try.ntmps6
  go_upto_region 1 with fail
  go_cut [12] from 7 to 12 (fun v wx => v = .bool false ∧ wx = w)
  case first =>
    cases hn' : a.isNone with
    | false =>
      go_wp2_with fail
      go_meet
      case rel => exact ⟨rfl, rfl⟩
    | true =>
      rw [hn', Bool.true_and] at ha
      go_wp2_with fail
      go_meet
      case rel => exact ⟨rfl, rfl⟩
  case rest =>
    obtain ⟨rfl, rfl⟩ := hcut
    clear hq ha
    go_wp2_with (at_make; refine wpList_make_lc _ rfl (.tmp 14) (.tmp 18) 22 rfl wc.heap.size 5 i5 (.int .u8 0) Try.underlying22 ji jz0 jz1 rfl .i64 .i64 _ _ len (len + x) rfl rfl rfl (by omega) (by omega) (by rw [jz2]; omega) (by unfold maxLen; omega) (Nat.le_refl _) ?_; intro w1 ho1 hg1)
    have hb1 : Below wc.heap.size wc w1 := Below.grown (Below.refl _ _) hg1 (Nat.le_refl _) (by simp)
    have ho1' : w1.ownsRow wc.heap.size 5 1 (.slice (some ⟨wc.heap.size, 0, none⟩) len (len + x)) len (part z 0) := by
      rw [part_zero, hl]; exact ho1
    clear ho1 hg1
    go_loopw [6] (fun i wr => ∃ k : Nat, k ≤ len ∧ i = .int .i64 k ∧ wr.ownsRow wc.heap.size 5 1 (.slice (some ⟨wc.heap.size, 0, none⟩) len (len + x)) len (part z k) ∧ Below wc.heap.size wc wr) (fun i _ => len - (intOf i).toNat)
    case atStart => exact ⟨0, Nat.zero_le _, rfl, ho1', hb1⟩
    case round =>
      obtain ⟨k, hk, rfl, ho, hb⟩ := hrel
      clear ho1' hb1
      by_cases hlt : k < len
      · obtain ⟨b, off, rfl, hbl, hcell⟩ := hR.at hlt
        have hc : wr.cell? ⟨b, off + k, none⟩ = some (.int .u8 (z.getD k 0)) := by
          rw [hb.cell (p := ⟨b, off + k, none⟩) hbl]; exact hcell k hlt
        have hc2 : wr.cell? ⟨wc.heap.size, k, none⟩ = some (.int .u8 0) := own_cell ho k _ (part_at _ k (by omega))
        have hfz : wr.frozen? ⟨wc.heap.size, k, none⟩ = false := ho.frozenAt k
        have hst := (ho.stored k (.int .u8 (z.getD k 0))).1
        have hst2 : Hid ((part z k).set k (.int .u8 (z.getD k 0)) = part z (k + 1)) := part_set z k (by omega)
        clear ho hcell
        generalize z.getD k 0 = y at *
        go_wp2_with fail
        go_roundw
        case rel => exact ⟨k + 1, hlt, by go_num, by rw [← hst2.out]; exact hst, hb.setCell (Nat.le_refl _) _⟩
        case measure => simp [intOf]; omega
      · obtain rfl : k = len := by omega
        go_wp2_with fail
        go_ret
        refine ⟨rfl, ?_, hb⟩
        rw [← part_all z, hl]; exact ho
/-- zzCopy. -/
theorem copy_any (a : Option Addr) (len cap x : Nat) (z : List Int) (w : World) (hR : Rd w a len z) (hn : len ≤ 1048576) (hx : x ≤ 9) :
    Calls Try.prog 6 #[.slice a len cap, .int .i64 x] w fun e w' => ∃ a' c', e = .returned (.slice a' len c') ∧ w'.ownsRow w.heap.size 5 1 (.slice a' len c') len (u8s z) ∧ Below w.heap.size w w' := by
  cases hc : (a.isNone && ((x : Int) == 0)) with
  | true =>
    rw [Bool.and_eq_true] at hc
    obtain ⟨h1, h2⟩ := hc
    obtain rfl : a = none := by cases a <;> simp at h1 ⊢
    obtain rfl : x = 0 := by have := beq_iff_eq.1 h2; omega
    have h0 := hR.hnil rfl
    have hz : z = [] := List.eq_nil_of_length_eq_zero (by rw [hR.hlen, h0])
    refine (copy_nil len cap w).mono ?_
    rintro e w' ⟨rfl, rfl⟩
    subst h0 hz
    exact ⟨none, 0, rfl, World.ownsRow_nil _ _ _ _, Below.refl _ _⟩
  | false =>
    refine (copy_some a len cap x z w hR hn hx hc).mono ?_
    rintro e w' ⟨rfl, h1, h2⟩
    exact ⟨_, _, rfl, h1, h2⟩
end Go.Proofs.Qxb6629026a
