import Derived.Test.Qxb6629026aPut
import Derived.Maps.AppendAt
namespace Go.Proofs.Qxb6629026a
open Go.RowKit
set_option linter.unusedVariables false
theorem Try.info5 : (Try.prog.info? 5).map (fun i => (i.zero, i.size, i.bytes)) = some (some (.int .u8 0), 1, 1) := by kernel_rfl
def u8s (z : List Int) : List Value := z.map (Value.int .u8)
theorem u8s_at (z : List Int) (k : Nat) (h : k < z.length) : (u8s z)[k]? = some (.int .u8 (z.getD k 0)) := by simp [u8s, h]
theorem u8s_one (z : List Int) : ∀ v ∈ u8s z, v.oneCell' = true := by
  intro v hv; simp [u8s] at hv; obtain ⟨b, _, rfl⟩ := hv; rfl
theorem u8s_app (x y : List Int) : u8s (x ++ y) = u8s x ++ u8s y := by simp [u8s]
theorem put_take {cur cur' : Array Value} {n : Nat} {E : List Int} {X : List Value} (h : Put cur cur' n E) (hX : cur.toList.take n = X) (hl : X.length = n) (hs : n + E.length ≤ cur.size) : cur'.toList.take (n + E.length) = X ++ u8s E := by
  apply List.ext_getElem?
  intro j
  rw [List.getElem?_take, Array.getElem?_toList, h.2 j]
  by_cases h1 : j < n
  · rw [if_pos (by omega), if_neg (by omega), List.getElem?_append_left (by omega), ← hX, List.getElem?_take, if_pos h1, Array.getElem?_toList]
  · by_cases h2 : j < n + E.length
    · rw [if_pos h2, if_pos ⟨by omega, h2⟩, List.getElem?_append_right (by omega), hl, u8s_at E (j - n) (by omega)]
    · rw [if_neg h2, List.getElem?_append_right (by omega), hl]
      symm
      apply List.getElem?_eq_none
      simp [u8s]; omega
set_option maxHeartbeats 1000000 in
set_option maxRecDepth 100000 in
theorem room_any (g n c : Nat) (cur : Array Value) (v : Int) (E : List Int) (w : World) (hE : IsEnc v E) (hg : w.heap[g]? = some (.cells cur 5 (0, 0))) (hsz : n + 9 ≤ cur.size) (hc : n + 9 ≤ c) (hn : n ≤ 2000000) :
    Calls Try.prog 13 #[.slice (some ⟨g, 0, none⟩) n c, .int .i64 v] w fun r w' => r = .returned (.slice (some ⟨g, 0, none⟩) (n + E.length) c) ∧ ∃ cur', w'.heap[g]? = some (.cells cur' 5 (0, 0)) ∧ Put cur cur' n E ∧ w.grownBy w' (some g) := by
  have hEl := hE.len
  have Hg := show Hid _ from hg
  clear hg
  go_enter Try.func13, Try.ntmps13
  go_wp2_with fail
  refine (put_any g n _ _ cur 5 v E _ hE Hg.out hsz (by omega)).mono ?_
  rintro r w1 ⟨rfl, cur', h1, h2, h3⟩
  have H1 := show Hid _ from h1
  clear h1 Hg
  go_wp2_with fail
  go_ret
  exact ⟨rfl, cur', H1, h2, h3⟩
set_option maxHeartbeats 1000000 in
set_option maxRecDepth 100000 in
theorem app_room (b0 : Nat) (a : Option Addr) (n c : Nat) (xs : List Int) (v : Int) (E : List Int) (w : World) (hE : IsEnc v E) (hown : w.ownsRow b0 5 1 (.slice a n c) n (u8s xs)) (hn : n ≤ 2000000) (hc : n + 9 ≤ c) :
    Calls Try.prog 7 #[.slice a n c, .int .i64 v] w fun r w' => ∃ a' c', r = .returned (.slice a' (n + E.length) c') ∧ w'.ownsRow b0 5 1 (.slice a' (n + E.length) c') (n + E.length) (u8s (xs ++ E)) ∧ w.grownBy w' (Value.slice a n c).ownBlock ∧ ∀ k, (Value.slice a' (n + E.length) c').ownBlock = some k → (Value.slice a n c).ownBlock = some k ∨ w.heap.size ≤ k := by
  have hEl := hE.len
  have hxl : (u8s xs).length = n := by simpa using hown.1
  rcases hown.2 with ⟨h1, h2⟩ | ⟨g, cap, cur, h1, hb, hg, hnc, hcm, hcs, htake⟩
  · simp only [Value.slice.injEq] at h1; omega
  simp only [Value.slice.injEq] at h1
  obtain ⟨rfl, _, rfl⟩ := h1
  rw [Nat.mul_one] at hcs htake
  have Hg := show Hid _ from hg
  clear hg hown
  have hcc : c ≤ 9223372036854775807 := hcm
  go_enter Try.func7, Try.ntmps7
  go_wp2_with fail
  refine (room_any g n c cur v E _ hE Hg.out (by omega) hc hn).mono ?_
  rintro r w1 ⟨rfl, cur', h1, h2, h3⟩
  have H1 := show Hid _ from h1
  clear h1 Hg
  go_wp2_with fail
  go_ret
  refine ⟨_, _, rfl, ⟨?_, .inr ⟨g, c, cur', rfl, hb, H1, by omega, hcm, by rw [h2.1, hcs, Nat.mul_one], ?_⟩⟩, h3, fun k hk => .inl hk⟩
  · rw [u8s_app, List.length_append, hxl]; simp [u8s]
  · rw [Nat.mul_one, u8s_app]
    exact put_take h2 htake hxl (by omega)
set_option maxHeartbeats 1000000 in
set_option maxRecDepth 100000 in
theorem app_tight (b0 : Nat) (a : Option Addr) (n c : Nat) (xs : List Int) (v : Int) (E : List Int) (w : World) (hE : IsEnc v E) (hown : w.ownsRow b0 5 1 (.slice a n c) n (u8s xs)) (hn : n ≤ 2000000) (hc : c < n + 9) (hb : b0 ≤ w.heap.size) :
    Calls Try.prog 7 #[.slice a n c, .int .i64 v] w fun r w' => ∃ a' c', r = .returned (.slice a' (n + E.length) c') ∧ w'.ownsRow b0 5 1 (.slice a' (n + E.length) c') (n + E.length) (u8s (xs ++ E)) ∧ w.grownBy w' (Value.slice a n c).ownBlock ∧ ∀ k, (Value.slice a' (n + E.length) c').ownBlock = some k → (Value.slice a n c).ownBlock = some k ∨ w.heap.size ≤ k := by
  have hEl := hE.len
  obtain ⟨i5, ji, jz0, jz1, jz2⟩ := info_parts Try.info5
  have hnc : n ≤ c := by
    rcases hown.2 with ⟨h1, h2⟩ | ⟨g, c', cur, h1, _, _, h2, _⟩
    · simp only [Value.slice.injEq] at h1; omega
    · simp only [Value.slice.injEq] at h1; omega
  go_enter Try.func7, Try.ntmps7
  go_wp2_with fail
  refine (put_any w.heap.size 0 9 9 _ 30 v E _ hE (heap_alloc_new w _) (by simp) (by omega)).mono ?_
  rintro r w1 ⟨rfl, cur', h1, h2, h3⟩
  have hown1 : w1.ownsRow b0 5 1 (.slice a n c) n (u8s xs) := by
    refine (hown.alloc _).kept h3 ?_
    cases ho : (Value.slice a n c).ownBlock with
    | none => exact .inl rfl
    | some q => right; have := (hown.lt q ho).2; simp; omega
  have hcells : ∀ j u, (u8s E)[j]? = some u → w1.cell? ((⟨w.heap.size, 0, none⟩ : Addr).add j) = some u := by
    intro j u hj
    have hjl : j < E.length := by have := (List.getElem?_eq_some_iff.1 hj).1; simpa [u8s] using this
    rw [show (⟨w.heap.size, 0, none⟩ : Addr).add j = ⟨w.heap.size, j, none⟩ by unfold Addr.add; split <;> simp_all, cell_of_row w1 w.heap.size j cur' 30 (0, 0) h1, h2.2 j, if_pos (by omega), ← hj, u8s_at E j hjl]
    simp
  have hszz : w.heap.size ≤ w1.heap.size := by have := h3.size; simp at this; omega
  have hsz1 : b0 ≤ w1.heap.size := by have := h3.size; simp at this; omega
  have hchain : ∀ w2, w1.grownBy w2 (Value.slice a n c).ownBlock → w.grownBy w2 (Value.slice a n c).ownBlock := by
    intro w2 h4
    refine ⟨h4.os.trans h3.os, h4.tape.trans h3.tape, h4.output.trans h3.output, ?_, fun k hk hr => ?_⟩
    · have := h3.size; have := h4.size; simp at *; omega
    · rw [h4.block k (by have := h3.size; simp at this; omega) hr, h3.block k (by simp; omega) (by simp; omega)]
      exact Below.heap_alloc _ _ _ hk
  have hsl : ∀ w' : World, (Instr.sliceAt 30 (.pointer (some ⟨w.heap.size, 0, none⟩)) none (some (.int .i64 (E.length : Nat))) none).run Try.prog w' = .ok (.slice (some ⟨w.heap.size, 0, none⟩) E.length 9) w' := by
    intro w'
    have hal : Try.prog.arrayLen 30 = 9 := by kernel_rfl
    have := run_sliceAt_array_h (P := Try.prog) (w := w') (t := 30) (a := ⟨w.heap.size, 0, none⟩) (by kernel_rfl) .i64 (E.length : Nat) (by omega) (by rw [hal]; omega)
    have hel : Try.prog.elem 30 = 5 := by kernel_rfl
    rw [hal, hel] at this
    rw [this]
    simp [sizeOf, typeInfo, ji, jz1, slicedAt, Addr.add, Result.andThen]
  have HCh := show Hid _ from hchain
  have HCe := show Hid _ from hcells
  have hL9 : E.length ≤ 9 := hEl.2
  clear hchain hcells h1 h2 h3 hown hE
  go_wp2_with (at_builtin; (refine wpList_append_own_at _ rfl (.tmp 15) (.tmp 19) 22 rfl b0 5 i5 (.int .u8 0) 1 1 Try.underlying22 ji jz0 jz1 jz2 rfl (by decide) _ _ _ rfl hown1 ⟨w.heap.size, 0, none⟩ E.length 9 (u8s E) rfl (by simp [u8s]) HCe.out (u8s_one E) (by unfold maxLen; omega) (by omega) hsz1 ?_; intro v' w2 ho2 hg2 _ hat))
  obtain ⟨a', c', rfl⟩ : ∃ a' c', v' = .slice a' (n + E.length) c' := by
    rcases ho2.2 with ⟨rfl, h0⟩ | ⟨g, cap, cur, rfl, _⟩
    · omega
    · exact ⟨_, _, rfl⟩
  go_ret
  refine ⟨a', c', rfl, by rw [u8s_app]; exact ho2, HCh.out w2 hg2, fun k hk => ?_⟩
  rcases hat with h' | h'
  · exact .inl (h'.symm.trans hk)
  · right
    have := Option.some.inj (h'.symm.trans hk)
    omega
/-- AppendVLong on a slice of the call's own. -/
theorem app_any (b0 : Nat) (a : Option Addr) (n c : Nat) (xs : List Int) (v : Int) (E : List Int) (w : World) (hE : IsEnc v E) (hown : w.ownsRow b0 5 1 (.slice a n c) n (u8s xs)) (hn : n ≤ 2000000) (hb : b0 ≤ w.heap.size) :
    Calls Try.prog 7 #[.slice a n c, .int .i64 v] w fun r w' => ∃ a' c', r = .returned (.slice a' (n + E.length) c') ∧ w'.ownsRow b0 5 1 (.slice a' (n + E.length) c') (n + E.length) (u8s (xs ++ E)) ∧ w.grownBy w' (Value.slice a n c).ownBlock ∧ ∀ k, (Value.slice a' (n + E.length) c').ownBlock = some k → (Value.slice a n c).ownBlock = some k ∨ w.heap.size ≤ k := by
  by_cases hc : n + 9 ≤ c
  · exact app_room b0 a n c xs v E w hE hown hn hc
  · exact app_tight b0 a n c xs v E w hE hown hn (by omega) hb
end Go.Proofs.Qxb6629026a
