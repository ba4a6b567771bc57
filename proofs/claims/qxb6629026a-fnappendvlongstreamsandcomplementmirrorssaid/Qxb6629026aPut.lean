import Derived.Test.Qxb6629026aMag
namespace Go.Proofs.Qxb6629026a
open Go.RowKit
set_option linter.unusedVariables false
theorem drewN_setCell (w : World) (n : Nat) (a : Addr) (v : Value) : (w.drewN n).setCell a v = (w.setCell a v).drewN n := rfl
theorem grown_set (w : World) (S j : Nat) (v : Value) : w.grownBy (w.setCell ⟨S, j, none⟩ v) (some S) :=
  ⟨rfl, rfl, rfl, by simp, fun k _ hk => heap_setCell_other w ⟨S, j, none⟩ k v (fun e => hk (by simp [e]))⟩
theorem grown_trans {a b c : World} {r : Option Nat} (h : a.grownBy b r) (k : b.grownBy c r) : a.grownBy c r :=
  ⟨k.os.trans h.os, k.tape.trans h.tape, k.output.trans h.output, Nat.le_trans h.size k.size, fun i hi hr => (k.block i (Nat.lt_of_lt_of_le hi h.size) hr).trans (h.block i hi hr)⟩
/-- The block as it is when the bytes above place t, and the first, are laid. -/
def Laid (cur cur' : Array Value) (off : Nat) (v : Int) (k t : Nat) : Prop :=
  cur'.size = cur.size ∧ ∀ j, cur'[j]? = if j = off ∨ (off + t < j ∧ j ≤ off + k) then some (.int .u8 (encAt v k (j - off))) else cur[j]?
theorem Laid.first {cur : Array Value} {off : Nat} {v : Int} {k : Nat} (h : off < cur.size) : Laid cur (cur.setIfInBounds off (.int .u8 (encAt v k 0))) off v k k := by
  refine ⟨by simp, fun j => ?_⟩
  by_cases hj : j = off
  · subst hj
    rw [if_pos (.inl rfl)]
    simp [h]
  · rw [if_neg (by omega), Array.getElem?_setIfInBounds_ne (fun e => hj e.symm)]
theorem Laid.next {cur cur' : Array Value} {off : Nat} {v : Int} {k t : Nat} (h : Laid cur cur' off v k (t + 1)) (ht : t + 1 ≤ k) (hs : off + (t + 1) < cur.size) :
    Laid cur (cur'.setIfInBounds (off + (t + 1)) (.int .u8 (encAt v k (t + 1)))) off v k t := by
  obtain ⟨h1, h2⟩ := h
  refine ⟨by simpa using h1, fun j => ?_⟩
  by_cases hj : j = off + (t + 1)
  · subst hj
    rw [if_pos (.inr ⟨by omega, by omega⟩), show off + (t + 1) - off = t + 1 by omega]
    simp [h1, hs]
  · rw [Array.getElem?_setIfInBounds_ne (fun e => hj e.symm), h2 j]
    by_cases hc : j = off ∨ (off + (t + 1) < j ∧ j ≤ off + k)
    · rw [if_pos hc, if_pos (by omega)]
    · rw [if_neg hc, if_neg (by omega)]
theorem encAt_pos (v : Int) (k t : Nat) : encAt v k (t + 1) = mag v / 256 ^ (k - (t + 1)) % 256 := by unfold encAt; rw [if_neg (by omega)]
theorem shift_next (u : Int) (k t : Nat) (ht : t + 1 ≤ k) : u / 256 ^ (k - (t + 1)) / 256 = u / 256 ^ (k - t) := by
  have hp : (0 : Int) ≤ 256 ^ (k - (t + 1)) := Int.pow_nonneg (by omega)
  rw [Int.ediv_ediv_of_nonneg hp, show k - t = (k - (t + 1)) + 1 by omega, Int.pow_succ]
theorem shift_bound (u : Int) (m : Nat) (h0 : 0 ≤ u) (h1 : u < 9223372036854775808) : 0 ≤ u / 256 ^ m ∧ u / 256 ^ m < 9223372036854775808 := by
  have hp : (0 : Int) < 256 ^ m := Int.pow_pos (by omega)
  refine ⟨Int.ediv_nonneg h0 (by omega), ?_⟩
  have := Int.ediv_le_self (256 ^ m) h0
  omega
set_option maxHeartbeats 1000000 in
set_option maxRecDepth 100000 in
theorem put_long (g off len cap : Nat) (cur : Array Value) (e : TypeId) (v : Int) (k : Nat) (w : World) (hL : Long v k) (hg : w.heap[g]? = some (.cells cur e (0, 0))) (hsz : off + 9 ≤ cur.size) (hc9 : 9 ≤ cap) :
    Calls Try.prog 14 #[.slice (some ⟨g, off, none⟩) len cap, .int .i64 v] w fun r w' => r = .returned (.int .i64 (1 + k)) ∧ ∃ cur', w'.heap[g]? = some (.cells cur' e (0, 0)) ∧ Laid cur cur' off v k 0 ∧ w.grownBy w' (some g) := by
  have hk1 := hL.2.2.2.1
  have hk2 := hL.2.2.2.2.1
  have hm := mag_lt v hL.1 hL.2.1
  have hb0 : ((k : Int) == 0) = false := beq_eq_false_iff_ne.2 (by omega)
  have hc0 : w.cell? ⟨g, off, none⟩ = some (cur[off]'(by omega)) := by rw [cell_of_row w g off cur e (0, 0) hg]; simp [show off < cur.size by omega]
  have f0 : w.frozen? ⟨g, off, none⟩ = false := frozen_of_row w g off cur e hg
  have Hg := show Hid _ from hg
  clear hg
  go_enter Try.func14, Try.ntmps14
  go_wp2_with fail
  refine (mag_long v k hL _).mono ?_
  rintro e1 w1 ⟨rfl, rfl⟩
  generalize hc : cur[off]'(by omega) = c0 at *
  clear hc
  go_upto_block 0 with fail
  go_cut [] from 8 to 34 (fun wx => ∃ cur', wx.heap[g]? = some (.cells cur' e (0, 0)) ∧ Laid cur cur' off v k k ∧ w1.grownBy wx (some g))
  case first =>
    by_cases hv : v < 0
    · have he : encAt v k 0 = 136 - (k : Int) := by unfold encAt; rw [if_pos rfl, if_pos hv]
      have hfin := fun (x : Value) => heap_setCell_same w1 g off cur e x Hg.out
      have hl := Laid.first (cur := cur) (off := off) (v := v) (k := k) (by omega)
      have HF := show Hid _ from hfin
      rw [he] at hl
      clear hfin he
      go_wp2_with fail
      go_meet
      case rel => exact ⟨_, HF.out _, hl, grown_set _ _ _ _⟩
    · have he : encAt v k 0 = 144 - (k : Int) := by unfold encAt; rw [if_pos rfl, if_neg hv]
      have hfin := fun (x : Value) => heap_setCell_same w1 g off cur e x Hg.out
      have hl := Laid.first (cur := cur) (off := off) (v := v) (k := k) (by omega)
      have HF := show Hid _ from hfin
      rw [he] at hl
      clear hfin he
      go_wp2_with fail
      go_meet
      case rel => exact ⟨_, HF.out _, hl, grown_set _ _ _ _⟩
  case rest =>
    obtain ⟨cur1, hg1, hl1, hgr1⟩ := hcut
    clear hc0 f0 hb0
    have Hg1 := show Hid _ from hg1
    clear hg1
    go_wp2_with fail
    go_loopw [5, 7] (fun u i wr => ∃ (t : Nat) (cur' : Array Value), t ≤ k ∧ i = .int .i64 t ∧ u = .int .u64 (mag v / 256 ^ (k - t)) ∧ wr.heap[g]? = some (.cells cur' e (0, 0)) ∧ Laid cur cur' off v k t ∧ w1.grownBy wr (some g)) (fun _ i _ => (intOf i).toNat)
    case atStart => exact ⟨k, cur1, Nat.le_refl _, rfl, by simp, Hg1, hl1, hgr1⟩
    case round =>
      obtain ⟨t, cur', ht, rfl, rfl, hgt, hlt, hgrt⟩ := hrel
      have hU := shift_bound (mag v) (k - t) hm.1 hm.2
      cases t with
      | zero =>
        have h00 : decide ((1 : Int) ≤ ((0 : Nat) : Int)) = false := by decide
        have Hgt := show Hid _ from hgt
        clear hgt
        generalize mag v / 256 ^ (k - 0) = U at *
        go_wp2_with fail
        go_ret
        exact ⟨rfl, cur', Hgt, hlt, hgrt⟩
      | succ t =>
        have hsz' : cur'.size = cur.size := hlt.1
        have hcj : wr.cell? ⟨g, off + (t + 1), none⟩ = some (cur'[off + (t + 1)]'(by omega)) := by rw [cell_of_row wr g _ cur' e (0, 0) hgt]; simp [show off + (t + 1) < cur'.size by omega]
        have fj : wr.frozen? ⟨g, off + (t + 1), none⟩ = false := frozen_of_row wr g _ cur' e hgt
        have hn := hlt.next ht (by omega)
        rw [encAt_pos] at hn
        have hsn := shift_next (mag v) k t ht
        have hset := fun (x : Value) => heap_setCell_same wr g (off + (t + 1)) cur' e x hgt
        have HN := show Hid _ from hn
        have HS := show Hid _ from hset
        have HSN := show Hid _ from hsn
        clear hn hset hsn hgt
        generalize cur'[off + (t + 1)]'(by omega) = c1 at *
        generalize hUU : mag v / 256 ^ (k - (t + 1)) = U at *
        clear hUU
        go_wp2_with fail
        go_roundw
        case rel => exact ⟨t, _, by omega, rfl, by rw [HSN.out], HS.out _, HN, grown_trans hgrt (grown_set _ _ _ _)⟩
        case measure => simp [intOf]
/-- E: the bytes that are appended for v. -/
def IsEnc (v : Int) (E : List Int) : Prop := (-112 ≤ v ∧ v ≤ 127 ∧ E = [v % 256]) ∨ ∃ k, Long v k ∧ E = (List.range (k + 1)).map (encAt v k)
theorem IsEnc.ex (v : Int) (h0 : -9223372036854775808 ≤ v) (h1 : v ≤ 9223372036854775807) : ∃ E, IsEnc v E := by
  by_cases h : -112 ≤ v ∧ v ≤ 127
  · exact ⟨_, .inl ⟨h.1, h.2, rfl⟩⟩
  · have hm := mag_lt v h0 h1
    obtain ⟨k, hk⟩ := KB_ex (mag v) (by unfold mag; split <;> omega) (by omega)
    exact ⟨_, .inr ⟨k, ⟨h0, h1, by omega, hk⟩, rfl⟩⟩
theorem IsEnc.len {v : Int} {E : List Int} (h : IsEnc v E) : 1 ≤ E.length ∧ E.length ≤ 9 := by
  rcases h with ⟨_, _, rfl⟩ | ⟨k, hk, rfl⟩
  · exact ⟨by simp, by simp⟩
  · have := hk.2.2.2.2.1
    simp only [List.length_map, List.length_range]
    omega
/-- The bytes E laid at off. -/
def Put (cur cur' : Array Value) (off : Nat) (E : List Int) : Prop :=
  cur'.size = cur.size ∧ ∀ j, cur'[j]? = if off ≤ j ∧ j < off + E.length then some (.int .u8 (E.getD (j - off) 0)) else cur[j]?
theorem Put.ofLaid {cur cur' : Array Value} {off : Nat} {v : Int} {k : Nat} (h : Laid cur cur' off v k 0) : Put cur cur' off ((List.range (k + 1)).map (encAt v k)) := by
  refine ⟨h.1, fun j => ?_⟩
  rw [h.2 j]
  simp only [List.length_map, List.length_range]
  by_cases hj : off ≤ j ∧ j < off + (k + 1)
  · rw [if_pos (by omega), if_pos hj]
    have : j - off < k + 1 := by omega
    simp [this]
  · rw [if_neg (by omega), if_neg hj]
set_option maxHeartbeats 1000000 in
set_option maxRecDepth 100000 in
theorem put_short (g off len cap : Nat) (cur : Array Value) (e : TypeId) (v : Int) (w : World) (h0 : -112 ≤ v) (h1 : v ≤ 127) (hg : w.heap[g]? = some (.cells cur e (0, 0))) (hsz : off + 9 ≤ cur.size) (hc9 : 9 ≤ cap) :
    Calls Try.prog 14 #[.slice (some ⟨g, off, none⟩) len cap, .int .i64 v] w fun r w' => r = .returned (.int .i64 1) ∧ ∃ cur', w'.heap[g]? = some (.cells cur' e (0, 0)) ∧ Put cur cur' off [v % 256] ∧ w.grownBy w' (some g) := by
  have hc0 : w.cell? ⟨g, off, none⟩ = some (cur[off]'(by omega)) := by rw [cell_of_row w g off cur e (0, 0) hg]; simp [show off < cur.size by omega]
  have f0 : w.frozen? ⟨g, off, none⟩ = false := frozen_of_row w g off cur e hg
  have hset := heap_setCell_same w g off cur e (.int .u8 (IntKind.u8.wrap v)) hg
  have hput : Put cur (cur.setIfInBounds off (.int .u8 (IntKind.u8.wrap v))) off [v % 256] := by
    rw [u8w]
    refine ⟨by simp, fun j => ?_⟩
    by_cases hj : j = off
    · subst hj
      rw [if_pos (by simp)]
      simp [show j < cur.size by omega]
    · rw [if_neg (by simp; omega), Array.getElem?_setIfInBounds_ne (fun e => hj e.symm)]
  have HS := show Hid _ from hset
  have HP := show Hid _ from hput
  clear hg hset hput
  generalize cur[off]'(by omega) = c0 at *
  go_enter Try.func14, Try.ntmps14
  go_wp2_with fail
  refine (mag_short v h0 h1 _).mono ?_
  rintro e1 w1 ⟨rfl, rfl⟩
  go_wp2_with fail
  go_ret
  exact ⟨rfl, _, HS, HP, grown_set _ _ _ _⟩
/-- putVLong. -/
theorem put_any (g off len cap : Nat) (cur : Array Value) (e : TypeId) (v : Int) (E : List Int) (w : World) (hE : IsEnc v E) (hg : w.heap[g]? = some (.cells cur e (0, 0))) (hsz : off + 9 ≤ cur.size) (hc9 : 9 ≤ cap) :
    Calls Try.prog 14 #[.slice (some ⟨g, off, none⟩) len cap, .int .i64 v] w fun r w' => r = .returned (.int .i64 (E.length : Nat)) ∧ ∃ cur', w'.heap[g]? = some (.cells cur' e (0, 0)) ∧ Put cur cur' off E ∧ w.grownBy w' (some g) := by
  rcases hE with ⟨h0, h1, rfl⟩ | ⟨k, hk, rfl⟩
  · exact put_short g off len cap cur e v w h0 h1 hg hsz hc9
  · refine (put_long g off len cap cur e v k w hk hg hsz hc9).mono ?_
    rintro r w' ⟨rfl, cur', h1, h2, h3⟩
    refine ⟨?_, cur', h1, .ofLaid h2, h3⟩
    simp only [List.length_map, List.length_range]
    congr 2
    omega
end Go.Proofs.Qxb6629026a
