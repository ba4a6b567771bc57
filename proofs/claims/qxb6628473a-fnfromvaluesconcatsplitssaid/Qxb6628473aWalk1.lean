import Derived.Test.Qxb6628473aRows
import Derived.Test.Qxb6628473aSteps
import Derived.WalkKit
import Derived.ProofKit
import Derived.OpenShut
import Derived.WalkLawsBesides
namespace Go.Proofs.Qxb6628473a
open Ieee Go.RowKit
theorem same32_num (x : Nat) (w : World) (h : (FloatKind.f32.format.order x x == some .eq) = true) :
    Calls Try.prog 10 #[.float .f32 x, .float .f32 x] w fun e w' => e = .returned (.bool true) ∧ w' = w := by
  go_enter Try.func10, Try.ntmps10
  go_wp2
  go_ret
  exact ⟨rfl, rfl⟩
theorem same32_nan (x : Nat) (w : World) (h : (FloatKind.f32.format.order x x == some .eq) = false) (h' : (FloatKind.f32.format.order x x != some .eq) = true) :
    Calls Try.prog 10 #[.float .f32 x, .float .f32 x] w fun e w' => e = .returned (.bool true) ∧ w' = w := by
  go_enter Try.func10, Try.ntmps10
  go_wp2
  go_ret
  exact ⟨rfl, rfl⟩
/-- sameF32(x, x): whatever x is. -/
theorem same32 (x : Nat) (w : World) :
    Calls Try.prog 10 #[.float .f32 x, .float .f32 x] w fun e w' => e = .returned (.bool true) ∧ w' = w := by
  cases h : (FloatKind.f32.format.order x x == some .eq) with
  | true => exact same32_num x w h
  | false => exact same32_nan x w h (by unfold bne; rw [h]; rfl)
theorem same64_num (x y : Nat) (w : World) (h : (FloatKind.f64.format.order x y == some .eq) = true) :
    Calls Try.prog 11 #[.float .f64 x, .float .f64 y] w fun e w' => e = .returned (.bool true) ∧ w' = w := by
  go_enter Try.func11, Try.ntmps11
  go_wp2
  go_ret
  exact ⟨rfl, rfl⟩
theorem same64_nan (x y : Nat) (w : World) (h : (FloatKind.f64.format.order x y == some .eq) = false) (h' : (FloatKind.f64.format.order x x != some .eq) = true) (h2 : (FloatKind.f64.format.order y y != some .eq) = true) :
    Calls Try.prog 11 #[.float .f64 x, .float .f64 y] w fun e w' => e = .returned (.bool true) ∧ w' = w := by
  go_enter Try.func11, Try.ntmps11
  go_wp2
  go_ret
  exact ⟨rfl, rfl⟩
/-- sameF64(x, y), both the same number or both NaNs. -/
theorem same64 {o : Option Nat} (x y : Nat) (hx : Is64 o x) (hy : Is64 o y) (w : World) :
    Calls Try.prog 11 #[.float .f64 x, .float .f64 y] w fun e w' => e = .returned (.bool true) ∧ w' = w := by
  have nanne : ∀ z, NaN64 z → (FloatKind.f64.format.order z z != some .eq) = true := by
    intro z hz
    have : FloatKind.f64.format.order z z = none := (order_nan _ _ hz).1
    rw [this]; rfl
  have nan2 : NaN64 x → NaN64 y → Calls Try.prog 11 #[.float .f64 x, .float .f64 y] w fun e w' => e = .returned (.bool true) ∧ w' = w := by
    intro h1 h2
    refine same64_nan x y w ?_ (nanne x h1) (nanne y h2)
    have : FloatKind.f64.format.order x y = none := (order_nan _ _ h1).1
    rw [this]; rfl
  cases o with
  | none => exact nan2 hx hy
  | some b =>
    obtain rfl : x = b := hx
    obtain rfl : y = x := hy
    cases h : (double.read y).isNaN with
    | true => exact nan2 h h
    | false =>
      refine same64_num y y w ?_
      have : FloatKind.f64.format.order y y = some .eq := by
        show (double.read y).order (double.read y) = _
        rw [order_refl, h]; rfl
      rw [this]; rfl
theorem Try.info24 : (Try.prog.info? 24).map (fun i => (i.zero, i.size, i.bytes)) = some (some (.float .f32 0), 1, 4) := by kernel_rfl
theorem Try.info33 : (Try.prog.info? 33).map (fun i => (i.zero, i.size, i.bytes)) = some (some (.int .u32 0), 1, 4) := by kernel_rfl
def f32s (xs : List Nat) : List Value := xs.map (Value.float .f32)
theorem f32s_len (xs : List Nat) : (f32s xs).length = xs.length := by simp [f32s]

/-- A cell of an owned row of float32s. -/
theorem own_cell {w : World} {b e n : Nat} {g c : Nat} {xs : List Value} (h : w.ownsRow b e 1 (.slice (some ⟨g, 0, none⟩) n c) n xs) (k : Nat) (v : Value) (hk : xs[k]? = some v) : w.cell? ⟨g, k, none⟩ = some v := by
  have hl : xs.length = n := by simpa using h.1
  rw [h.cellAt k (by have := (List.getElem?_eq_some_iff.1 hk).1; omega), hk]

theorem run_store_float {P : Program} {w : World} {a : Addr} {m : Mode} (k : FloatKind) (b : Nat) : (store a (.float k b) m).run P w = stored P w a (.float k b) m := run_store P w a _ m rfl
attribute [local go_sem] run_store_float
theorem norm_snoc (ws : List Nat) (k : Nat) (h : k < ws.length) : norm (ws.take (k + 1)) = st (norm (ws.take k)) (ws.getD k 0) := by
  unfold norm
  rw [List.take_succ_eq_append_getElem h, List.foldl_append]
  simp [List.getD, List.getElem?_eq_getElem h]
theorem drewN_setCell (w : World) (n : Nat) (a : Addr) (v : Value) : (w.drewN n).setCell a v = (w.setCell a v).drewN n := rfl
attribute [local go_sem] drewN_setCell
theorem below_two {w : World} {o o' : Obj} {n : Nat} : Below w.heap.size w (((w.alloc o).alloc o').drewN n) :=
  below_drewN (((Below.refl _ _).alloc (Nat.le_refl _) _).alloc (by simp) _) n
set_option maxHeartbeats 400000 in
theorem newVec_row (fa : Option Addr) (fl fc : Nat) (g cap : Nat) (ws : List Nat) (len : Nat) (w : World) (hgl : g < w.heap.size) (hl : ws.length ≤ 1000000)
    (hcell : ∀ k, k < ws.length → w.cell? ⟨g, k, none⟩ = some (.float .f32 (ws.getD k 0))) :
    Calls Try.prog 14 #[.slice fa fl fc, .slice (some ⟨g, 0, none⟩) ws.length cap, .int .i64 len] w fun e w' => ∃ nb, e = .returned (.agg #[.slice fa fl fc, .slice (some ⟨g, 0, none⟩) ws.length cap, .int .i64 len, .float .f64 nb]) ∧ Is64 (norm ws) nb ∧ Below w.heap.size w w' := by
  go_enter Try.func14, Try.ntmps14
  go_wp2_with fail
  go_loopw [16] (fun i wr => ∃ (k nb n : Nat), k ≤ ws.length ∧ i = .int .i64 k ∧ Is64 (norm (ws.take k)) nb ∧ 
     wr = ((w.alloc (.cells #[.slice none 0 0, .slice none 0 0, .int .i64 0, .float .f64 0] 28)).alloc (.cells #[.slice fa fl fc, .slice (some ⟨g, 0, none⟩) ws.length cap, .int .i64 len, .float .f64 nb] 28)).drewN n) (fun i _ => ws.length - (intOf i).toNat)
  case atStart => exact ⟨0, 0, 0, Nat.zero_le _, rfl, rfl, rfl⟩
  case round =>
    obtain ⟨k, nb, n, hk, rfl, hnb, rfl⟩ := hrel
    by_cases hlt : k < ws.length
    · have hc := hcell k hlt
      have hs : Hid (norm (ws.take (k + 1)) = st (norm (ws.take k)) (ws.getD k 0)) := norm_snoc ws k hlt
      clear hcell
      generalize ws.getD k 0 = x at *
      go_wp2_with (first
        | (refine wpList_cv rfl (.tmp 22) 24 26 rfl Try.underlying24 Try.underlying26 rfl ?_; intro r1 n1 hr1)
        | (refine wpList_cv rfl (.tmp 24) 24 26 rfl Try.underlying24 Try.underlying26 rfl ?_; intro r2 n2 hr2)
        | (refine wpList_sq64 rfl (.tmp 23) (.tmp 25) 26 26 rfl rfl rfl hr1 hr2 ?_; intro r3 n3 hr3)
        | (refine wpList_add64 rfl (.tmp 21) (.tmp 26) 26 26 rfl rfl rfl hnb hr3 ?_; intro r4 n4 hr4))
      go_roundw
      case rel => exact ⟨k + 1, r4, _, hlt, by go_num, by rw [hs.out]; exact hr4, rfl⟩
      case measure => simp [intOf]; omega
    · go_wp2
      rw [List.take_of_length_le (by omega)] at hnb
      refine bodyPost_ret (v := .agg #[.slice fa fl fc, .slice (some ⟨g, 0, none⟩) ws.length cap, .int .i64 len, .float .f64 nb]) (by simp [results, Try.results14, go_sem]) rfl ⟨nb, rfl, hnb, below_two⟩
set_option maxHeartbeats 400000 in
theorem newVec_nil (fa : Option Addr) (fl fc : Nat) (len : Nat) (w : World) :
    Calls Try.prog 14 #[.slice fa fl fc, .slice none 0 0, .int .i64 len] w fun e w' => ∃ nb, e = .returned (.agg #[.slice fa fl fc, .slice none 0 0, .int .i64 len, .float .f64 nb]) ∧ Is64 (norm []) nb ∧ Below w.heap.size w w' := by
  go_enter Try.func14, Try.ntmps14
  go_wp2_with fail
  refine wp_loop_rounds 1 ?_; rw [rounds_succ]; go_wp2
  refine bodyPost_ret (v := .agg #[.slice fa fl fc, .slice none 0 0, .int .i64 len, .float .f64 0]) (by simp [results, Try.results14, go_sem]) rfl ⟨0, rfl, rfl, below_two (n := 0)⟩
end Go.Proofs.Qxb6628473a
