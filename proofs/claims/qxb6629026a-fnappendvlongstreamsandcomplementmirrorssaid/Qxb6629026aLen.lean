import Derived.Test.Qxb6629026aRows
import Derived.WalkKit
import Derived.ProofKit
import Derived.OpenShut
import Derived.WalkLawsBesides
import Derived.Deep.CutRange
import Derived.Deep.CutBlock
import Derived.WalkSpells
import Derived.Lib.BitFns
import Derived.BigQuiet
import Derived.Deep.QuietTactic
namespace Go.Proofs.Qxb6629026a
open Go.RowKit
theorem tab_bounds : ∀ n : Fin 256, 1 ≤ n.val → 1 ≤ ((Lib.len8tab[n.val]?).getD 0).toNat ∧ ((Lib.len8tab[n.val]?).getD 0).toNat ≤ 8 := by decide +kernel
theorem wpList_tab {P : Program} {w : World} {ops : Array Oper} {rest : List Oper} {o : Oper} {a : Act} {Q : Exit → Act → World → Prop} (hgd : o.guard = none) (x : Operand) (s : ByteArray)
    (ho : o.op = .index 9 (.const (.string s)) x) (hs : s = Lib.len8tab) (hu : P.underlying 9 = some .string) {t : Int} (hx : a.eval x = .int .u8 t) (h0 : 1 ≤ t) (h1 : t ≤ 255)
    (h : ∀ v : Int, 1 ≤ v → v ≤ 8 → wpList P ops Q rest (a.put o.dst (.int .u8 v)) w) : wpList P ops Q (o :: rest) a w := by
  subst hs
  refine wpList_plain hgd fun K hK => ?_
  have hr := Lib.run_index_len8tab (P := P) w 9 .u8 t hu (by omega) h1
  have hb := tab_bounds ⟨t.toNat, by omega⟩ (by show 1 ≤ t.toNat; omega)
  have hv : Lib.len8 t = (((Lib.len8tab[t.toNat]?).getD 0).toNat : Int) := rfl
  unfold Oper.wp
  have hc : a.eval (.const (.string Lib.len8tab)) = .string Lib.len8tab := rfl
  simp [execOp, ho, hx, hc, hr, Result.andThen]
  refine hK _ _ (h (Lib.len8 t) ?_ ?_)
  · rw [hv]; have := hb.1; simp only at this; omega
  · rw [hv]; have := hb.2; simp only at this; omega
set_option maxHeartbeats 1000000 in
set_option maxRecDepth 100000 in
theorem len64_0 (x : Int) (h0 : 1 ≤ x) (h1 : x ≤ 255) (w : World) :
    Calls Try.prog 16 #[.int .u64 x] w fun e w' => ∃ L : Int, 1 ≤ L ∧ L ≤ 8 ∧ e = .returned (.int .i64 L) ∧ w' = w := by
  go_enter Try.func16, Try.ntmps16
  go_wp2_with (refine wpList_tab rfl (.tmp 21) _ rfl (by kernel_rfl) Try.underlying9 rfl (by omega) (by omega) ?_; intro v hv1 hv2)
  go_ret
  exact ⟨_, by omega, by omega, rfl, rfl⟩
set_option maxHeartbeats 1000000 in
set_option maxRecDepth 100000 in
theorem len64_1 (x : Int) (h0 : 256 ≤ x) (h1 : x ≤ 65535) (w : World) :
    Calls Try.prog 16 #[.int .u64 x] w fun e w' => ∃ L : Int, 9 ≤ L ∧ L ≤ 16 ∧ e = .returned (.int .i64 L) ∧ w' = w := by
  go_enter Try.func16, Try.ntmps16
  go_wp2_with (refine wpList_tab rfl (.tmp 21) _ rfl (by kernel_rfl) Try.underlying9 rfl (by omega) (by omega) ?_; intro v hv1 hv2)
  go_ret
  exact ⟨_, by omega, by omega, rfl, rfl⟩
set_option maxHeartbeats 1000000 in
set_option maxRecDepth 100000 in
theorem len64_2 (x : Int) (h0 : 65536 ≤ x) (h1 : x ≤ 16777215) (w : World) :
    Calls Try.prog 16 #[.int .u64 x] w fun e w' => ∃ L : Int, 17 ≤ L ∧ L ≤ 24 ∧ e = .returned (.int .i64 L) ∧ w' = w := by
  go_enter Try.func16, Try.ntmps16
  go_wp2_with (refine wpList_tab rfl (.tmp 21) _ rfl (by kernel_rfl) Try.underlying9 rfl (by omega) (by omega) ?_; intro v hv1 hv2)
  go_ret
  exact ⟨_, by omega, by omega, rfl, rfl⟩
set_option maxHeartbeats 1000000 in
set_option maxRecDepth 100000 in
theorem len64_3 (x : Int) (h0 : 16777216 ≤ x) (h1 : x ≤ 4294967295) (w : World) :
    Calls Try.prog 16 #[.int .u64 x] w fun e w' => ∃ L : Int, 25 ≤ L ∧ L ≤ 32 ∧ e = .returned (.int .i64 L) ∧ w' = w := by
  go_enter Try.func16, Try.ntmps16
  go_wp2_with (refine wpList_tab rfl (.tmp 21) _ rfl (by kernel_rfl) Try.underlying9 rfl (by omega) (by omega) ?_; intro v hv1 hv2)
  go_ret
  exact ⟨_, by omega, by omega, rfl, rfl⟩
set_option maxHeartbeats 1000000 in
set_option maxRecDepth 100000 in
theorem len64_4 (x : Int) (h0 : 4294967296 ≤ x) (h1 : x ≤ 1099511627775) (w : World) :
    Calls Try.prog 16 #[.int .u64 x] w fun e w' => ∃ L : Int, 33 ≤ L ∧ L ≤ 40 ∧ e = .returned (.int .i64 L) ∧ w' = w := by
  go_enter Try.func16, Try.ntmps16
  go_wp2_with (refine wpList_tab rfl (.tmp 21) _ rfl (by kernel_rfl) Try.underlying9 rfl (by omega) (by omega) ?_; intro v hv1 hv2)
  go_ret
  exact ⟨_, by omega, by omega, rfl, rfl⟩
set_option maxHeartbeats 1000000 in
set_option maxRecDepth 100000 in
theorem len64_5 (x : Int) (h0 : 1099511627776 ≤ x) (h1 : x ≤ 281474976710655) (w : World) :
    Calls Try.prog 16 #[.int .u64 x] w fun e w' => ∃ L : Int, 41 ≤ L ∧ L ≤ 48 ∧ e = .returned (.int .i64 L) ∧ w' = w := by
  go_enter Try.func16, Try.ntmps16
  go_wp2_with (refine wpList_tab rfl (.tmp 21) _ rfl (by kernel_rfl) Try.underlying9 rfl (by omega) (by omega) ?_; intro v hv1 hv2)
  go_ret
  exact ⟨_, by omega, by omega, rfl, rfl⟩
set_option maxHeartbeats 1000000 in
set_option maxRecDepth 100000 in
theorem len64_6 (x : Int) (h0 : 281474976710656 ≤ x) (h1 : x ≤ 72057594037927935) (w : World) :
    Calls Try.prog 16 #[.int .u64 x] w fun e w' => ∃ L : Int, 49 ≤ L ∧ L ≤ 56 ∧ e = .returned (.int .i64 L) ∧ w' = w := by
  go_enter Try.func16, Try.ntmps16
  go_wp2_with (refine wpList_tab rfl (.tmp 21) _ rfl (by kernel_rfl) Try.underlying9 rfl (by omega) (by omega) ?_; intro v hv1 hv2)
  go_ret
  exact ⟨_, by omega, by omega, rfl, rfl⟩
set_option maxHeartbeats 1000000 in
set_option maxRecDepth 100000 in
theorem len64_7 (x : Int) (h0 : 72057594037927936 ≤ x) (h1 : x ≤ 18446744073709551615) (w : World) :
    Calls Try.prog 16 #[.int .u64 x] w fun e w' => ∃ L : Int, 57 ≤ L ∧ L ≤ 64 ∧ e = .returned (.int .i64 L) ∧ w' = w := by
  go_enter Try.func16, Try.ntmps16
  go_wp2_with (refine wpList_tab rfl (.tmp 21) _ rfl (by kernel_rfl) Try.underlying9 rfl (by omega) (by omega) ?_; intro v hv1 hv2)
  go_ret
  exact ⟨_, by omega, by omega, rfl, rfl⟩
end Go.Proofs.Qxb6629026a
