import Derived.Test.Qxb6628473aWalk2
import Derived.Deep.DeepCutAuto
import Derived.WalkSpells
import Derived.BigQuiet
import Derived.Deep.QuietTactic
namespace Go.Proofs.Qxb6628473a
open Ieee Go.RowKit
theorem run_neg32 {P : Program} {w : World} (x : Nat) : (Op.unary .neg (.float .f32 x)).run P w = .ok (.float .f32 (ng x)) w := rfl
attribute [local go_sem] run_store_float drewN_setCell run_neg32
theorem fts_all (vs : List Nat) : (fts vs vs.length).length = (nz vs).length := by
  have := fts_nz vs vs.length (Nat.le_refl _); rwa [List.take_length] at this
/-- FromValues, its lengths as numbers. -/
theorem fromN (a : Option Addr) (c : Nat) (vs : List Nat) (n m b : Nat) (w : World) (hn : vs.length = n) (hm : (nz vs).length = m) (hown : w.ownsRow b 24 1 (.slice a n c) n (f32s vs)) (hl : n ≤ 1000000) :
    Calls Try.prog 6 #[.slice a n c] w fun e w' => ∃ fa fc wa wc nb, e = .returned (.agg #[.slice fa m fc, .slice wa m wc, .int .i64 n, .float .f64 nb]) ∧ Is64 (norm (nz vs)) nb ∧
      w'.ownsRow w.heap.size 33 1 (.slice fa m fc) m (u32s (fts vs n)) ∧ w'.ownsRow w.heap.size 24 1 (.slice wa m wc) m (f32s (nz vs)) ∧ Below w.heap.size w w' := by
  subst hn hm
  have h := fromVals a c vs b w hown hl
  rw [fts_all] at h
  exact h
section
variable (fa wa : Option Addr) (fl fc wl wc : Nat) (n : Int) (b : Nat) (w : World)
theorem zz7 : Calls Try.prog 7 #[.agg #[.slice fa fl fc, .slice wa wl wc, .int .i64 n, .float .f64 b]] w fun e w' => e = .returned (.slice fa fl fc) ∧ w' = w.alloc (.cells #[.slice fa fl fc, .slice wa wl wc, .int .i64 n, .float .f64 b] 28) := by
  go_enter Try.func7, Try.ntmps7
  go_wp2
  go_ret
  exact ⟨rfl, rfl⟩
theorem zz8 : Calls Try.prog 8 #[.agg #[.slice fa fl fc, .slice wa wl wc, .int .i64 n, .float .f64 b]] w fun e w' => e = .returned (.slice wa wl wc) ∧ w' = w.alloc (.cells #[.slice fa fl fc, .slice wa wl wc, .int .i64 n, .float .f64 b] 28) := by
  go_enter Try.func8, Try.ntmps8
  go_wp2
  go_ret
  exact ⟨rfl, rfl⟩
theorem zz9 : Calls Try.prog 9 #[.agg #[.slice fa fl fc, .slice wa wl wc, .int .i64 n, .float .f64 b]] w fun e w' => e = .returned (.int .i64 n) ∧ w' = w.alloc (.cells #[.slice fa fl fc, .slice wa wl wc, .int .i64 n, .float .f64 b] 28) := by
  go_enter Try.func9, Try.ntmps9
  go_wp2
  go_ret
  exact ⟨rfl, rfl⟩
theorem zz12 : Calls Try.prog 12 #[.agg #[.slice fa fl fc, .slice wa wl wc, .int .i64 n, .float .f64 b]] w fun e w' => e = .returned (.float .f64 b) ∧ w' = w.alloc (.cells #[.slice fa fl fc, .slice wa wl wc, .int .i64 n, .float .f64 b] 28) := by
  go_enter Try.func12, Try.ntmps12
  go_wp2
  go_ret
  exact ⟨rfl, rfl⟩
end
/-- A fact of the world, and no more, is carried on. -/
theorem wp_world {P : Program} {c : Code} {Q : Exit → Act → World → Prop} {a : Act} {w : World} (R : World → Prop) (h0 : R w) (h : ∀ w', R w' → Code.wp P c Q a w') : Code.wp P c Q a w := h w h0
/-- A slice of float32s that came in. -/
def IsRow (w : World) (a : Option Addr) (len cap : Nat) (xs : List Nat) : Prop :=
  (a = none ∧ len = 0 ∧ cap = 0 ∧ xs = []) ∨
  ∃ x, a = some x ∧ len ≤ cap ∧ cap ≤ maxLen ∧ xs.length = len ∧ (∀ i, i < xs.length → w.cell? (x.add i) = some (.float .f32 (xs.getD i 0))) ∧ ∀ n ∈ xs, n < 4294967296

theorem wpList_copy_full {P : Program} {w : World} {ops : Array Oper} {rest : List Oper} {o : Oper} {a : Act} {Q : Exit → Act → World → Prop} (hgd : o.guard = none) (d s : Operand) (dT sT : TypeId)
    (ho : o.op = .call { callee := .builtin .copy, args := #[d, s], argTypes := #[dT, sT] }) (elem : TypeId) (hu : P.underlying dT = some (.slice elem)) (hsz : (P.info? elem).map (·.size) = some 1)
    (base g n : Nat) (ad : Addr) (sCap : Nat) (hd : a.eval d = .slice (some ⟨g, 0, none⟩) n n) (hs : a.eval s = .slice (some ad) n sCap) (ys : List Value)
    (hown : w.ownsRow base elem 1 (.slice (some ⟨g, 0, none⟩) n n) n ys) (cs : List Value) (hn : cs.length = n)
    (hsrc : ∀ j v, cs[j]? = some v → w.cell? (ad.add j) = some v) (h1 : ∀ v ∈ cs, v.oneCell' = true)
    (h : ∀ w', w'.ownsRow base elem 1 (.slice (some ⟨g, 0, none⟩) n n) n cs → w.grownBy w' (some g) → wpList P ops Q rest (a.put o.dst (goInt n)) w') : wpList P ops Q (o :: rest) a w := by
  rcases hown.2 with ⟨h', _⟩ | ⟨g', cap', cur, h', hb, hg, hnc, hcm, hcs, htake⟩
  · simp at h'
  · simp only [Value.slice.injEq, Option.some.injEq, Addr.mk.injEq, and_true, true_and] at h'
    obtain ⟨rfl, rfl⟩ := h'
    refine wpList_copy_own hgd d s dT sT ho elem hu hsz g 0 n n ad n sCap hd hs cur elem hg cs (by simp [hn]) hsrc (by simp [hn, hcs]) h1 ?_
    rw [hn]
    have hd0 : cur.toList.drop (0 + cs.length) = [] := List.drop_eq_nil_of_le (by simp [hn, hcs])
    rw [show (0 + n) = 0 + cs.length from by rw [hn], hd0]
    simp only [List.take_zero, List.append_nil, List.nil_append]
    refine h _ ⟨by simp [hn], .inr ⟨g, n, _, rfl, hb, setRow_heap w g cur _ elem _ hg, hnc, hcm, by simp [hn], ?_⟩⟩ ⟨rfl, rfl, rfl, by simp, fun k _ hk => setRow_other w g k _ (fun e => hk (by simp [e]))⟩
    rw [List.take_of_length_le (by simp [hn])]

theorem f32s_one (xs : List Nat) : ∀ v ∈ f32s xs, v.oneCell' = true := by
  intro v hv; simp [f32s] at hv; obtain ⟨b, _, rfl⟩ := hv; rfl
/-- 'neg' behind k rounds. -/
def part (ys : List Nat) (k : Nat) : List Value := f32s (ys.take k) ++ List.replicate (ys.length - k) (.float .f32 0)
theorem part_zero (ys : List Nat) : part ys 0 = List.replicate ys.length (.float .f32 0) := by simp [part, f32s]
theorem part_all (ys : List Nat) : part ys ys.length = f32s ys := by simp [part]
theorem part_set (ys : List Nat) (k : Nat) (hk : k < ys.length) : (part ys k).set k (.float .f32 (ys.getD k 0)) = part ys (k + 1) := by
  unfold part f32s
  have e : ys.length - k = (ys.length - (k + 1)) + 1 := by omega
  rw [e, List.replicate_succ, List.set_append_right _ _ (by simp; omega), List.take_succ_eq_append_getElem hk, List.map_append, List.append_assoc]
  simp [hk, Nat.min_eq_left (Nat.le_of_lt hk)]
theorem part_at (ys : List Nat) (k : Nat) (hk : k < ys.length) : (part ys k)[k]? = some (.float .f32 0) := by
  unfold part f32s
  have e : ys.length - k = (ys.length - (k + 1)) + 1 := by omega
  rw [e, List.replicate_succ, List.getElem?_append_right (by simp; omega)]
  simp [Nat.min_eq_left (Nat.le_of_lt hk)]
def StructAt (W : World) (b : Nat) (v0 v1 v2 v3 : Value) : Prop :=
  W.cell? ⟨b, 0, none⟩ = some v0 ∧ W.cell? ⟨b, 1, none⟩ = some v1 ∧ W.cell? ⟨b, 2, none⟩ = some v2 ∧ W.cell? ⟨b, 3, none⟩ = some v3 ∧ b < W.heap.size
/-- What the checks of the second law read. -/
structure Seen2 (w W : World) (xs : List Nat) (a fa wa fa' wa' : Option Addr) (c fc wc fc' wc' nb nb' bv bw : Nat) : Prop where
  own : ∃ b, W.ownsRow b 24 1 (.slice a xs.length c) xs.length (f32s xs)
  ownf : ∃ b, W.ownsRow b 33 1 (.slice fa (nz xs).length fc) (nz xs).length (u32s (fts xs xs.length))
  ownw : ∃ b, W.ownsRow b 24 1 (.slice wa (nz xs).length wc) (nz xs).length (f32s (nz xs))
  ownf' : ∃ b, W.ownsRow b 33 1 (.slice fa' (nz xs).length fc') (nz xs).length (u32s (fts (xs.map ng) xs.length))
  ownw' : ∃ b, W.ownsRow b 24 1 (.slice wa' (nz xs).length wc') (nz xs).length (f32s (nz (xs.map ng)))
  bel : Below w.heap.size w W
  sv : StructAt W bv (.slice fa (nz xs).length fc) (.slice wa (nz xs).length wc) (.int .i64 xs.length) (.float .f64 nb)
  sw : StructAt W bw (.slice fa' (nz xs).length fc') (.slice wa' (nz xs).length wc') (.int .i64 xs.length) (.float .f64 nb')
theorem below6 (w : World) (o1 o2 o3 o4 o5 o6 : Obj) : Below w.heap.size w ((((((w.alloc o1).alloc o2).alloc o3).alloc o4).alloc o5).alloc o6) := by
  have h1 := (Below.refl w.heap.size w).alloc (Nat.le_refl _) o1
  have h2 := h1.alloc h1.size o2
  have h3 := h2.alloc h2.size o3
  have h4 := h3.alloc h3.size o4
  have h5 := h4.alloc h4.size o5
  exact h5.alloc h5.size o6
theorem struct_new {w : World} {v0 v1 v2 v3 : Value} : StructAt (w.alloc (.cells #[v0, v1, v2, v3] 28)) w.heap.size v0 v1 v2 v3 := by
  refine ⟨?_, ?_, ?_, ?_, ?_⟩ <;> simp
theorem struct_below {w w' : World} {b : Nat} {v0 v1 v2 v3 : Value} (h : StructAt w b v0 v1 v2 v3) (hb : Below w.heap.size w w') : StructAt w' b v0 v1 v2 v3 := by
  obtain ⟨h0, h1, h2, h3, h4⟩ := h
  refine ⟨?_, ?_, ?_, ?_, Nat.lt_of_lt_of_le h4 hb.size⟩
  · rw [hb.cell (p := ⟨b, 0, none⟩) h4]; exact h0
  · rw [hb.cell (p := ⟨b, 1, none⟩) h4]; exact h1
  · rw [hb.cell (p := ⟨b, 2, none⟩) h4]; exact h2
  · rw [hb.cell (p := ⟨b, 3, none⟩) h4]; exact h3
/-- An owned row that is read at an index is no nil slice. -/
theorem own_at {w : World} {b e n c k : Nat} {a : Option Addr} {xs : List Value} (h : w.ownsRow b e 1 (.slice a n c) n xs) (hk : k < n) : ∃ g, a = some ⟨g, 0, none⟩ ∧ ∀ v, xs[k]? = some v → w.cell? ⟨g, k, none⟩ = some v := by
  rcases h.2 with ⟨_, h0⟩ | ⟨g, cap', cur, h', _⟩
  · omega
  · simp only [Value.slice.injEq] at h'
    obtain ⟨rfl, _, rfl⟩ := h'
    exact ⟨g, rfl, fun v hv => own_cell h k v hv⟩
theorem f32s_at (xs : List Nat) (k : Nat) (h : k < xs.length) : (f32s xs)[k]? = some (.float .f32 (xs.getD k 0)) := by simp [f32s, h]
theorem u32s_at (xs : List Nat) (k : Nat) (h : k < xs.length) : (u32s xs)[k]? = some (.int .u32 ((xs.getD k 0 : Nat) : Int)) := by simp [u32s, h]
theorem nz_map (xs : List Nat) (k : Nat) (hk : k ≤ xs.length) : nz (xs.take k) = (fts xs k).map fun i => xs.getD i 0 := by
  induction k with
  | zero => simp [fts, nz]
  | succ k ih =>
    have ih := ih (by omega)
    cases h : isZ (xs.getD k 0) with
    | true => rw [fts_no xs k h, nz_no xs k hk h, ih]
    | false => rw [fts_yes xs k h, nz_yes xs k hk h, ih, List.map_append]; rfl
theorem nz_fts (xs : List Nat) (k : Nat) (hk : k < (nz xs).length) : (nz xs).getD k 0 = xs.getD ((fts xs xs.length).getD k 0) 0 := by
  have h := nz_map xs xs.length (Nat.le_refl _)
  rw [List.take_length] at h
  have hl : k < (fts xs xs.length).length := by rw [fts_all]; exact hk
  rw [h]
  simp [hl]
theorem fts_lt (xs : List Nat) (n k : Nat) (hk : k < (fts xs n).length) : (fts xs n).getD k 0 < n := by
  have : (fts xs n)[k] ∈ fts xs n := List.getElem_mem hk
  rw [show (fts xs n).getD k 0 = (fts xs n)[k] by simp [hk]]
  unfold fts at this
  have := (List.mem_filter.1 this).1
  exact List.mem_range.1 this
theorem fts_ng (xs : List Nat) (hx : ∀ x ∈ xs, x < 4294967296) : fts (xs.map ng) xs.length = fts xs xs.length := by
  unfold fts
  refine List.filter_congr fun i hi => ?_
  have hi' : i < xs.length := List.mem_range.1 hi
  have e : (xs.map ng).getD i 0 = ng (xs.getD i 0) := by simp [hi']
  rw [e, isZ_ng (by rw [show xs.getD i 0 = xs[i] by simp [hi']]; exact hx _ (List.getElem_mem _))]
theorem balloc {w0 w : World} (h : Below w0.heap.size w0 w) (o : Obj) : Below w0.heap.size w0 (w.alloc o) := h.alloc h.size o
end Go.Proofs.Qxb6628473a
