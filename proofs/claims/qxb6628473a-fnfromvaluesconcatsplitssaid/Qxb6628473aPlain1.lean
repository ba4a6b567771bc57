import Derived.Test.Qxb6628473aWalk3
namespace Go.Proofs.Qxb6628473a
open Ieee Go.RowKit
theorem isRow_below {w w' : World} {a : Option Addr} {len cap : Nat} {xs : List Nat} (h : IsRow w a len cap xs) (hb : Below w.heap.size w w') : IsRow w' a len cap xs := by
  rcases h with h | ⟨x, rfl, h1, h2, h3, h4, h5⟩
  · exact .inl h
  · refine .inr ⟨x, rfl, h1, h2, h3, fun i hi => ?_, h5⟩
    have hc := h4 i hi
    rw [hb.cell (p := x.add i) (World.block_lt_of_cell? w _ hc)]
    exact hc
theorem nz_app (xs ys : List Nat) : nz (xs ++ ys) = nz xs ++ nz ys := by unfold nz; rw [List.filter_append]
theorem fts_app (xs ys : List Nat) : fts (xs ++ ys) (xs.length + ys.length) = fts xs xs.length ++ (fts ys ys.length).map (xs.length + ·) := by
  unfold fts
  rw [List.range_add, List.filter_append, List.filter_map]
  congr 1
  · refine List.filter_congr fun i hi => ?_
    have hi' := List.mem_range.1 hi
    rw [show (xs ++ ys).getD i 0 = xs.getD i 0 by simp [List.getElem?_append_left hi']]
  · congr 1
    refine List.filter_congr fun i hi => ?_
    show (!isZ ((xs ++ ys).getD (xs.length + i) 0)) = _
    rw [show (xs ++ ys).getD (xs.length + i) 0 = ys.getD i 0 by simp [List.getElem?_append_right]]
/-- .. at an index. -/
theorem fts_app_l (xs ys : List Nat) (k : Nat) (hk : k < (nz xs).length) : (fts (xs ++ ys) (xs.length + ys.length)).getD k 0 = (fts xs xs.length).getD k 0 := by
  have : k < (fts xs xs.length).length := by rw [fts_all]; exact hk
  rw [fts_app]
  simp [List.getElem?_append_left this]
theorem fts_app_r (xs ys : List Nat) (k : Nat) (hk : k < (nz ys).length) : (fts (xs ++ ys) (xs.length + ys.length)).getD ((nz xs).length + k) 0 = (fts ys ys.length).getD k 0 + xs.length := by
  have h : k < (fts ys ys.length).length := by rw [fts_all]; exact hk
  rw [fts_app, ← fts_all xs]
  simp [List.getElem?_append_right, h, Nat.add_comm]
theorem nz_app_l (xs ys : List Nat) (k : Nat) (hk : k < (nz xs).length) : (nz (xs ++ ys)).getD k 0 = (nz xs).getD k 0 := by
  rw [nz_app]; simp [List.getElem?_append_left hk]
theorem nz_app_r (xs ys : List Nat) (k : Nat) : (nz (xs ++ ys)).getD ((nz xs).length + k) 0 = (nz ys).getD k 0 := by
  rw [nz_app]; simp [List.getElem?_append_right]
theorem fts_pair (xs : List Nat) (n : Nat) : (fts xs n).Pairwise (· < ·) := by
  unfold fts
  exact List.Pairwise.filter _ List.pairwise_lt_range
theorem fts_inc (xs : List Nat) (n k : Nat) (hk : k + 1 < (fts xs n).length) : (fts xs n).getD k 0 < (fts xs n).getD (k + 1) 0 := by
  have h := List.pairwise_iff_getElem.1 (fts_pair xs n) k (k + 1) (by omega) hk (by omega)
  rw [show (fts xs n).getD k 0 = (fts xs n)[k] by simp [show k < (fts xs n).length by omega], show (fts xs n).getD (k + 1) 0 = (fts xs n)[k + 1] by simp [hk]]
  exact h
theorem nz_not (xs : List Nat) (k : Nat) (hk : k < (nz xs).length) : isZ ((nz xs).getD k 0) = false := by
  have h : (nz xs)[k] ∈ nz xs := List.getElem_mem hk
  rw [show (nz xs).getD k 0 = (nz xs)[k] by simp [hk]]
  have := (List.mem_filter.1 h).2
  simpa using this
theorem fold_snoc (acc : Option Nat) (ws : List Nat) (k : Nat) (h : k < ws.length) : (ws.take (k + 1)).foldl st acc = st ((ws.take k).foldl st acc) (ws.getD k 0) := by
  rw [List.take_succ_eq_append_getElem h, List.foldl_append]
  simp [List.getElem?_eq_getElem h]
theorem norm_split (xs ys : List Nat) : (nz ys).foldl st (norm (nz xs)) = norm (nz (xs ++ ys)) := by
  rw [nz_app]; unfold norm; rw [List.foldl_append]

/-! NaNs that are drawn. -/
def nanC (w : World) (x : Nat) : Nat := (Question.nanConv .f64 x).cut (w.tape w.drawn (.nanConv .f64 x))
def nanB (w : World) (x y : Nat) : Nat := (Question.nanBits .f64 x y).cut (w.tape w.drawn (.nanBits .f64 x y))
theorem nanC_nan (w : World) (x : Nat) : NaN64 (nanC w x) := nan_cut' _ _
theorem nanB_nan (w : World) (x y : Nat) : NaN64 (nanB w x y) := nan_cut _ _ _
theorem run_conv_nan {P : Program} (w : World) (src dst : TypeId) (hs : P.underlying src = some (.float .f32)) (hd : P.underlying dst = some (.float .f64)) (x : Nat) (h : NaN32 x) :
    (convert src dst (.float .f32 x)).run P w = .ok (.float .f64 (nanC w x)) w.drew := by
  unfold NaN32 at h
  rcases read32 x with ⟨s, m, i, e, _⟩ | ⟨s, e⟩ | ⟨s, t, e⟩
  · rw [e] at h; cases h
  · rw [e] at h; cases h
  · have e1 : FloatKind.f32.decode x = .nan s t := e
    simp [convert, run_underlying hs, run_underlying hd, Conv.floatToFloat, e1, Question.forced]
    rfl
theorem run_conv_num {P : Program} (w : World) (src dst : TypeId) (hs : P.underlying src = some (.float .f32)) (hd : P.underlying dst = some (.float .f64)) (x y : Nat) (h : cv x = some y) :
    (convert src dst (.float .f32 x)).run P w = .ok (.float .f64 y) w := by
  rw [cv_eq] at h
  rcases read32 x with ⟨s, m, i, e, h1, h2, h3⟩ | ⟨s, e⟩ | ⟨s, t, e⟩
  · rw [e] at h
    simp only [Option.some.injEq] at h
    subst h
    obtain ⟨r, hr, hlt⟩ := wide_word s m i h1 h2 h3
    obtain ⟨m', i', e'⟩ := read_word64 s r hlt
    have e1 : FloatKind.f32.decode x = .number s m i := e
    have e2 : (FloatKind.f64.decode (FloatKind.f64.encode (.number s m i))).isInfinity = false := by
      show (double.read (double.write (.number s m i))).isInfinity = false
      rw [hr, e']; rfl
    simp [convert, run_underlying hs, run_underlying hd, Conv.floatToFloat, e1, e2]
    rfl
  · rw [e] at h
    simp only [Option.some.injEq] at h
    subst h
    have e1 : FloatKind.f32.decode x = .infinity s := e
    simp [convert, run_underlying hs, run_underlying hd, Conv.floatToFloat, e1]
    rfl
  · rw [e] at h; cases h
theorem run_mul_nan {P : Program} (w : World) (t : TypeId) (u v : Nat) (h : NaN64 u) : (binOp .mul t (.float .f64 u) (.float .f64 v)).run P w = .ok (.float .f64 (nanB w u v)) w.drew := by
  have ho : FloatKind.f64.format.mul u v = none := by
    show double.mul u v = none
    unfold NaN64 at h; unfold Format.mul
    cases hr : double.read u <;> simp [hr, Datum.isNaN] at h
    simp [Datum.product]
  simp [binOp, Op.floatArith, ho, Question.forced]
  rfl
theorem run_add_nan {P : Program} (w : World) (t : TypeId) (u v : Nat) (h : NaN64 u ∨ NaN64 v) : (binOp .add t (.float .f64 u) (.float .f64 v)).run P w = .ok (.float .f64 (nanB w u v)) w.drew := by
  have ho : FloatKind.f64.format.add u v = none := by
    show double.add u v = none
    unfold NaN64 at h; unfold Format.add
    rcases h with h | h
    · cases hr : double.read u <;> simp [hr, Datum.isNaN] at h
      simp [Datum.sum]
    · cases hr : double.read v <;> simp [hr, Datum.isNaN] at h
      cases double.read u <;> simp [Datum.sum]
  simp [binOp, Op.floatArith, ho, Question.forced]
  rfl
end Go.Proofs.Qxb6628473a
