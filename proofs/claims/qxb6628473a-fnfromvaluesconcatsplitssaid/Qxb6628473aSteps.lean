import Derived.Test.Qxb6628473aFloats
import Derived.WalkKit
import Derived.Laws.CopyOwn
import Derived.Deep.Draws
namespace Go.Proofs.Qxb6628473a
open Ieee Go.RowKit

theorem nan_cut (x y : Nat) (t : Nat) : NaN64 ((Question.nanBits .f64 x y).cut t) := by
  unfold NaN64 Question.cut
  show (double.read (t % 2 * 9223372036854775808 + 9218868437227405312 + 1 + t / 2 % 4503599627370495)).isNaN = true
  have h1 : t % 2 < 2 := Nat.mod_lt _ (by omega)
  have h2 : t / 2 % 4503599627370495 < 4503599627370495 := Nat.mod_lt _ (by omega)
  generalize t % 2 = a at *
  generalize t / 2 % 4503599627370495 = b at *
  unfold Format.read
  simp only [sw64, bi64, ir64, lp64]
  rw [if_neg (by omega), if_neg (by omega), if_neg (by omega)]
  rfl
theorem nan_cut' (x : Nat) (t : Nat) : NaN64 ((Question.nanConv .f64 x).cut t) := nan_cut 0 0 t

section
variable {P : Program} (w : World)
/-- '+', '*' on float64s that may be NaNs. -/
theorem run_add64 (t : TypeId) {c d : Option Nat} {u v : Nat} (hu : Is64 c u) (hv : Is64 d v) :
    ∃ r n, (binOp .add t (.float .f64 u) (.float .f64 v)).run P w = .ok (.float .f64 r) (w.drewN n) ∧ Is64 (c.bind fun s => d.bind fun p => double.add s p) r := by
  have key : ∀ o : Option Nat, double.add u v = o → ∃ r n, (binOp .add t (.float .f64 u) (.float .f64 v)).run P w = .ok (.float .f64 r) (w.drewN n) ∧ Is64 o r := by
    intro o ho
    cases o with
    | some r => exact ⟨r, 0, run_float_arith w .add t .f64 u v r ho, rfl⟩
    | none =>
      refine ⟨(Question.nanBits .f64 u v).cut (w.tape w.drawn (.nanBits .f64 u v)), 1, ?_, nan_cut _ _ _⟩
      have ho' : FloatKind.f64.format.add u v = none := ho
      simp [binOp, Op.floatArith, ho', Question.forced]
      rfl
  have hn1 : NaN64 u → double.add u v = none := by
    intro h; unfold NaN64 at h; unfold Format.add
    cases hr : double.read u <;> simp [hr, Datum.isNaN] at h
    simp [Datum.sum]
  have hn2 : NaN64 v → double.add u v = none := by
    intro h; unfold NaN64 at h; unfold Format.add
    cases hr : double.read v <;> simp [hr, Datum.isNaN] at h
    cases double.read u <;> simp [Datum.sum]
  cases c with
  | none => exact key _ (hn1 hu)
  | some s =>
    cases d with
    | none => exact key _ (hn2 hv)
    | some p =>
      obtain rfl : u = s := hu
      obtain rfl : v = p := hv
      exact key _ rfl
theorem run_sq64 (t : TypeId) {c : Option Nat} {u v : Nat} (hu : Is64 c u) (hv : Is64 c v) :
    ∃ r n, (binOp .mul t (.float .f64 u) (.float .f64 v)).run P w = .ok (.float .f64 r) (w.drewN n) ∧ Is64 (c.bind fun y => double.mul y y) r := by
  have key : ∀ o : Option Nat, double.mul u v = o → ∃ r n, (binOp .mul t (.float .f64 u) (.float .f64 v)).run P w = .ok (.float .f64 r) (w.drewN n) ∧ Is64 o r := by
    intro o ho
    cases o with
    | some r => exact ⟨r, 0, run_float_arith w .mul t .f64 u v r ho, rfl⟩
    | none =>
      refine ⟨(Question.nanBits .f64 u v).cut (w.tape w.drawn (.nanBits .f64 u v)), 1, ?_, nan_cut _ _ _⟩
      have ho' : FloatKind.f64.format.mul u v = none := ho
      simp [binOp, Op.floatArith, ho', Question.forced]
      rfl
  have hn1 : NaN64 u → double.mul u v = none := by
    intro h; unfold NaN64 at h; unfold Format.mul
    cases hr : double.read u <;> simp [hr, Datum.isNaN] at h
    simp [Datum.product]
  cases c with
  | none => exact key _ (hn1 hu)
  | some s =>
    obtain rfl : u = s := hu
    obtain rfl : v = u := hv
    exact key _ rfl
/-- 'float64(x)'. -/
theorem run_cv (src dst : TypeId) (hs : P.underlying src = some (.float .f32)) (hd : P.underlying dst = some (.float .f64)) (x : Nat) :
    ∃ r n, (convert src dst (.float .f32 x)).run P w = .ok (.float .f64 r) (w.drewN n) ∧ Is64 (cv x) r := by
  rw [cv_eq]
  rcases read32 x with ⟨s, m, i, e, h1, h2, h3⟩ | ⟨s, e⟩ | ⟨s, t, e⟩
  · refine ⟨double.write (.number s m i), 0, ?_, by rw [e]; rfl⟩
    obtain ⟨r, hr, hlt⟩ := wide_word s m i h1 h2 h3
    obtain ⟨m', i', e'⟩ := read_word64 s r hlt
    have e1 : FloatKind.f32.decode x = .number s m i := e
    have e2 : (FloatKind.f64.decode (FloatKind.f64.encode (.number s m i))).isInfinity = false := by
      show (double.read (double.write (.number s m i))).isInfinity = false
      rw [hr, e']; rfl
    simp [convert, run_underlying hs, run_underlying hd, Conv.floatToFloat, e1, e2]
    exact ⟨rfl, rfl⟩
  · refine ⟨double.write (.infinity s), 0, ?_, by rw [e]; rfl⟩
    have e1 : FloatKind.f32.decode x = .infinity s := e
    simp [convert, run_underlying hs, run_underlying hd, Conv.floatToFloat, e1]
    exact ⟨rfl, rfl⟩
  · refine ⟨(Question.nanConv .f64 x).cut (w.tape w.drawn (.nanConv .f64 x)), 1, ?_, by rw [e]; exact nan_cut' _ _⟩
    have e1 : FloatKind.f32.decode x = .nan s t := e
    simp [convert, run_underlying hs, run_underlying hd, Conv.floatToFloat, e1, Question.forced]
    rfl
end

section
variable {P : Program} {w : World} {ops : Array Oper} {rest : List Oper} {o : Oper} {a : Act} {Q : Exit → Act → World → Prop}
theorem wpList_add64 (hgd : o.guard = none) (x y : Operand) (t t' : TypeId) (ho : o.op = .binOp .add t x y t') {u v : Nat} (hx : a.eval x = .float .f64 u) (hy : a.eval y = .float .f64 v)
    {c d : Option Nat} (hu : Is64 c u) (hv : Is64 d v)
    (h : ∀ r n, Is64 (c.bind fun s => d.bind fun p => double.add s p) r → wpList P ops Q rest (a.put o.dst (.float .f64 r)) (w.drewN n)) : wpList P ops Q (o :: rest) a w := by
  refine wpList_plain hgd fun K hK => ?_
  obtain ⟨r, n, hr, hi⟩ := run_add64 (P := P) w t hu hv
  unfold Oper.wp
  simp [execOp, ho, hx, hy, hr, Result.andThen, eqGuard]
  exact hK _ _ (h r n hi)
theorem wpList_sq64 (hgd : o.guard = none) (x y : Operand) (t t' : TypeId) (ho : o.op = .binOp .mul t x y t') {u v : Nat} (hx : a.eval x = .float .f64 u) (hy : a.eval y = .float .f64 v)
    {c : Option Nat} (hu : Is64 c u) (hv : Is64 c v)
    (h : ∀ r n, Is64 (c.bind fun y => double.mul y y) r → wpList P ops Q rest (a.put o.dst (.float .f64 r)) (w.drewN n)) : wpList P ops Q (o :: rest) a w := by
  refine wpList_plain hgd fun K hK => ?_
  obtain ⟨r, n, hr, hi⟩ := run_sq64 (P := P) w t hu hv
  unfold Oper.wp
  simp [execOp, ho, hx, hy, hr, Result.andThen, eqGuard]
  exact hK _ _ (h r n hi)
theorem wpList_cv (hgd : o.guard = none) (x : Operand) (src dst : TypeId) (ho : o.op = .convert src dst x) (hs : P.underlying src = some (.float .f32)) (hd : P.underlying dst = some (.float .f64))
    {b : Nat} (hx : a.eval x = .float .f32 b)
    (h : ∀ r n, Is64 (cv b) r → wpList P ops Q rest (a.put o.dst (.float .f64 r)) (w.drewN n)) : wpList P ops Q (o :: rest) a w := by
  refine wpList_plain hgd fun K hK => ?_
  obtain ⟨r, n, hr, hi⟩ := run_cv (P := P) w src dst hs hd b
  unfold Oper.wp
  simp [execOp, ho, hx, hr, Result.andThen]
  exact hK _ _ (h r n hi)
end
end Go.Proofs.Qxb6628473a
