import Derived.Laws.FloatArith
namespace Go.Proofs.Qxb6628473a
open Ieee

def NaN32 (x : Nat) : Prop := (single.read x).isNaN = true
def NaN64 (x : Nat) : Prop := (double.read x).isNaN = true
/-- '-x' on the bits of a float32. -/
def ng (x : Nat) : Nat := Go.Op.negFloat .f32 x
/-- 'x == 0' on the bits of a float32. -/
def isZ (x : Nat) : Bool := single.order x 0 == some .eq
/-- 'float64(x)', none: a NaN. -/
def cv (x : Nat) : Option Nat := floatToFloatBits .f32 x .f64
/-- 'float64(x) * float64(x)'. -/
def sq (x : Nat) : Option Nat := (cv x).bind fun y => double.mul y y
/-- 'acc + float64(x) * float64(x)'. -/
def st (acc : Option Nat) (x : Nat) : Option Nat := acc.bind fun s => (sq x).bind fun p => double.add s p
/-- What a float64 holds whose value is known ('some'), or is a NaN of bits unknown ('none'). -/
def Is64 (o : Option Nat) (v : Nat) : Prop := match o with | some b => v = b | none => NaN64 v
def nn (o : Option Nat) : Prop := ∀ s, o = some s → s ≤ double.infRung

theorem sw32 : single.signWeight = 2147483648 := by decide
theorem sw64 : double.signWeight = 9223372036854775808 := by decide
theorem bi32 : single.binade = 8388608 := by decide
theorem bi64 : double.binade = 4503599627370496 := by decide
theorem ir32 : single.infRung = 2139095040 := by decide
theorem ir64 : double.infRung = 9218868437227405312 := by decide
theorem lp32 : single.leastPlace = -149 := by decide
theorem lp64 : double.leastPlace = -1074 := by decide

theorem ng_eq (x : Nat) : ng x = x ^^^ 2 ^ 31 := rfl
theorem ng_mod (x : Nat) : ng x % 2147483648 = x % 2147483648 := by
  have := Nat.xor_mod_two_pow (a := x) (b := 2 ^ 31) (n := 31)
  rw [ng_eq]; simpa using this
theorem ng_div (x : Nat) (h : x < 4294967296) : ng x / 2147483648 = 1 - x / 2147483648 := by
  have h1 := Nat.xor_div_two_pow (a := x) (b := 2 ^ 31) (n := 31)
  have h2 : x / 2 ^ 31 = 0 ∨ x / 2 ^ 31 = 1 := by omega
  rw [ng_eq]
  rw [show (2147483648 : Nat) = 2 ^ 31 from rfl, h1]
  rcases h2 with h2 | h2 <;> rw [h2] <;> decide
theorem ng_lt (x : Nat) (h : x < 4294967296) : ng x < 4294967296 := by
  have := ng_div x h; omega

theorem read_ng (x : Nat) (h : x < 4294967296) : single.read (ng x) = (single.read x).opposite := by
  have h1 := ng_mod x
  have h2 := ng_div x h
  have h3 : (ng x / 2147483648 % 2 == 1) = !(x / 2147483648 % 2 == 1) := by
    have : x / 2147483648 = 0 ∨ x / 2147483648 = 1 := by omega
    rcases this with h | h <;> rw [h2, h] <;> decide
  unfold Format.read
  simp only [sw32, h1, h3]
  split
  · rfl
  split
  · rfl
  split <;> rfl

/-- How 'read' parts. -/
theorem read32 (x : Nat) : (∃ s m i, single.read x = .number s m i ∧ m < 16777216 ∧ -149 ≤ i ∧ i ≤ 104) ∨ (∃ s, single.read x = .infinity s) ∨ (∃ s t, single.read x = .nan s t) := by
  unfold Format.read
  simp only [sw32, bi32, ir32, lp32]
  split
  · exact .inl ⟨_, _, _, rfl, by omega, by omega, by omega⟩
  split
  · exact .inl ⟨_, _, _, rfl, by omega, by omega, by omega⟩
  split
  · exact .inr (.inl ⟨_, rfl⟩)
  · exact .inr (.inr ⟨_, _, rfl⟩)

theorem cut_zero (neg : Bool) (n : Nat) : Toward.even.cut neg n 0 = n := by
  unfold Toward.cut
  have h1 : 1 <<< min 0 (n.log2 + 2) = 1 := by simp
  have h2 : n % 1 = 0 := Nat.mod_one n
  simp only [h1, h2, Nat.div_one]
  simp

theorem log2_lt24 {m : Nat} (h : m < 16777216) : m.log2 ≤ 23 := by
  by_cases h0 : m = 0
  · subst h0; simp
  · have := (Nat.log2_lt h0 (k := 24)).2 (by omega); omega

theorem shl_log2 {m : Nat} (h : m < 16777216) (h0 : m ≠ 0) : m <<< (52 - m.log2) < 9007199254740992 := by
  have h1 := log2_lt24 h
  have h2 : m < 2 ^ (m.log2 + 1) := (Nat.log2_lt h0).1 (by omega)
  rw [Nat.shiftLeft_eq]
  calc m * 2 ^ (52 - m.log2) < 2 ^ (m.log2 + 1) * 2 ^ (52 - m.log2) := (Nat.mul_lt_mul_right (Nat.two_pow_pos _)).2 h2
    _ = 2 ^ (m.log2 + 1 + (52 - m.log2)) := by rw [← Nat.pow_add]
    _ = 2 ^ 53 := by congr 1; omega
    _ = 9007199254740992 := by decide

/-- float64(x) of a finite float32: the word, below infinity. -/
theorem wide_word (s : Bool) (m : Nat) (i : Int) (h : m < 16777216) (h1 : -149 ≤ i) (h2 : i ≤ 104) :
    ∃ r, double.write (.number s m i) = double.word s r ∧ r < double.infRung := by
  show ∃ r, double.nearest s m i = _ ∧ _
  unfold Format.nearest
  by_cases h0 : m = 0
  · rw [if_pos h0]
    exact ⟨0, rfl, by rw [ir64]; omega⟩
  rw [if_neg h0]
  have hl := log2_lt24 h
  have e1 : max (i + (m.log2 : Int) - ((52 : Nat) : Int)) (-1074) = i + (m.log2 : Int) - 52 := by omega
  refine ⟨_, rfl, ?_⟩
  simp only [show double.fractionBits = 52 from rfl, lp64, e1]
  rw [show (i + (m.log2 : Int) - 52 - i).toNat = 0 from by omega, cut_zero, show (i - (i + (m.log2 : Int) - 52)).toNat = 52 - m.log2 from by omega]
  have := shl_log2 h h0
  rw [bi64, ir64]
  omega

theorem read_word64 (s : Bool) (r : Nat) (h : r < double.infRung) : ∃ m i, double.read (double.word s r) = .number s m i := by
  rw [ir64] at h
  unfold Format.read Format.word
  simp only [sw64, bi64, ir64, lp64]
  cases s
  · simp only [Bool.false_eq_true, if_false]
    have e1 : (r / 9223372036854775808 % 2 == 1) = false := by rw [beq_eq_false_iff_ne]; omega
    have e2 : r % 9223372036854775808 = r := by omega
    rw [e1, e2]
    by_cases hb : r < 4503599627370496
    · rw [if_pos hb]; exact ⟨_, _, rfl⟩
    rw [if_neg hb, if_pos h]
    exact ⟨_, _, rfl⟩
  · simp only [if_true]
    have e1 : ((9223372036854775808 + r) / 9223372036854775808 % 2 == 1) = true := by rw [beq_iff_eq]; omega
    have e2 : (9223372036854775808 + r) % 9223372036854775808 = r := by omega
    rw [e1, e2]
    by_cases hb : r < 4503599627370496
    · rw [if_pos hb]; exact ⟨_, _, rfl⟩
    rw [if_neg hb, if_pos h]
    exact ⟨_, _, rfl⟩

theorem read_inf64 (s : Bool) : double.read (double.write (.infinity s)) = .infinity s := by
  cases s <;> decide

theorem cv_eq (x : Nat) : cv x = match single.read x with
    | .nan _ _ => none
    | .infinity s => some (double.write (.infinity s))
    | .number s m i => some (double.write (.number s m i)) := by
  unfold cv floatToFloatBits
  rw [if_neg (by decide)]
  simp only [FloatKind.decode, FloatKind.encode, FloatKind.format]
  rcases read32 x with ⟨s, m, i, e, h1, h2, h3⟩ | ⟨s, e⟩ | ⟨s, t, e⟩
  · simp only [e]
    obtain ⟨r, hr, hlt⟩ := wide_word s m i h1 h2 h3
    obtain ⟨m', i', e'⟩ := read_word64 s r hlt
    refine if_neg ?_
    show ¬ (double.read (double.write (.number s m i))).isInfinity = true
    rw [hr, e']
    simp [Datum.isInfinity]
  · simp only [e]
  · simp only [e]

/-- The converted word's own reading. -/
theorem cv_read (x : Nat) : (cv x = none ∧ NaN32 x) ∨ (∃ y s, cv x = some y ∧ double.read y = .infinity s ∧ ¬ NaN32 x) ∨ (∃ y s m i, cv x = some y ∧ double.read y = .number s m i ∧ ¬ NaN32 x) := by
  rw [cv_eq]
  unfold NaN32
  rcases read32 x with ⟨s, m, i, e, h1, h2, h3⟩ | ⟨s, e⟩ | ⟨s, t, e⟩
  · simp only [e]
    obtain ⟨r, hr, hlt⟩ := wide_word s m i h1 h2 h3
    obtain ⟨m', i', e'⟩ := read_word64 s r hlt
    exact .inr (.inr ⟨_, _, _, _, rfl, by rw [hr]; exact e', by simp [Datum.isNaN]⟩)
  · simp only [e]
    exact .inr (.inl ⟨_, _, rfl, read_inf64 s, by simp [Datum.isNaN]⟩)
  · simp only [e]
    exact .inl ⟨trivial, by simp [Datum.isNaN]⟩

theorem write_le (m : Nat) (i : Int) : double.write (.number false m i) ≤ double.infRung := by
  show double.nearest false m i ≤ _
  unfold Format.nearest Format.word
  simp only [Bool.false_eq_true, if_false]
  split
  · omega
  · exact Nat.min_le_right _ _
theorem write_inf_le : double.write (.infinity false) ≤ double.infRung := by decide

theorem sq_nn (x : Nat) : nn (sq x) := by
  intro p hp
  unfold sq Format.mul at hp
  rcases cv_read x with ⟨e, _⟩ | ⟨y, s, e, hr, _⟩ | ⟨y, s, m, i, e, hr, _⟩
  · simp [e] at hp
  · simp only [e, Option.bind_some, hr, Datum.product, Option.map_some, Option.some.injEq] at hp
    subst hp; simp only [Bool.xor_self]; exact write_inf_le
  · simp only [e, Option.bind_some, hr, Datum.product, Option.map_some, Option.some.injEq] at hp
    subst hp; simp only [Bool.xor_self]; exact write_le _ _
theorem sq_none (x : Nat) : sq x = none ↔ NaN32 x := by
  unfold sq Format.mul
  rcases cv_read x with ⟨e, h⟩ | ⟨y, s, e, hr, h⟩ | ⟨y, s, m, i, e, hr, h⟩
  · simp [e, h]
  · simp [e, h, hr, Datum.product]
  · simp [e, h, hr, Datum.product]

theorem read_nn (s : Nat) (h : s ≤ double.infRung) : (∃ m i, double.read s = .number false m i ∧ -1074 ≤ i ∧ (m < 4503599627370496 → i = -1074) ∧ m < 9007199254740992 ∧ s < double.infRung ∧ s = (i + 1074).toNat * 4503599627370496 + m) ∨ (double.read s = .infinity false ∧ s = double.infRung) := by
  rw [ir64] at h ⊢
  unfold Format.read
  simp only [sw64, bi64, ir64, lp64]
  have e1 : (s / 9223372036854775808 % 2 == 1) = false := by rw [beq_eq_false_iff_ne]; omega
  have e2 : s % 9223372036854775808 = s := by omega
  rw [e1, e2]
  split
  · exact .inl ⟨_, _, rfl, by omega, by omega, by omega, by omega, by omega⟩
  split
  · refine .inl ⟨_, _, rfl, by omega, by omega, by omega, by omega, ?_⟩
    omega
  rw [if_pos (by omega)]
  exact .inr ⟨rfl, by omega⟩

theorem log2_shl (m k : Nat) (h0 : m ≠ 0) : (m <<< k).log2 = m.log2 + k := by
  have hp := Nat.two_pow_pos k
  have h1 : m <<< k ≠ 0 := by rw [Nat.shiftLeft_eq]; exact Nat.mul_ne_zero h0 (by omega)
  rw [Nat.log2_eq_iff h1]
  have h2 := (Nat.log2_eq_iff h0 (k := m.log2)).1 rfl
  rw [Nat.shiftLeft_eq, Nat.pow_add, show m.log2 + k + 1 = (m.log2 + 1) + k from by omega, Nat.pow_add]
  exact ⟨Nat.mul_le_mul_right _ h2.1, (Nat.mul_lt_mul_right hp).2 h2.2⟩

theorem cut_exact (neg : Bool) (m k : Nat) (h0 : m ≠ 0) : Toward.even.cut neg (m <<< k) k = m := by
  unfold Toward.cut
  have hl := log2_shl m k h0
  have h1 : min k ((m <<< k).log2 + 2) = k := by omega
  have h4 : 0 < 2 ^ k := Nat.two_pow_pos _
  have hg : 1 <<< min k ((m <<< k).log2 + 2) = 2 ^ k := by rw [h1, Nat.shiftLeft_eq, Nat.one_mul]
  have h2 : (m <<< k) % 2 ^ k = 0 := by rw [Nat.shiftLeft_eq]; exact Nat.mul_mod_left _ _
  have h3 : (m <<< k) / 2 ^ k = m := by rw [Nat.shiftLeft_eq]; exact Nat.mul_div_cancel _ h4
  have h5 : (2 ^ k == 2 * 0) = false := by rw [beq_eq_false_iff_ne]; omega
  have h6 : decide (2 ^ k < 2 * 0) = false := by rw [decide_eq_false_iff_not]; omega
  simp only [hg, h2, h3, h5, h6]
  simp

theorem near_exact (m k s : Nat) (h2 : m < 4503599627370496 → k = 0) (h3 : m < 9007199254740992) (h4 : s < 9218868437227405312) (h5 : s = k * 4503599627370496 + m) :
    double.nearest false (m <<< k) (-1074) = s := by
  by_cases h0 : m = 0
  · subst h0
    have : k = 0 := h2 (by omega)
    subst this
    simp at h5
    subst h5
    unfold Format.nearest Format.word
    simp
  · unfold Format.nearest
    have hl := log2_shl m k h0
    have hM : m <<< k ≠ 0 := by rw [Nat.shiftLeft_eq]; exact Nat.mul_ne_zero h0 (by have := Nat.two_pow_pos k; omega)
    rw [if_neg hM]
    simp only [hl, lp64, bi64, show double.fractionBits = 52 from rfl]
    rw [ir64]
    unfold Format.word
    rw [if_neg (by simp)]
    by_cases hm : m < 4503599627370496
    · have hk0 : k = 0 := h2 hm
      subst hk0
      have hlog : m.log2 < 52 := (Nat.log2_lt h0).2 (by omega)
      have e1 : max (-1074 + ((m.log2 + 0 : Nat) : Int) - ((52 : Nat) : Int)) (-1074) = -1074 := by omega
      rw [e1]
      simp only [Int.sub_self, Int.toNat_zero, Nat.shiftLeft_zero, cut_zero]
      omega
    · have hlog1 : m.log2 < 53 := (Nat.log2_lt h0).2 (by omega)
      have hlog2 : 52 ≤ m.log2 := (Nat.le_log2 h0).2 (by omega)
      have e1 : max (-1074 + ((m.log2 + k : Nat) : Int) - ((52 : Nat) : Int)) (-1074) = -1074 + k := by omega
      rw [e1]
      rw [show (-1074 - (-1074 + (k : Int))).toNat = 0 from by omega, show (-1074 + (k : Int) - -1074).toNat = k from by omega, Nat.shiftLeft_zero, cut_exact _ _ _ h0]
      omega

theorem add_zero64 (s : Nat) (h : s ≤ double.infRung) : double.add s 0 = some s := by
  have hz : double.read 0 = .number false 0 (-1074) := by decide
  unfold Format.add
  rw [hz]
  rcases read_nn s h with ⟨m, i, e, h1, h2, h3, h4, h5⟩ | ⟨e, e'⟩
  · rw [e]
    simp only [Datum.sum, Option.map_some, Option.some.injEq]
    have hmin : min i (-1074) = -1074 := by omega
    rw [hmin]
    have ht : signed false m (i - -1074).toNat + signed false 0 (-1074 - -1074 : Int).toNat = ((m <<< (i + 1074).toNat : Nat) : Int) := by
      simp [signed]
    rw [ht]
    have hneg : ∀ a : Nat, (if (a : Int) = 0 then false && false else decide ((a : Int) < 0)) = false := by
      intro a
      split
      · rfl
      · rw [decide_eq_false_iff_not]; omega
    rw [hneg, Int.natAbs_natCast]
    show double.nearest false _ _ = s
    rw [ir64] at h4
    exact near_exact m _ s (fun h => by have := h2 h; omega) h3 h4 h5
  · rw [e, e']
    simp only [Datum.sum, Option.map_some, Format.write, Format.word]
    simp

theorem add_nn (s p : Nat) (hs : s ≤ double.infRung) (hp : p ≤ double.infRung) : ∃ r, double.add s p = some r ∧ r ≤ double.infRung := by
  unfold Format.add
  rcases read_nn s hs with ⟨m, i, e, h1, h2, h3, h4, h5⟩ | ⟨e, _⟩ <;> rcases read_nn p hp with ⟨n, j, e', g1, g2, g3, g4, g5⟩ | ⟨e', _⟩
  · rw [e, e']
    simp only [Datum.sum, Option.map_some, Option.some.injEq, exists_eq_left', signed, Bool.false_eq_true, if_false]
    have hneg : ∀ a b : Nat, (if (a : Int) + (b : Int) = 0 then false && false else decide ((a : Int) + (b : Int) < 0)) = false := by
      intro a b
      split
      · rfl
      · rw [decide_eq_false_iff_not]; omega
    rw [hneg]
    exact write_le _ _
  · rw [e, e']; exact ⟨_, rfl, write_inf_le⟩
  · rw [e, e']; exact ⟨_, rfl, write_inf_le⟩
  · rw [e, e']; exact ⟨_, rfl, write_inf_le⟩

theorem st_nn {acc : Option Nat} (h : nn acc) (x : Nat) : nn (st acc x) := by
  intro r hr
  unfold st at hr
  cases acc with
  | none => simp at hr
  | some s =>
    cases hq : sq x with
    | none => simp [hq] at hr
    | some p =>
      obtain ⟨r', e, hle⟩ := add_nn s p (h s rfl) (sq_nn x p hq)
      simp only [hq, Option.bind_some, e, Option.some.injEq] at hr
      subst hr; exact hle

theorem isZ_iff {x : Nat} (h : x < 4294967296) (hz : isZ x = true) : x = 0 ∨ x = 2147483648 := by
  have hr0 : single.read 0 = .number false 0 (-149) := by decide
  unfold isZ Format.order at hz
  rw [hr0] at hz
  unfold Format.read at hz
  simp only [sw32, bi32, ir32, lp32] at hz
  have sg : ∀ (s : Bool) (m k j : Nat), (some (compare (signed s m k) (signed false 0 j)) == some Ordering.eq) = true → m = 0 := by
    intro s m k j h
    have h' : compare (signed s m k) (signed false 0 j) = Ordering.eq := by simpa using h
    rw [Std.compare_eq_iff_eq] at h'
    have hp := Nat.two_pow_pos k
    have h0 : m * 2 ^ k = 0 := by
      cases s <;> simp only [signed, Nat.shiftLeft_eq, Bool.false_eq_true, if_false, if_true, Nat.zero_mul] at h' <;> omega
    rcases Nat.mul_eq_zero.1 h0 with h0 | h0
    · exact h0
    · omega
  split at hz
  · simp only [Datum.order] at hz
    have := sg _ _ _ _ hz
    omega
  split at hz
  · simp only [Datum.order] at hz
    have := sg _ _ _ _ hz
    omega
  split at hz
  · simp only [Datum.order] at hz
    split at hz <;> simp at hz
  · simp [Datum.order] at hz

theorem sq_zero {x : Nat} (h : x < 4294967296) (hz : isZ x = true) : sq x = some 0 := by
  rcases isZ_iff h hz with rfl | rfl <;> decide

theorem isZ_ng {x : Nat} (h : x < 4294967296) : isZ (ng x) = isZ x := by
  have key : ∀ y, y < 4294967296 → isZ y = true → isZ (ng y) = true := by
    intro y hy hz
    rcases isZ_iff hy hz with rfl | rfl <;> decide
  have inv : ng (ng x) = x := by rw [ng_eq, ng_eq, Nat.xor_assoc, Nat.xor_self, Nat.xor_zero]
  cases hx : isZ x with
  | true => exact key x h hx
  | false =>
    cases hn : isZ (ng x) with
    | false => rfl
    | true => have := key (ng x) (ng_lt x h) hn; rw [inv, hx] at this; exact this.symm

theorem word_sq (s : Bool) (m : Nat) (i : Int) (h : m < 16777216) (h1 : -149 ≤ i) (h2 : i ≤ 104) :
    double.mul (double.write (.number (!s) m i)) (double.write (.number (!s) m i)) = double.mul (double.write (.number s m i)) (double.write (.number s m i)) := by
  have e : ∀ b r, r < double.infRung → ∃ mm ii, double.read (double.word b r) = .number b mm ii ∧ double.read (double.word (!b) r) = .number (!b) mm ii := by
    intro b r hr
    rw [ir64] at hr
    unfold Format.read Format.word
    simp only [sw64, bi64, ir64, lp64]
    have a1 : (r / 9223372036854775808 % 2 == 1) = false := by rw [beq_eq_false_iff_ne]; omega
    have a2 : r % 9223372036854775808 = r := by omega
    have a3 : ((9223372036854775808 + r) / 9223372036854775808 % 2 == 1) = true := by rw [beq_iff_eq]; omega
    have a4 : (9223372036854775808 + r) % 9223372036854775808 = r := by omega
    by_cases hb : r < 4503599627370496
    · cases b <;> simp only [Bool.false_eq_true, if_false, if_true, Bool.not_false, Bool.not_true, a1, a2, a3, a4, if_pos hb] <;> exact ⟨_, _, rfl, rfl⟩
    · cases b <;> simp only [Bool.false_eq_true, if_false, if_true, Bool.not_false, Bool.not_true, a1, a2, a3, a4, if_neg hb, if_pos hr] <;> exact ⟨_, _, rfl, rfl⟩
  have hw : ∃ r, r < double.infRung ∧ ∀ b, double.write (.number b m i) = double.word b r := by
    show ∃ r, r < double.infRung ∧ ∀ b, double.nearest b m i = double.word b r
    by_cases h0 : m = 0
    · exact ⟨0, by rw [ir64]; omega, fun b => by unfold Format.nearest; rw [if_pos h0]⟩
    · have hl := log2_lt24 h
      have e1 : max (i + (m.log2 : Int) - ((52 : Nat) : Int)) (-1074) = i + (m.log2 : Int) - 52 := by omega
      have := shl_log2 h h0
      refine ⟨min ((i + (m.log2 : Int) - 52 + 1074).toNat * 4503599627370496 + m <<< (52 - m.log2)) 9218868437227405312, by rw [ir64]; omega, fun b => ?_⟩
      unfold Format.nearest
      rw [if_neg h0]
      simp only [show double.fractionBits = 52 from rfl, lp64, e1]
      rw [show (i + (m.log2 : Int) - 52 - i).toNat = 0 from by omega, cut_zero, show (i - (i + (m.log2 : Int) - 52)).toNat = 52 - m.log2 from by omega, bi64, ir64]
      rw [show i + (m.log2 : Int) - 52 - -1074 = i + (m.log2 : Int) - 52 + 1074 from by omega]
  obtain ⟨r, hr, hb⟩ := hw
  obtain ⟨mm, ii, r1, r2⟩ := e s r hr
  unfold Format.mul
  rw [hb, hb, r1, r2]
  simp [Datum.product]

theorem sq_ng {x : Nat} (h : x < 4294967296) : sq (ng x) = sq x := by
  unfold sq
  rw [cv_eq, cv_eq, read_ng x h]
  rcases read32 x with ⟨s, m, i, e, h1, h2, h3⟩ | ⟨s, e⟩ | ⟨s, t, e⟩
  · simp only [e, Datum.opposite, Option.bind_some]
    exact word_sq s m i h1 h2 h3
  · simp only [e, Datum.opposite, Option.bind_some]
    cases s <;> decide
  · simp only [e, Datum.opposite]

/-- 'x == x' unless x is a NaN. -/
theorem order_refl (d : Datum) : d.order d = (if d.isNaN then none else some .eq) := by
  cases d with
  | number s m i => simp [Datum.order, Datum.isNaN]
  | infinity s => simp [Datum.order, Datum.isNaN]
  | nan s t => simp [Datum.order, Datum.isNaN]
theorem order_nan (d c : Datum) (h : d.isNaN = true) : d.order c = none ∧ c.order d = none := by
  cases d <;> simp [Datum.isNaN] at h
  cases c <;> simp [Datum.order]

/-- The in-order sum of the squares. -/
def norm (xs : List Nat) : Option Nat := xs.foldl st (some 0)
/-- Those that are not 0. -/
def nz (xs : List Nat) : List Nat := xs.filter fun x => !isZ x

theorem st_zero {acc : Option Nat} (h : nn acc) {x : Nat} (hx : x < 4294967296) (hz : isZ x = true) : st acc x = acc := by
  unfold st
  rw [sq_zero hx hz]
  cases acc with
  | none => rfl
  | some s => simp only [Option.bind_some]; exact add_zero64 s (h s rfl)

theorem fold_nz (xs : List Nat) (hx : ∀ x ∈ xs, x < 4294967296) (acc : Option Nat) (h : nn acc) : xs.foldl st acc = (nz xs).foldl st acc := by
  induction xs generalizing acc with
  | nil => rfl
  | cons x xs ih =>
    have ih' := fun a ha => ih (fun y hy => hx y (List.mem_cons_of_mem _ hy)) a ha
    unfold nz at *
    rw [List.foldl_cons, List.filter_cons]
    cases hz : isZ x with
    | true =>
      rw [st_zero h (hx x (List.mem_cons_self)) hz, ih' acc h]
      simp
    | false =>
      rw [ih' _ (st_nn h x)]
      simp
theorem nn_zero : nn (some 0) := fun s hs => by cases hs; exact Nat.zero_le _
theorem norm_nz (xs : List Nat) (hx : ∀ x ∈ xs, x < 4294967296) : norm (nz xs) = norm xs := (fold_nz xs hx _ nn_zero).symm

theorem nz_ng (xs : List Nat) (hx : ∀ x ∈ xs, x < 4294967296) : nz (xs.map ng) = (nz xs).map ng := by
  unfold nz
  induction xs with
  | nil => rfl
  | cons x xs ih =>
    rw [List.map_cons, List.filter_cons, List.filter_cons, isZ_ng (hx x List.mem_cons_self), ih (fun y hy => hx y (List.mem_cons_of_mem _ hy))]
    cases isZ x <;> simp
theorem fold_ng (xs : List Nat) (hx : ∀ x ∈ xs, x < 4294967296) (acc : Option Nat) : (xs.map ng).foldl st acc = xs.foldl st acc := by
  induction xs generalizing acc with
  | nil => rfl
  | cons x xs ih =>
    rw [List.map_cons, List.foldl_cons, List.foldl_cons, ih (fun y hy => hx y (List.mem_cons_of_mem _ hy))]
    unfold st
    rw [sq_ng (hx x List.mem_cons_self)]
theorem norm_ng (xs : List Nat) (hx : ∀ x ∈ xs, x < 4294967296) : norm (xs.map ng) = norm xs := fold_ng xs hx _

end Go.Proofs.Qxb6628473a
