import Derived.Test.Qxb6628473aPlain1
import Derived.Deep.RegionHeld
namespace Go.Proofs.Qxb6628473a
open Ieee Go.RowKit
attribute [local go_sem] run_store_float drewN_setCell run_neg32
set_option maxHeartbeats 1000000 in
set_option maxRecDepth 100000 in
theorem walk1_long (a b : Option Addr) (la ca lb cb : Nat) (w : World) (hl : 65536 < la ∨ 65536 < lb) (ha : la ≤ maxLen) (hb : lb ≤ maxLen) :
    Calls Try.prog 3 #[.slice a la ca, .slice b lb cb] w fun e w' => e = .returned (.bool true) ∧ Below w.heap.size w w' := by
  unfold maxLen at ha hb
  by_cases h1 : 1048576 < la
  · go_enter Try.func3, Try.ntmps3
    go_wp2
    go_ret
    exact ⟨rfl, Below.refl _ _⟩
  by_cases h2 : 1048576 < lb
  · go_enter Try.func3, Try.ntmps3
    go_wp2
    all_goals
      go_ret
      exact ⟨rfl, Below.refl _ _⟩
  by_cases h3 : 1048576 < la + lb
  · go_enter Try.func3, Try.ntmps3
    go_wp2
    all_goals
      go_ret
      exact ⟨rfl, Below.refl _ _⟩
  by_cases h4 : 65536 < la
  · go_enter Try.func3, Try.ntmps3
    go_wp2
    all_goals
      go_ret
      exact ⟨rfl, Below.refl _ _⟩
  · have h5 : 65536 < lb := by omega
    go_enter Try.func3, Try.ntmps3
    go_wp2
    all_goals
      go_ret
      exact ⟨rfl, Below.refl _ _⟩

theorem run_add_none {P : Program} (w : World) (t : TypeId) (u v : Nat) (h : double.add u v = none) : (binOp .add t (.float .f64 u) (.float .f64 v)).run P w = .ok (.float .f64 (nanB w u v)) w.drew := by
  have ho : FloatKind.f64.format.add u v = none := h
  simp [binOp, Op.floatArith, ho, Question.forced]
  rfl
theorem st_some {acc : Option Nat} {x v p r : Nat} (hv : Is64 acc v) (hq : sq x = some p) (ha : double.add v p = some r) : st acc x = some r := by
  cases acc with
  | none =>
    have : double.add v p = none := by
      have h : NaN64 v := hv
      unfold NaN64 at h; unfold Format.add
      cases hr : double.read v <;> simp [hr, Datum.isNaN] at h
      simp [Datum.sum]
    rw [this] at ha; cases ha
  | some s =>
    obtain rfl : v = s := hv
    unfold st; simp only [Option.bind_some, hq]; exact ha
theorem st_none {acc : Option Nat} {x v p : Nat} (hv : Is64 acc v) (hq : sq x = some p) (ha : double.add v p = none) : st acc x = none := by
  cases acc with
  | none => rfl
  | some s =>
    obtain rfl : v = s := hv
    unfold st; simp only [Option.bind_some, hq]; exact ha
theorem st_nan (acc : Option Nat) {x : Nat} (h : NaN32 x) : st acc x = none := by
  unfold st; rw [(sq_none x).2 h]; cases acc <;> rfl
theorem nan_of_cv {x : Nat} (h : cv x = none) : NaN32 x := by
  rcases cv_read x with ⟨_, h'⟩ | ⟨y, s, h', _⟩ | ⟨y, s, m, i, h', _⟩
  · exact h'
  · rw [h] at h'; cases h'
  · rw [h] at h'; cases h'
theorem sq_of_cv {x y : Nat} (h : cv x = some y) : ∃ p, sq x = some p ∧ double.mul y y = some p := by
  have hne : sq x ≠ none := by
    intro hq
    have hn := (sq_none x).1 hq
    rcases cv_read x with ⟨h', _⟩ | ⟨_, _, _, _, h'⟩ | ⟨_, _, _, _, _, _, h'⟩
    · rw [h] at h'; cases h'
    · exact h' hn
    · exact h' hn
  cases hq : sq x with
  | none => exact absurd hq hne
  | some p => exact ⟨p, rfl, by unfold sq at hq; simpa [h] using hq⟩
/-- What the checks of the first law read. -/
structure Seen1 (w W : World) (xs ys : List Nat) (g : Nat) (fa wa fb wb fc wc : Option Addr) (fac wac fbc wbc fcc wcc na nb nc ba bb bc : Nat) : Prop where
  ownc : ∃ b, W.ownsRow b 24 1 (.slice (some ⟨g, 0, none⟩) (xs.length + ys.length) (xs.length + ys.length)) (xs.length + ys.length) (f32s (xs ++ ys))
  ownfa : ∃ b, W.ownsRow b 33 1 (.slice fa (nz xs).length fac) (nz xs).length (u32s (fts xs xs.length))
  ownwa : ∃ b, W.ownsRow b 24 1 (.slice wa (nz xs).length wac) (nz xs).length (f32s (nz xs))
  ownfb : ∃ b, W.ownsRow b 33 1 (.slice fb (nz ys).length fbc) (nz ys).length (u32s (fts ys ys.length))
  ownwb : ∃ b, W.ownsRow b 24 1 (.slice wb (nz ys).length wbc) (nz ys).length (f32s (nz ys))
  ownfc : ∃ b, W.ownsRow b 33 1 (.slice fc ((nz xs).length + (nz ys).length) fcc) ((nz xs).length + (nz ys).length) (u32s (fts (xs ++ ys) (xs.length + ys.length)))
  ownwc : ∃ b, W.ownsRow b 24 1 (.slice wc ((nz xs).length + (nz ys).length) wcc) ((nz xs).length + (nz ys).length) (f32s (nz (xs ++ ys)))
  bel : Below w.heap.size w W
  sa : StructAt W ba (.slice fa (nz xs).length fac) (.slice wa (nz xs).length wac) (.int .i64 xs.length) (.float .f64 na)
  sc : StructAt W bc (.slice fc ((nz xs).length + (nz ys).length) fcc) (.slice wc ((nz xs).length + (nz ys).length) wcc) (.int .i64 (xs.length + ys.length : Nat)) (.float .f64 nc)
theorem below9 (w : World) (o1 o2 o3 o4 o5 o6 o7 o8 o9 : Obj) : Below w.heap.size w (((((((((w.alloc o1).alloc o2).alloc o3).alloc o4).alloc o5).alloc o6).alloc o7).alloc o8).alloc o9) := by
  have h := below6 w o1 o2 o3 o4 o5 o6
  have h7 := h.alloc h.size o7
  have h8 := h7.alloc h7.size o8
  exact h8.alloc h8.size o9
set_option maxHeartbeats 4000000 in
set_option maxRecDepth 100000 in
theorem walk1_main (a b : Option Addr) (la ca lb cb : Nat) (xs ys : List Nat) (w : World) (hla : la ≤ 65536) (hlb : lb ≤ 65536) (hx : IsRow w a la ca xs) (hy : IsRow w b lb cb ys) :
    Calls Try.prog 3 #[.slice a la ca, .slice b lb cb] w fun e w' => e = .returned (.bool true) ∧ Below w.heap.size w w' := by
  obtain ⟨i24, ji, jz0, jz1, jz2⟩ := info_parts Try.info24
  have hx32 : ∀ x ∈ xs, x < 4294967296 := by
    rcases hx with ⟨_, _, _, rfl⟩ | ⟨_, _, _, _, _, _, h⟩
    · intro x hx; simp at hx
    · exact h
  have hy32 : ∀ x ∈ ys, x < 4294967296 := by
    rcases hy with ⟨_, _, _, rfl⟩ | ⟨_, _, _, _, _, _, h⟩
    · intro x hx; simp at hx
    · exact h
  go_enter Try.func3, Try.ntmps3
  go_upto_if 40 with go_in
  go_cut [0] from 29 to 47 (fun v wx => ∃ a' c', v = .slice a' la c' ∧ wx.ownsRow w.heap.size 24 1 (.slice a' la c') la (f32s xs) ∧ Below w.heap.size w wx)
  case first =>
    rcases hx with ⟨rfl, h1, h2, h3⟩ | ⟨x, rfl, h1, h2, h3, h4, h5⟩
    · have hnil : Hid (w.ownsRow w.heap.size 24 1 (.slice none la ca) la (f32s xs)) := by
        subst h1 h2 h3; exact World.ownsRow_nil _ _ _ _
      clear h1 h2 h3
      go_wp2
      go_meet
      case rel => exact ⟨none, ca, rfl, hnil, Below.refl _ _⟩
    · have hcs : ∀ j v, (f32s xs)[j]? = some v → w.cell? (x.add j) = some v := fun j v hj => by
        have hj' : j < xs.length := by have := (List.getElem?_eq_some_iff.1 hj).1; simpa [f32s] using this
        rw [h4 j hj']; simpa [f32s, hj'] using hj
      clear h4
      go_wp2_with (first
        | (at_make; refine wpList_make_full _ rfl (.tmp 42) (.tmp 42) 22 rfl w.heap.size 24 i24 (.float .f32 0) 1 Try.underlying22 ji jz0 jz1 .i64 .i64 _ _ la rfl rfl rfl rfl (by rw [jz2]; omega) (by unfold maxLen; omega) (Nat.le_refl _) ?_; intro w1 ho1 hg1)
        | (refine wpList_copy_full rfl (.tmp 44) (.tmp 45) 22 22 rfl 24 Try.underlying22 (by rw [ji]; simp [jz1]) w.heap.size w.heap.size la x ca rfl rfl _ ho1 (f32s xs) (by simp [f32s, h3]) (fun j v hj => hg1.cell (hcs j v hj) (by simp)) (f32s_one xs) ?_; intro w2 ho2 hg2))
      go_meet
      case rel => exact ⟨_, _, rfl, ho2, (Below.grown (Below.refl _ _) hg1 (Nat.le_refl _) (by simp)).grown hg2 hg1.size (by simp)⟩
  case rest =>
    obtain ⟨a', c', rfl, hown, hbel⟩ := hcut
    have hy' := isRow_below hy hbel
    clear hx hy
    go_upto_if 49 with fail
    go_cut [1] from 48 to 56 (fun v wx => ∃ b' d', v = .slice b' lb d' ∧ wx.ownsRow w.heap.size 24 1 (.slice b' lb d') lb (f32s ys) ∧ wx.ownsRow w.heap.size 24 1 (.slice a' la c') la (f32s xs) ∧ Below w.heap.size w wx)
    case first =>
      rcases hy' with ⟨rfl, h1, h2, h3⟩ | ⟨x, rfl, h1, h2, h3, h4, h5⟩
      · have hnil : Hid (wc.ownsRow w.heap.size 24 1 (.slice none lb cb) lb (f32s ys)) := by
          subst h1 h2 h3; exact World.ownsRow_nil _ _ _ _
        clear h1 h2 h3
        go_wp2
        go_meet
        case rel => exact ⟨none, cb, rfl, hnil, hown, hbel⟩
      · have hcs : ∀ j v, (f32s ys)[j]? = some v → wc.cell? (x.add j) = some v := fun j v hj => by
          have hj' : j < ys.length := by have := (List.getElem?_eq_some_iff.1 hj).1; simpa [f32s] using this
          rw [h4 j hj']; simpa [f32s, hj'] using hj
        clear h4
        go_wp2_with (first
          | (at_make; refine wpList_make_full _ rfl (.tmp 51) (.tmp 51) 22 rfl wc.heap.size 24 i24 (.float .f32 0) 1 Try.underlying22 ji jz0 jz1 .i64 .i64 _ _ lb rfl rfl rfl rfl (by rw [jz2]; omega) (by unfold maxLen; omega) (Nat.le_refl _) ?_; intro w1 ho1 hg1)
          | (refine wpList_copy_full rfl (.tmp 53) (.tmp 54) 22 22 rfl 24 Try.underlying22 (by rw [ji]; simp [jz1]) wc.heap.size wc.heap.size lb x cb rfl rfl _ ho1 (f32s ys) (by simp [f32s, h3]) (fun j v hj => hg1.cell (hcs j v hj) (by simp)) (f32s_one ys) ?_; intro w2 ho2 hg2))
        have hbb : Below wc.heap.size wc w2 := (Below.grown (Below.refl _ _) hg1 (Nat.le_refl _) (by simp)).grown hg2 hg1.size (by simp)
        go_meet
        case rel => exact ⟨_, _, rfl, own_base ho2 hbel.size, own_below hown hbb, hbel.trans (hbb.mono hbel.size)⟩
    case rest =>
      clear hown hbel hy'
      obtain ⟨b', d', rfl, hob, hoa, hbel⟩ := hcut
      have hxl : xs.length = la := by simpa [f32s] using hoa.1
      have hyl : ys.length = lb := by simpa [f32s] using hob.1
      subst hxl hyl
      go_wp2_with (at_make; refine wpList_make_full _ rfl (.tmp 62) (.tmp 62) 22 rfl wc.heap.size 24 i24 (.float .f32 0) 1 Try.underlying22 ji jz0 jz1 .i64 .i64 _ _ (xs.length + ys.length) rfl rfl (by omega) (by omega) (by rw [jz2]; omega) (by unfold maxLen; omega) (Nat.le_refl _) ?_; intro w1 ho1 hg1)
      have hb1 : Below wc.heap.size wc w1 := Below.grown (Below.refl _ _) hg1 (Nat.le_refl _) (by simp)
      have ho1' : w1.ownsRow wc.heap.size 24 1 (.slice (some ⟨wc.heap.size, 0, none⟩) (xs.length + ys.length) (xs.length + ys.length)) (xs.length + ys.length) (part (xs ++ ys) 0) := by
        rw [part_zero, List.length_append]
        simpa [Value.cells, toList_madeCells_one] using ho1
      clear ho1 hg1
      go_loopw [9] (fun i wr => ∃ k : Nat, k ≤ xs.length ∧ i = .int .i64 k ∧ wr.ownsRow wc.heap.size 24 1 (.slice (some ⟨wc.heap.size, 0, none⟩) (xs.length + ys.length) (xs.length + ys.length)) (xs.length + ys.length) (part (xs ++ ys) k) ∧ Below wc.heap.size wc wr) (fun i _ => xs.length - (intOf i).toNat)
      case atStart => exact ⟨0, Nat.zero_le _, rfl, ho1', hb1⟩
      case round =>
        obtain ⟨k, hk, rfl, ho, hb⟩ := hrel
        clear ho1' hb1
        by_cases hlt : k < xs.length
        · obtain ⟨g, rfl, hc0⟩ := own_at (own_below hoa hb) hlt
          have hc : wr.cell? ⟨g, k, none⟩ = some (.float .f32 (xs.getD k 0)) := hc0 _ (f32s_at xs k hlt)
          have hc2 : wr.cell? ⟨wc.heap.size, k, none⟩ = some (.float .f32 0) := own_cell ho k _ (part_at _ k (by rw [List.length_append]; omega))
          have hfz : wr.frozen? ⟨wc.heap.size, k, none⟩ = false := ho.frozenAt k
          have hst := (ho.stored k (.float .f32 (xs.getD k 0))).1
          have hst2 : Hid ((part (xs ++ ys) k).set k (.float .f32 (xs.getD k 0)) = part (xs ++ ys) (k + 1)) := by
            have := part_set (xs ++ ys) k (by rw [List.length_append]; omega)
            rw [show (xs ++ ys).getD k 0 = xs.getD k 0 by simp [List.getElem?_append_left hlt]] at this; exact this
          clear ho hc0
          have hltn : k < xs.length + ys.length := by omega
          generalize xs.getD k 0 = x at *
          go_wp2_with fail
          go_roundw
          case rel => exact ⟨k + 1, hlt, by go_num, by rw [← hst2.out]; exact hst, hb.setCell (Nat.le_refl _) _⟩
          case measure => simp [intOf]; omega
        · obtain rfl : k = xs.length := by omega
          go_wp2_with fail
          go_loopw [10] (fun i wr => ∃ k : Nat, k ≤ ys.length ∧ i = .int .i64 k ∧ wr.ownsRow wc.heap.size 24 1 (.slice (some ⟨wc.heap.size, 0, none⟩) (xs.length + ys.length) (xs.length + ys.length)) (xs.length + ys.length) (part (xs ++ ys) (xs.length + k)) ∧ Below wc.heap.size wc wr) (fun i _ => ys.length - (intOf i).toNat)
          case atStart => exact ⟨0, Nat.zero_le _, rfl, ho, hb⟩
          case round =>
            clear ho hb
            obtain ⟨k, hk, rfl, ho, hb⟩ := hrel
            by_cases hlt : k < ys.length
            · obtain ⟨g, rfl, hc0⟩ := own_at (own_below hob hb) hlt
              have hc : wr.cell? ⟨g, k, none⟩ = some (.float .f32 (ys.getD k 0)) := hc0 _ (f32s_at ys k hlt)
              have hc2 : wr.cell? ⟨wc.heap.size, xs.length + k, none⟩ = some (.float .f32 0) := own_cell ho (xs.length + k) _ (part_at _ _ (by rw [List.length_append]; omega))
              have hfz : wr.frozen? ⟨wc.heap.size, xs.length + k, none⟩ = false := ho.frozenAt _
              have hst := (ho.stored (xs.length + k) (.float .f32 (ys.getD k 0))).1
              have hst2 : Hid ((part (xs ++ ys) (xs.length + k)).set (xs.length + k) (.float .f32 (ys.getD k 0)) = part (xs ++ ys) (xs.length + (k + 1))) := by
                have := part_set (xs ++ ys) (xs.length + k) (by rw [List.length_append]; omega)
                rw [show (xs ++ ys).getD (xs.length + k) 0 = ys.getD k 0 by simp [List.getElem?_append_right]] at this; exact this
              clear ho hc0
              have hltn : xs.length + k < xs.length + ys.length := by omega
              generalize ys.getD k 0 = x at *
              go_wp2_with fail
              go_roundw
              case rel => exact ⟨k + 1, hlt, by go_num, by rw [← hst2.out]; exact hst, hb.setCell (Nat.le_refl _) _⟩
              case measure => simp [intOf]; omega
            · obtain rfl : k = ys.length := by omega
              have hva := own_below hoa hb
              have hvb := own_below hob hb
              have hvc : wr.ownsRow wc.heap.size 24 1 (.slice (some ⟨wc.heap.size, 0, none⟩) (xs.length + ys.length) (xs.length + ys.length)) (xs.length + ys.length) (f32s (xs ++ ys)) := by
                have := part_all (xs ++ ys)
                rw [List.length_append] at this
                rw [← this]; exact ho
              have hB := hbel.trans (hb.mono hbel.size)
              clear ho hb hoa hob hbel
              have hma : (nz xs).length ≤ xs.length := by have := nz_le xs xs.length; rwa [List.take_length] at this
              have hmb : (nz ys).length ≤ ys.length := by have := nz_le ys ys.length; rwa [List.take_length] at this
              have hmc : (nz (xs ++ ys)).length = (nz xs).length + (nz ys).length := by rw [nz_app, List.length_append]
              have HC := show Hid ((nz (xs ++ ys)).length = (nz xs).length + (nz ys).length) from hmc
              clear hmc
              go_wp2_with fail
              refine (fromN a' c' xs xs.length (nz xs).length _ _ rfl rfl hva (by omega)).mono ?_
              rintro e w2 ⟨fa, fac, wa, wac, na, rfl, hna, hfa, hwa, hb2⟩
              have hvb2 := own_below hvb hb2
              have hvc2 := own_below hvc hb2
              have hB2 := hB.trans (hb2.mono hB.size)
              clear hva hvb hvc hB hb2
              go_wp2_with fail
              refine (fromN b' d' ys ys.length (nz ys).length _ _ rfl rfl (hvb2.alloc _) (by omega)).mono ?_
              rintro e w3 ⟨fb, fbc, wb, wbc, nb, rfl, hnb, hfb, hwb, hb3⟩
              have hvc3 := own_below (hvc2.alloc _) hb3
              have hfa3 := own_below (hfa.alloc _) hb3
              have hwa3 := own_below (hwa.alloc _) hb3
              have hB3 := (hB2.alloc hB2.size _).trans (hb3.mono (by have := hB2.size; simp; omega))
              have hsa3 := struct_below struct_new hb3
              clear hvb2 hvc2 hfa hwa hB2 hb3
              go_wp2_with fail
              refine (fromN _ _ (xs ++ ys) (xs.length + ys.length) ((nz xs).length + (nz ys).length) _ _ (by simp) HC.out (hvc3.alloc _) (by omega)).mono ?_
              rintro e w4 ⟨fc, fcc, wc', wcc, nc, rfl, hnc, hfc, hwc, hb4⟩
              have hvc4 := own_below (hvc3.alloc _) hb4
              have hfa4 := own_below (hfa3.alloc _) hb4
              have hwa4 := own_below (hwa3.alloc _) hb4
              have hfb4 := own_below (hfb.alloc _) hb4
              have hwb4 := own_below (hwb.alloc _) hb4
              have hB4 := (hB3.alloc hB3.size _).trans (hb4.mono (by have := hB3.size; simp; omega))
              have hsa4 := struct_below (struct_below hsa3 ((Below.refl _ _).alloc (Nat.le_refl _) _)) hb4
              have hsb4 := struct_below struct_new hb4
              clear hvc3 hfa3 hwa3 hfb hwb hB3 hb4 hsa3
              obtain ⟨s0, s1, s2, s3, s4⟩ := id hsa4
              obtain ⟨t0, t1, t2, t3, t4⟩ := id hsb4
              generalize w2.heap.size = ba at *
              generalize w3.heap.size = bb at *
              have y1 : ba < w4.heap.size + 1 := by omega
              have z1 : bb < w4.heap.size + 1 := by omega
              have y2 : ba < w4.heap.size + 1 + 1 := by omega
              have z2 : bb < w4.heap.size + 1 + 1 := by omega
              have y3 : ba < w4.heap.size + 1 + 1 + 1 := by omega
              have z3 : bb < w4.heap.size + 1 + 1 + 1 := by omega
              have y4 : ba < w4.heap.size + 1 + 1 + 1 + 1 := by omega
              have z4 : bb < w4.heap.size + 1 + 1 + 1 + 1 := by omega
              have y5 : ba < w4.heap.size + 1 + 1 + 1 + 1 + 1 := by omega
              have z5 : bb < w4.heap.size + 1 + 1 + 1 + 1 + 1 := by omega
              have y6 : ba < w4.heap.size + 1 + 1 + 1 + 1 + 1 + 1 := by omega
              have z6 : bb < w4.heap.size + 1 + 1 + 1 + 1 + 1 + 1 := by omega
              have y7 : ba < w4.heap.size + 1 + 1 + 1 + 1 + 1 + 1 + 1 := by omega
              have z7 : bb < w4.heap.size + 1 + 1 + 1 + 1 + 1 + 1 + 1 := by omega
              go_wp2_with (first
                | (go_at_call 7; refine (zz7 _ _ _ _ _ _ _ _ _).mono ?_; rintro e w' ⟨rfl, rfl⟩)
                | (go_at_call 8; refine (zz8 _ _ _ _ _ _ _ _ _).mono ?_; rintro e w' ⟨rfl, rfl⟩)
                | (go_at_call 9; refine (zz9 _ _ _ _ _ _ _ _ _).mono ?_; rintro e w' ⟨rfl, rfl⟩))
              refine wp_world (R := fun W => Seen1 w W xs ys wc.heap.size fa wa fb wb fc wc' fac wac fbc wbc fcc wcc na nb nc ba bb w4.heap.size) ?_ ?_
              · have hb := below9 (w4.alloc (.cells #[.slice fc ((nz xs).length + (nz ys).length) fcc, .slice wc' ((nz xs).length + (nz ys).length) wcc, .int .i64 (xs.length + ys.length : Nat), .float .f64 nc] 28))
                exact ⟨⟨_, own_below (hvc4.alloc _) (hb _ _ _ _ _ _ _ _ _)⟩, ⟨_, own_below (hfa4.alloc _) (hb _ _ _ _ _ _ _ _ _)⟩, ⟨_, own_below (hwa4.alloc _) (hb _ _ _ _ _ _ _ _ _)⟩, ⟨_, own_below (hfb4.alloc _) (hb _ _ _ _ _ _ _ _ _)⟩, ⟨_, own_below (hwb4.alloc _) (hb _ _ _ _ _ _ _ _ _)⟩, ⟨_, own_below (hfc.alloc _) (hb _ _ _ _ _ _ _ _ _)⟩, ⟨_, own_below (hwc.alloc _) (hb _ _ _ _ _ _ _ _ _)⟩,
                  (hB4.alloc hB4.size _).trans ((hb _ _ _ _ _ _ _ _ _).mono (Nat.le_trans hB4.size (by simp))), struct_below (struct_below hsa4 ((Below.refl _ _).alloc (Nat.le_refl _) _)) (hb _ _ _ _ _ _ _ _ _), struct_below struct_new (hb _ _ _ _ _ _ _ _ _)⟩
              · intro W hW
                clear hvc4 hfa4 hwa4 hfb4 hwb4 hfc hwc hB4 hsa4 hsb4 s0 s1 s2 s3 s4 t0 t1 t2 t3 t4 y1 y2 y3 y4 y5 y6 y7 z1 z2 z3 z4 z5 z6 z7
                obtain ⟨_, hofa⟩ := hW.ownfa
                obtain ⟨_, howa⟩ := hW.ownwa
                obtain ⟨_, hofb⟩ := hW.ownfb
                obtain ⟨_, howb⟩ := hW.ownwb
                obtain ⟨_, hofc⟩ := hW.ownfc
                obtain ⟨_, howc⟩ := hW.ownwc
                obtain ⟨_, hoc⟩ := hW.ownc
                generalize w4.heap.size = bc at *
                go_loopw [20] (fun j wr => ∃ k n : Nat, k ≤ (nz xs).length ∧ j = .int .i64 k ∧ wr = W.drewN n) (fun j _ => (nz xs).length - (intOf j).toNat)
                case atStart => exact ⟨0, 0, Nat.zero_le _, rfl, rfl⟩
                case round =>
                  obtain ⟨k, n, hk, rfl, rfl⟩ := hrel
                  by_cases hlt : k < (nz xs).length
                  · have hkf : k < (fts xs xs.length).length := by rw [fts_all]; exact hlt
                    have hltc : k < (nz xs).length + (nz ys).length := by omega
                    obtain ⟨g1, rfl, hc1⟩ := own_at hofa hlt
                    obtain ⟨g2, rfl, hc2⟩ := own_at hofc hltc
                    obtain ⟨g3, rfl, hc3⟩ := own_at howa hlt
                    obtain ⟨g4, rfl, hc4⟩ := own_at howc hltc
                    have d1 := hc1 _ (u32s_at _ k hkf)
                    have d2 := hc2 _ (u32s_at _ k (by rw [show (fts (xs ++ ys) (xs.length + ys.length)).length = (nz (xs ++ ys)).length by rw [← List.length_append, fts_all], HC.out]; exact hltc))
                    have d3 := hc3 _ (f32s_at _ k hlt)
                    have d4 := hc4 _ (f32s_at _ k (by rw [HC.out]; exact hltc))
                    rw [fts_app_l xs ys k hlt] at d2
                    rw [nz_app_l xs ys k hlt] at d4
                    have hfl := fts_lt xs xs.length k hkf
                    clear hc1 hc2 hc3 hc4 hofa howa hofb howb hofc howc hoc hkf
                    generalize (fts xs xs.length).getD k 0 = f at *
                    generalize (nz xs).getD k 0 = y at *
                    go_wp2_with fail
                    go_quiet (fail)
                    go_wp2_with fail
                    go_quiet ((go_at_call 10; exact (same32 _ _).mono fun e w' h => ⟨h.1, _, h.2⟩))
                    go_wp2_with fail
                    go_roundw
                    case rel => exact ⟨k + 1, _, hlt, by go_num, rfl⟩
                    case measure => simp [intOf]; omega
                  · obtain rfl : k = (nz xs).length := by omega
                    go_wp2_with fail
                    go_loopw [21] (fun j wr => ∃ k n : Nat, k ≤ (nz ys).length ∧ j = .int .i64 k ∧ wr = W.drewN n) (fun j _ => (nz ys).length - (intOf j).toNat)
                    case atStart => exact ⟨0, n, Nat.zero_le _, rfl, rfl⟩
                    case round =>
                      obtain ⟨k, n, hk, rfl, rfl⟩ := hrel
                      by_cases hlt : k < (nz ys).length
                      · have hkf : k < (fts ys ys.length).length := by rw [fts_all]; exact hlt
                        have hltc : (nz xs).length + k < (nz xs).length + (nz ys).length := by omega
                        obtain ⟨g1, rfl, hc1⟩ := own_at hofb hlt
                        obtain ⟨g2, rfl, hc2⟩ := own_at hofc hltc
                        obtain ⟨g3, rfl, hc3⟩ := own_at howb hlt
                        obtain ⟨g4, rfl, hc4⟩ := own_at howc hltc
                        have d1 := hc1 _ (u32s_at _ k hkf)
                        have d2 := hc2 _ (u32s_at _ _ (by rw [show (fts (xs ++ ys) (xs.length + ys.length)).length = (nz (xs ++ ys)).length by rw [← List.length_append, fts_all], HC.out]; exact hltc))
                        have d3 := hc3 _ (f32s_at _ k hlt)
                        have d4 := hc4 _ (f32s_at _ _ (by rw [HC.out]; exact hltc))
                        rw [fts_app_r xs ys k hlt, Int.natCast_add] at d2
                        rw [nz_app_r xs ys k] at d4
                        have hfl := fts_lt ys ys.length k hkf
                        clear hc1 hc2 hc3 hc4 hofa howa hofb howb hofc howc hoc hkf
                        generalize (fts ys ys.length).getD k 0 = f at *
                        generalize (nz ys).getD k 0 = y at *
                        go_wp2_with fail
                        go_quiet (fail)
                        go_wp2_with fail
                        go_quiet ((go_at_call 10; exact (same32 _ _).mono fun e w' h => ⟨h.1, _, h.2⟩))
                        go_wp2_with fail
                        go_roundw
                        case rel => exact ⟨k + 1, _, hlt, by go_num, rfl⟩
                        case measure => simp [intOf]; omega
                      · obtain rfl : k = (nz ys).length := by omega
                        clear hofa howa hofb
                        have hnl : (xs ++ ys).length = xs.length + ys.length := List.length_append
                        have HN := show Hid ((xs ++ ys).length = xs.length + ys.length) from hnl
                        have hz32 : ∀ x ∈ xs ++ ys, x < 4294967296 := fun x hx => by
                          rcases List.mem_append.1 hx with h | h
                          · exact hx32 x h
                          · exact hy32 x h
                        clear hnl
                        go_wp2_with fail
                        go_loopw [22, 23] (fun c i wr => ∃ k : Nat, k ≤ xs.length + ys.length ∧ i = .int .i64 k ∧ c = .int .i64 ((fts (xs ++ ys) k).length : Nat) ∧ wr = W.drewN n) (fun _ i _ => xs.length + ys.length - (intOf i).toNat)
                        case atStart => exact ⟨0, Nat.zero_le _, rfl, rfl, rfl⟩
                        case round =>
                          obtain ⟨k, hk, rfl, rfl, rfl⟩ := hrel
                          have hfl := fts_le (xs ++ ys) k
                          by_cases hlt : k < xs.length + ys.length
                          · obtain ⟨g, hgg, hc⟩ := own_at hoc hlt
                            have hc' := hc _ (f32s_at (xs ++ ys) k (by rw [HN.out]; exact hlt))
                            simp only [Option.some.injEq, Addr.mk.injEq, and_true] at hgg
                            subst hgg
                            clear hc hofc howc howb hoc
                            cases hz : isZ ((xs ++ ys).getD k 0) with
                            | true =>
                              have hzb : (FloatKind.f32.format.order ((xs ++ ys).getD k 0) 0 != some .eq) = false := by unfold bne; exact congrArg not hz
                              have hff := congrArg List.length (fts_no (xs ++ ys) k hz)
                              have HF : Hid ((fts (xs ++ ys) (k + 1)).length = (fts (xs ++ ys) k).length) := hff
                              clear hff hz
                              generalize (xs ++ ys).getD k 0 = x at *
                              go_wp2_with fail
                              go_roundw
                              case rel => exact ⟨k + 1, hlt, by go_num, by rw [HF.out], trivial⟩
                              case measure => simp [intOf]; omega
                            | false =>
                              have hzb : (FloatKind.f32.format.order ((xs ++ ys).getD k 0) 0 != some .eq) = true := by unfold bne; exact congrArg not hz
                              have hff := congrArg List.length (fts_yes (xs ++ ys) k hz)
                              rw [List.length_append] at hff
                              have HF : Hid ((fts (xs ++ ys) (k + 1)).length = (fts (xs ++ ys) k).length + 1) := hff
                              clear hff hz
                              generalize (xs ++ ys).getD k 0 = x at *
                              go_wp2_with fail
                              go_roundw
                              case rel => exact ⟨k + 1, hlt, by go_num, by rw [HF.out]; go_num, trivial⟩
                              case measure => simp [intOf]; omega
                          · obtain rfl : k = xs.length + ys.length := by omega
                            have hfn : (fts (xs ++ ys) (xs.length + ys.length)).length = (nz xs).length + (nz ys).length := by
                              rw [← HN.out, fts_all, HC.out]
                            have HF := show Hid ((fts (xs ++ ys) (xs.length + ys.length)).length = (nz xs).length + (nz ys).length) from hfn
                            clear hfl
                            rw [hfn]
                            clear hfn
                            simp only [Int.natCast_add]
                            go_wp2_with fail
                            go_loopw [24] (fun j wr => ∃ k n : Nat, k ≤ (nz xs).length + (nz ys).length ∧ j = .int .i64 k ∧ wr = W.drewN n) (fun j _ => (nz xs).length + (nz ys).length - (intOf j).toNat)
                            case atStart => exact ⟨0, n, Nat.zero_le _, rfl, rfl⟩
                            case round =>
                              obtain ⟨k, n, hk, rfl, rfl⟩ := hrel
                              by_cases hlt : k < (nz xs).length + (nz ys).length
                              · have hkf : k < (fts (xs ++ ys) (xs.length + ys.length)).length := by rw [HF.out]; exact hlt
                                have hkz : k < (nz (xs ++ ys)).length := by rw [HC.out]; exact hlt
                                have hfl := fts_lt (xs ++ ys) (xs.length + ys.length) k hkf
                                have hyy := nz_fts (xs ++ ys) k hkz
                                rw [HN.out] at hyy
                                obtain ⟨g2, rfl, hc2⟩ := own_at hofc hlt
                                obtain ⟨g4, rfl, hc4⟩ := own_at howc hlt
                                obtain ⟨g5, hg5, hc5⟩ := own_at hoc hfl
                                simp only [Option.some.injEq, Addr.mk.injEq, and_true] at hg5
                                subst hg5
                                have d2 := hc2 _ (u32s_at _ k hkf)
                                have d4 := hc4 _ (f32s_at _ k hkz)
                                have d5 := hc5 _ (f32s_at _ _ (by rw [HN.out]; exact hfl))
                                rw [← hyy] at d5
                                have hzb : (FloatKind.f32.format.order ((nz (xs ++ ys)).getD k 0) 0 == some .eq) = false := nz_not _ k hkz
                                by_cases hk0 : 0 < k
                                · have hinc := fts_inc (xs ++ ys) (xs.length + ys.length) (k - 1) (by omega)
                                  rw [show k - 1 + 1 = k by omega] at hinc
                                  obtain ⟨g2', hg2', hc2'⟩ := own_at hofc (k := k - 1) (by omega)
                                  simp only [Option.some.injEq, Addr.mk.injEq, and_true] at hg2'
                                  subst hg2'
                                  have d2' := hc2' _ (u32s_at _ (k - 1) (by omega))
                                  have hkz' : (0 : Int) < (k : Int) := by omega
                                  clear hc2 hc2' hc4 hc5 hyy howb hofc howc hoc hkf hkz
                                  generalize (fts (xs ++ ys) (xs.length + ys.length)).getD k 0 = f at *
                                  generalize (fts (xs ++ ys) (xs.length + ys.length)).getD (k - 1) 0 = f' at *
                                  generalize (nz (xs ++ ys)).getD k 0 = y at *
                                  obtain ⟨k, rfl⟩ : ∃ k', k = k' + 1 := ⟨k - 1, by omega⟩
                                  rw [show k + 1 - 1 = k by omega] at d2'
                                  go_wp2_with fail
                                  go_quiet (fail)
                                  go_wp2_with fail
                                  go_quiet ((go_at_call 10; exact (same32 _ _).mono fun e w' h => ⟨h.1, _, h.2⟩))
                                  go_wp2_with fail
                                  go_roundw
                                  case rel => exact ⟨k + 1 + 1, _, hlt, by go_num, rfl⟩
                                  case measure => simp [intOf]; omega
                                · have hkd : decide ((0 : Int) < (k : Int)) = false := by rw [decide_eq_false_iff_not]; omega
                                  have hkd' : decide (0 < k) = false := by rw [decide_eq_false_iff_not]; omega
                                  clear hc2 hc4 hc5 hyy howb hofc howc hoc hkf hkz hk0
                                  generalize (fts (xs ++ ys) (xs.length + ys.length)).getD k 0 = f at *
                                  generalize (nz (xs ++ ys)).getD k 0 = y at *
                                  go_wp2_with fail
                                  go_quiet (fail)
                                  go_wp2_with fail
                                  go_quiet ((go_at_call 10; exact (same32 _ _).mono fun e w' h => ⟨h.1, _, h.2⟩))
                                  go_wp2_with fail
                                  go_roundw
                                  case rel => exact ⟨k + 1, _, hlt, by go_num, rfl⟩
                                  case measure => simp [intOf]; omega
                              · clear hofc howc
                                go_wp2_with fail
                                go_loopw [25, 26] (fun s i wr => ∃ k n v : Nat, k ≤ xs.length + ys.length ∧ i = .int .i64 k ∧ s = .float .f64 v ∧ Is64 (norm ((xs ++ ys).take k)) v ∧ wr = W.drewN n) (fun _ i _ => xs.length + ys.length - (intOf i).toNat)
                                case atStart => exact ⟨0, n, 0, Nat.zero_le _, rfl, rfl, rfl, rfl⟩
                                case round =>
                                  obtain ⟨k, n, v, hk, rfl, rfl, hv, rfl⟩ := hrel
                                  by_cases hlt : k < xs.length + ys.length
                                  · obtain ⟨g5, hg5, hc5⟩ := own_at hoc hlt
                                    simp only [Option.some.injEq, Addr.mk.injEq, and_true] at hg5
                                    subst hg5
                                    have d5 := hc5 _ (f32s_at (xs ++ ys) k (by rw [HN.out]; exact hlt))
                                    have hs : Hid (norm ((xs ++ ys).take (k + 1)) = st (norm ((xs ++ ys).take k)) ((xs ++ ys).getD k 0)) := norm_snoc _ k (by rw [HN.out]; exact hlt)
                                    clear hc5 hoc howb
                                    generalize (xs ++ ys).getD k 0 = x at *
                                    generalize norm ((xs ++ ys).take k) = acc at *
                                    cases hcv : cv x with
                                    | none =>
                                      have hnan := nan_of_cv hcv
                                      have hst : Hid (st acc x = none) := st_nan acc hnan
                                      have e1 := fun w => run_conv_nan (P := Try.prog) w 24 26 Try.underlying24 Try.underlying26 x hnan
                                      have e2 := fun w u v => run_mul_nan (P := Try.prog) w 26 (nanC u x) v (nanC_nan u x)
                                      have e3 := fun w u p q v => run_add_nan (P := Try.prog) w 26 v (nanB u p q) (.inr (nanB_nan u p q))
                                      clear hnan hcv hv
                                      go_wp2_with fail
                                      go_region_held (fun w' => w'.cell? ⟨wc.heap.size, k, none⟩ = some (.float .f32 x)) (go_keep) (fail)
                                      all_goals
                                        clear e1 e2 e3
                                        go_wp2_with fail
                                        go_roundw
                                        case rel => exact ⟨k + 1, _, _, hlt, by go_num, rfl, by rw [hs.out, hst.out]; exact nanB_nan _ _ _, rfl⟩
                                        case measure => simp [intOf]; omega
                                    | some y =>
                                      obtain ⟨p, hq, hm⟩ := sq_of_cv hcv
                                      have e1 := fun w => run_conv_num (P := Try.prog) w 24 26 Try.underlying24 Try.underlying26 x y hcv
                                      have e2 := fun w => run_float_arith (P := Try.prog) w .mul 26 .f64 y y p hm
                                      cases had : double.add v p with
                                      | none =>
                                        have hst : Hid (st acc x = none) := st_none hv hq had
                                        have e3 := fun w => run_add_none (P := Try.prog) w 26 v p had
                                        clear hcv hv hq hm had
                                        go_wp2_with fail
                                        go_region_held (fun w' => w'.cell? ⟨wc.heap.size, k, none⟩ = some (.float .f32 x)) (go_keep) (fail)
                                        all_goals
                                          clear e1 e2 e3
                                          go_wp2_with fail
                                          go_roundw
                                          case rel => exact ⟨k + 1, _, _, hlt, by go_num, rfl, by rw [hs.out, hst.out]; exact nanB_nan _ _ _, rfl⟩
                                          case measure => simp [intOf]; omega
                                      | some r =>
                                        have hst : Hid (st acc x = some r) := st_some hv hq had
                                        have e3 := fun w => run_float_arith (P := Try.prog) w .add 26 .f64 v p r had
                                        clear hcv hv hq hm had
                                        go_wp2_with fail
                                        go_quiet (fail)
                                        clear e1 e2 e3
                                        go_wp2_with fail
                                        go_roundw
                                        case rel => exact ⟨k + 1, _, r, hlt, by go_num, rfl, by rw [hs.out, hst.out]; rfl, rfl⟩
                                        case measure => simp [intOf]; omega
                                  · obtain rfl : k = xs.length + ys.length := by omega
                                    have hnc' : Is64 (norm ((xs ++ ys).take (xs.length + ys.length))) nc := by
                                      rw [← HN.out, List.take_length, ← norm_nz (xs ++ ys) hz32]; exact hnc
                                    clear hoc
                                    go_upto_region 82 with fail
                                    refine wp_world (R := fun V => (∃ b, V.ownsRow b 24 1 (.slice wb (nz ys).length wbc) (nz ys).length (f32s (nz ys))) ∧ StructAt V ba (.slice fa (nz xs).length fac) (.slice wa (nz xs).length wac) (.int .i64 xs.length) (.float .f64 na) ∧ StructAt V bc (.slice fc ((nz xs).length + (nz ys).length) fcc) (.slice wc' ((nz xs).length + (nz ys).length) wcc) (.int .i64 (xs.length + ys.length : Nat)) (.float .f64 nc) ∧ Below w.heap.size w V) ⟨⟨_, howb⟩, hW.sa, hW.sc, below_drewN hW.bel _⟩ ?_
                                    rintro V ⟨⟨b1, hVb⟩, hVa, hVc, hV⟩
                                    clear hW howb
                                    obtain ⟨s0, s1, s2, s3, s4⟩ := id hVa
                                    obtain ⟨t0, t1, t2, t3, t4⟩ := id hVc
                                    have s5 : ba < V.heap.size + 1 := by omega
                                    have t5 : bc < V.heap.size + 1 := by omega
                                    rw [Int.natCast_add] at t2
                                    go_wp2_with (first
                                      | (go_at_call 12; refine (zz12 _ _ _ _ _ _ _ _ _).mono ?_; rintro e w' ⟨rfl, rfl⟩)
                                      | (go_at_call 11; refine (same64 _ _ hnc' hv _).mono ?_; rintro e w' ⟨rfl, rfl⟩))
                                    refine wp_world (R := fun V => (∃ b, V.ownsRow b 24 1 (.slice wb (nz ys).length wbc) (nz ys).length (f32s (nz ys))) ∧ StructAt V bc (.slice fc ((nz xs).length + (nz ys).length) fcc) (.slice wc' ((nz xs).length + (nz ys).length) wcc) (.int .i64 (xs.length + ys.length : Nat)) (.float .f64 nc) ∧ Below w.heap.size w V) ?_ ?_
                                    · have hb2 : Below V.heap.size V ((V.alloc (.cells #[.slice fc ((nz xs).length + (nz ys).length) fcc, .slice wc' ((nz xs).length + (nz ys).length) wcc, .int .i64 (xs.length + ys.length : Nat), .float .f64 nc] 28)).alloc (.cells #[.slice fa (nz xs).length fac, .slice wa (nz xs).length wac, .int .i64 xs.length, .float .f64 na] 28)) := balloc (balloc (Below.refl _ _) _) _
                                      exact ⟨⟨_, own_below hVb hb2⟩, struct_below hVc hb2, hV.trans (hb2.mono hV.size)⟩
                                    rintro U ⟨⟨b2, hUb⟩, hUc, hU⟩
                                    clear hVb hVa hVc hV s0 s1 s2 s3 s4 s5 t0 t1 t2 t3 t4 t5 hnc' hv
                                    go_loopw [27, 28] (fun s i wr => ∃ k n v : Nat, k ≤ (nz ys).length ∧ i = .int .i64 k ∧ s = .float .f64 v ∧ Is64 (((nz ys).take k).foldl st (norm (nz xs))) v ∧ wr = U.drewN n) (fun _ i _ => (nz ys).length - (intOf i).toNat)
                                    case atStart => exact ⟨0, 0, na, Nat.zero_le _, rfl, rfl, hna, rfl⟩
                                    case round =>
                                      obtain ⟨k, n, v, hk, rfl, rfl, hv, rfl⟩ := hrel
                                      by_cases hlt : k < (nz ys).length
                                      · obtain ⟨g5, rfl, hc5⟩ := own_at hUb hlt
                                        have d5 := hc5 _ (f32s_at (nz ys) k hlt)
                                        have hs : Hid (((nz ys).take (k + 1)).foldl st (norm (nz xs)) = st (((nz ys).take k).foldl st (norm (nz xs))) ((nz ys).getD k 0)) := fold_snoc _ _ k hlt
                                        clear hc5 hUb
                                        generalize (nz ys).getD k 0 = x at *
                                        generalize ((nz ys).take k).foldl st (norm (nz xs)) = acc at *
                                        cases hcv : cv x with
                                        | none =>
                                          have hnan := nan_of_cv hcv
                                          have hst : Hid (st acc x = none) := st_nan acc hnan
                                          have e1 := fun w => run_conv_nan (P := Try.prog) w 24 26 Try.underlying24 Try.underlying26 x hnan
                                          have e2 := fun w u v => run_mul_nan (P := Try.prog) w 26 (nanC u x) v (nanC_nan u x)
                                          have e3 := fun w u p q v => run_add_nan (P := Try.prog) w 26 v (nanB u p q) (.inr (nanB_nan u p q))
                                          clear hnan hcv hv
                                          go_wp2_with fail
                                          go_region_held (fun w' => w'.cell? ⟨g5, k, none⟩ = some (.float .f32 x)) (go_keep) (fail)
                                          all_goals
                                            clear e1 e2 e3
                                            go_wp2_with fail
                                            go_roundw
                                            case rel => exact ⟨k + 1, _, _, hlt, by go_num, rfl, by rw [hs.out, hst.out]; exact nanB_nan _ _ _, rfl⟩
                                            case measure => simp [intOf]; omega
                                        | some y =>
                                          obtain ⟨p, hq, hm⟩ := sq_of_cv hcv
                                          have e1 := fun w => run_conv_num (P := Try.prog) w 24 26 Try.underlying24 Try.underlying26 x y hcv
                                          have e2 := fun w => run_float_arith (P := Try.prog) w .mul 26 .f64 y y p hm
                                          cases had : double.add v p with
                                          | none =>
                                            have hst : Hid (st acc x = none) := st_none hv hq had
                                            have e3 := fun w => run_add_none (P := Try.prog) w 26 v p had
                                            clear hcv hv hq hm had
                                            go_wp2_with fail
                                            go_region_held (fun w' => w'.cell? ⟨g5, k, none⟩ = some (.float .f32 x)) (go_keep) (fail)
                                            all_goals
                                              clear e1 e2 e3
                                              go_wp2_with fail
                                              go_roundw
                                              case rel => exact ⟨k + 1, _, _, hlt, by go_num, rfl, by rw [hs.out, hst.out]; exact nanB_nan _ _ _, rfl⟩
                                              case measure => simp [intOf]; omega
                                          | some r =>
                                            have hst : Hid (st acc x = some r) := st_some hv hq had
                                            have e3 := fun w => run_float_arith (P := Try.prog) w .add 26 .f64 v p r had
                                            clear hcv hv hq hm had
                                            go_wp2_with fail
                                            go_quiet (fail)
                                            clear e1 e2 e3
                                            go_wp2_with fail
                                            go_roundw
                                            case rel => exact ⟨k + 1, _, r, hlt, by go_num, rfl, by rw [hs.out, hst.out]; rfl, rfl⟩
                                            case measure => simp [intOf]; omega
                                      · obtain rfl : k = (nz ys).length := by omega
                                        rw [List.take_length, norm_split] at hv
                                        go_upto_region 89 with fail
                                        refine wp_world (R := fun V => StructAt V bc (.slice fc ((nz xs).length + (nz ys).length) fcc) (.slice wc' ((nz xs).length + (nz ys).length) wcc) (.int .i64 (xs.length + ys.length : Nat)) (.float .f64 nc) ∧ Below w.heap.size w V) ⟨hUc, below_drewN hU _⟩ ?_
                                        rintro Z ⟨⟨t0, t1, t2, t3, t4⟩, hZ⟩
                                        clear hUb hUc hU
                                        rw [Int.natCast_add] at t2
                                        go_wp2_with (first
                                          | (go_at_call 12; refine (zz12 _ _ _ _ _ _ _ _ _).mono ?_; rintro e w' ⟨rfl, rfl⟩)
                                          | (go_at_call 11; refine (same64 _ _ hnc hv _).mono ?_; rintro e w' ⟨rfl, rfl⟩))
                                        go_ret
                                        exact ⟨rfl, balloc hZ _⟩
theorem walk1 (a b : Option Addr) (la ca lb cb : Nat) (xs ys : List Nat) (w : World) (hx : IsRow w a la ca xs) (hy : IsRow w b lb cb ys) :
    Calls Try.prog 3 #[.slice a la ca, .slice b lb cb] w fun e w' => e = .returned (.bool true) ∧ Below w.heap.size w w' := by
  have lx : ∀ {a : Option Addr} {l c : Nat} {zs : List Nat}, IsRow w a l c zs → l ≤ maxLen := by
    intro a l c zs h
    rcases h with ⟨_, rfl, _, _⟩ | ⟨_, _, h1, h2, _⟩
    · unfold maxLen; omega
    · omega
  by_cases h1 : la ≤ 65536
  · by_cases h2 : lb ≤ 65536
    · exact walk1_main a b la ca lb cb xs ys w h1 h2 hx hy
    · exact walk1_long a b la ca lb cb w (by omega) (lx hx) (lx hy)
  · exact walk1_long a b la ca lb cb w (by omega) (lx hx) (lx hy)
end Go.Proofs.Qxb6628473a
