import Derived.Test.Qxb6628473aWalk3
namespace Go.Proofs.Qxb6628473a
open Ieee Go.RowKit
attribute [local go_sem] run_store_float drewN_setCell run_neg32
theorem walk2_long (a : Option Addr) (len cap : Nat) (w : World) (hl : 65536 < len) :
    Calls Try.prog 4 #[.slice a len cap] w fun e w' => e = .returned (.bool true) ∧ Below w.heap.size w w' := by
  by_cases h : 1048576 < len
  all_goals
    go_enter Try.func4, Try.ntmps4
    go_wp2
    go_ret
    exact ⟨rfl, Below.refl _ _⟩

set_option maxHeartbeats 1000000 in
set_option maxRecDepth 100000 in
theorem walk2_main (a : Option Addr) (len cap : Nat) (xs : List Nat) (w : World) (hl : len ≤ 65536) (hx : IsRow w a len cap xs) :
    Calls Try.prog 4 #[.slice a len cap] w fun e w' => e = .returned (.bool true) ∧ Below w.heap.size w w' := by
  obtain ⟨i24, ji, jz0, jz1, jz2⟩ := info_parts Try.info24
  have hx32 : ∀ x ∈ xs, x < 4294967296 := by
    rcases hx with ⟨_, _, _, rfl⟩ | ⟨_, _, _, _, _, _, h⟩
    · intro x hx; simp at hx
    · exact h
  go_enter Try.func4, Try.ntmps4
  go_upto_if 23 with go_in
  go_cut [0] (fun v wx => ∃ a' c', v = .slice a' len c' ∧ wx.ownsRow w.heap.size 24 1 (.slice a' len c') len (f32s xs) ∧ Below w.heap.size w wx)
  case first =>
    rcases hx with ⟨rfl, rfl, rfl, rfl⟩ | ⟨x, rfl, h1, h2, h3, h4, h5⟩
    · go_wp2
      go_meet
      case rel => exact ⟨none, 0, rfl, World.ownsRow_nil _ _ _ _, Below.refl _ _⟩
    · have hcs : ∀ j v, (f32s xs)[j]? = some v → w.cell? (x.add j) = some v := fun j v hj => by
        have hj' : j < xs.length := by have := (List.getElem?_eq_some_iff.1 hj).1; simpa [f32s] using this
        rw [h4 j hj']; simpa [f32s, hj'] using hj
      clear h4
      go_wp2_with (first
        | (at_make; refine wpList_make_full _ rfl (.tmp 25) (.tmp 25) 22 rfl w.heap.size 24 i24 (.float .f32 0) 1 Try.underlying22 ji jz0 jz1 .i64 .i64 _ _ len rfl rfl rfl rfl (by rw [jz2]; omega) (by unfold maxLen; omega) (Nat.le_refl _) ?_; intro w1 ho1 hg1)
        | ((refine wpList_copy_full rfl (.tmp 27) (.tmp 28) 22 22 rfl 24 Try.underlying22 (by rw [ji]; simp [jz1]) w.heap.size w.heap.size len x cap rfl rfl _ ho1 (f32s xs) (by simp [f32s, h3]) (fun j v hj => hg1.cell (hcs j v hj) (by simp)) (f32s_one xs) ?_; intro w2 ho2 hg2)))
      go_meet
      case rel => exact ⟨_, _, rfl, ho2, (Below.grown (Below.refl _ _) hg1 (Nat.le_refl _) (by simp)).grown hg2 hg1.size (by simp)⟩
  case rest =>
    obtain ⟨a', c', rfl, hown, hbel⟩ := hcut
    have hxl : xs.length = len := by simpa [f32s] using hown.1
    go_wp2_with (at_make; refine wpList_make_full _ rfl (.tmp 32) (.tmp 32) 22 rfl wc.heap.size 24 i24 (.float .f32 0) 1 Try.underlying22 ji jz0 jz1 .i64 .i64 _ _ len rfl rfl rfl rfl (by rw [jz2]; omega) (by unfold maxLen; omega) (Nat.le_refl _) ?_; intro w1 ho1 hg1)
    have hb1 : Below wc.heap.size wc w1 := Below.grown (Below.refl _ _) hg1 (Nat.le_refl _) (by simp)
    have ho1' : w1.ownsRow wc.heap.size 24 1 (.slice (some ⟨wc.heap.size, 0, none⟩) len len) len (part (xs.map ng) 0) := by
      rw [part_zero, List.length_map, hxl]
      simpa [Value.cells, toList_madeCells_one] using ho1
    clear ho1 hg1
    go_loopw [5] (fun i wr => ∃ k : Nat, k ≤ len ∧ i = .int .i64 k ∧ wr.ownsRow wc.heap.size 24 1 (.slice (some ⟨wc.heap.size, 0, none⟩) len len) len (part (xs.map ng) k) ∧ Below wc.heap.size wc wr) (fun i _ => len - (intOf i).toNat)
    case atStart => exact ⟨0, Nat.zero_le _, rfl, ho1', hb1⟩
    case round =>
      obtain ⟨k, hk, rfl, ho, hb⟩ := hrel
      clear ho1' hb1
      by_cases hlt : k < len
      · rcases hown.2 with ⟨h, h0⟩ | ⟨g, cap', cur, h, hbg, hg, hnc, hcm, hcs, htake⟩
        · omega
        simp only [Value.slice.injEq] at h
        obtain ⟨rfl, _, rfl⟩ := h
        have hgl : g < wc.heap.size := (Array.getElem?_eq_some_iff.1 hg).1
        have hc : wr.cell? ⟨g, k, none⟩ = some (.float .f32 (xs.getD k 0)) := by
          rw [hb.cell (p := ⟨g, k, none⟩) hgl]; exact own_cell hown k _ (by simp [f32s, hxl, hlt])
        have hc2 : wr.cell? ⟨wc.heap.size, k, none⟩ = some (.float .f32 0) := own_cell ho k _ (part_at _ k (by simpa [hxl] using hlt))
        have hfz : wr.frozen? ⟨wc.heap.size, k, none⟩ = false := ho.frozenAt k
        have hst := (ho.stored k (.float .f32 (ng (xs.getD k 0)))).1
        have hst2 : Hid ((part (xs.map ng) k).set k (.float .f32 (ng (xs.getD k 0))) = part (xs.map ng) (k + 1)) := by
          have := part_set (xs.map ng) k (by simpa [hxl] using hlt)
          have e : (xs.map ng).getD k 0 = ng (xs.getD k 0) := by simp [List.getD, hxl, hlt]
          rw [e] at this; exact this
        clear hcs htake hg ho
        generalize xs.getD k 0 = x at *
        go_wp2_with fail
        go_roundw
        case rel => exact ⟨k + 1, hlt, by go_num, by rw [← hst2.out]; exact hst, hb.setCell (Nat.le_refl _) _⟩
        case measure => simp [intOf]; omega
      · obtain rfl : k = len := by omega
        have hv := own_below hown hb
        have hn : wr.ownsRow wc.heap.size 24 1 (.slice (some ⟨wc.heap.size, 0, none⟩) k k) k (f32s (xs.map ng)) := by
          have := part_all (xs.map ng)
          rw [List.length_map, hxl] at this
          rw [← this]; exact ho
        have hB := hbel.trans (hb.mono hbel.size)
        clear ho hb hown hbel
        subst hxl
        go_wp2_with fail
        have hm : (nz (xs.map ng)).length = (nz xs).length := by rw [nz_ng xs hx32, List.length_map]
        have hml : (nz xs).length ≤ xs.length := by have := nz_le xs xs.length; rwa [List.take_length] at this
        refine (fromN a' c' xs xs.length (nz xs).length _ _ rfl rfl hv (by omega)).mono ?_
        rintro e w2 ⟨fa, fc, wa, wc', nb, rfl, hnb, hf, hw, hb2⟩
        have hn2 := own_below hn hb2
        have hv2 := own_below hv hb2
        have hB2 := hB.trans (hb2.mono hB.size)
        clear hn hv hB hb2
        go_wp2_with fail
        refine (fromN _ _ (xs.map ng) xs.length (nz xs).length _ _ (by simp) hm (hn2.alloc _) (by omega)).mono ?_
        rintro e w3 ⟨fa', fc', wa', wc'', nb', rfl, hnb', hf', hw', hb3⟩
        have hv3 := own_below (hv2.alloc _) hb3
        have hf3 := own_below (hf.alloc _) hb3
        have hw3 := own_below (hw.alloc _) hb3
        have hB3 := (hB2.alloc hB2.size _).trans (hb3.mono (by have := hB2.size; simp; omega))
        have hcv : ∀ o, w3.cell? ⟨w2.heap.size, o, none⟩ = (w2.alloc (.cells #[.slice fa (nz xs).length fc, .slice wa (nz xs).length wc', .int .i64 xs.length, .float .f64 nb] 28)).cell? ⟨w2.heap.size, o, none⟩ := (fun o => hb3.cell (p := ⟨w2.heap.size, o, none⟩) (by simp))
        have hlt3 : w2.heap.size < w3.heap.size := by have := hb3.size; simp at this; omega
        clear hn2 hv2 hf hw hB2
        have hz1 : w2.heap.size < w3.heap.size + 1 := by omega
        have hz2 : w2.heap.size < w3.heap.size + 1 + 1 := by omega
        have hz3 : w2.heap.size < w3.heap.size + 1 + 1 + 1 := by omega
        have hz4 : w2.heap.size < w3.heap.size + 1 + 1 + 1 + 1 := by omega
        have hz5 : w2.heap.size < w3.heap.size + 1 + 1 + 1 + 1 + 1 := by omega
        go_wp2_with (first
          | (go_at_call 7; refine (zz7 _ _ _ _ _ _ _ _ _).mono ?_; rintro e w' ⟨rfl, rfl⟩)
          | (go_at_call 8; refine (zz8 _ _ _ _ _ _ _ _ _).mono ?_; rintro e w' ⟨rfl, rfl⟩)
          | (go_at_call 9; refine (zz9 _ _ _ _ _ _ _ _ _).mono ?_; rintro e w' ⟨rfl, rfl⟩))
        refine wp_world (R := fun W => Seen2 w W xs a' fa wa fa' wa' c' fc wc' fc' wc'' nb nb' w2.heap.size w3.heap.size) ?_ ?_
        · have hb := below6 (w3.alloc (.cells #[.slice fa' (nz xs).length fc', .slice wa' (nz xs).length wc'', .int .i64 xs.length, .float .f64 nb'] 28))
          exact ⟨⟨_, own_below (hv3.alloc _) (hb _ _ _ _ _ _)⟩, ⟨_, own_below (hf3.alloc _) (hb _ _ _ _ _ _)⟩, ⟨_, own_below (hw3.alloc _) (hb _ _ _ _ _ _)⟩, ⟨_, own_below (hf'.alloc _) (hb _ _ _ _ _ _)⟩, ⟨_, own_below (hw'.alloc _) (hb _ _ _ _ _ _)⟩,
            (hB3.alloc hB3.size _).trans ((hb _ _ _ _ _ _).mono (Nat.le_trans hB3.size (by simp))), struct_below (struct_below (struct_below struct_new hb3) ((Below.refl _ _).alloc (Nat.le_refl _) _)) (hb _ _ _ _ _ _), struct_below struct_new (hb _ _ _ _ _ _)⟩
        · intro W hW
          clear hv3 hf3 hw3 hf' hw' hB3 hlt3 hz1 hz2 hz3 hz4 hz5 hcv hb3
          obtain ⟨b1, ho⟩ := hW.own
          go_loop [12, 13] (fun c i => ∃ k : Nat, k ≤ xs.length ∧ i = .int .i64 k ∧ c = .int .i64 ((fts xs k).length : Nat)) (fun _ i => xs.length - (intOf i).toNat)
          case atStart => exact ⟨0, Nat.zero_le _, rfl, rfl⟩
          case round =>
            obtain ⟨k, hk, rfl, rfl⟩ := hrel
            have hfl := fts_le xs k
            by_cases hlt : k < xs.length
            · obtain ⟨g, rfl, hc⟩ := own_at ho hlt
              have hc' := hc _ (f32s_at xs k hlt)
              clear hc
              cases hz : isZ (xs.getD k 0) with
              | true =>
                have hzb : (FloatKind.f32.format.order (xs.getD k 0) 0 != some .eq) = false := by unfold bne; exact congrArg not hz
                have hff := congrArg List.length (fts_no xs k hz)
                have HF : Hid ((fts xs (k + 1)).length = (fts xs k).length) := hff
                clear hff hz
                generalize xs.getD k 0 = x at *
                go_wp2_with fail
                go_round
                case rel => exact ⟨k + 1, hlt, by go_num, by rw [HF.out]⟩
                case measure => simp [intOf]; omega
              | false =>
                have hzb : (FloatKind.f32.format.order (xs.getD k 0) 0 != some .eq) = true := by unfold bne; exact congrArg not hz
                have hff := congrArg List.length (fts_yes xs k hz)
                rw [List.length_append] at hff
                have HF : Hid ((fts xs (k + 1)).length = (fts xs k).length + 1) := hff
                clear hff hz
                generalize xs.getD k 0 = x at *
                go_wp2_with fail
                go_round
                case rel => exact ⟨k + 1, hlt, by go_num, by rw [HF.out]; go_num⟩
                case measure => simp [intOf]; omega
            · obtain rfl : k = xs.length := by omega
              have hfa := fts_all xs
              have HF : Hid ((fts xs xs.length).length = (nz xs).length) := hfa
              clear hfl
              rw [hfa]
              clear hfa
              go_wp2_with fail
              obtain ⟨b2, hof⟩ := hW.ownf
              obtain ⟨b3, how⟩ := hW.ownw
              obtain ⟨b4, hof'⟩ := hW.ownf'
              obtain ⟨b5, how'⟩ := hW.ownw'
              rw [fts_ng xs hx32] at hof'
              rw [nz_ng xs hx32] at how'
              go_loopw [14] (fun j wr => ∃ k n : Nat, k ≤ (nz xs).length ∧ j = .int .i64 k ∧ wr = W.drewN n) (fun j _ => (nz xs).length - (intOf j).toNat)
              case atStart => exact ⟨0, 0, Nat.zero_le _, rfl, rfl⟩
              case round =>
                obtain ⟨k, n, hk, rfl, rfl⟩ := hrel
                by_cases hlt : k < (nz xs).length
                · have hkf : k < (fts xs xs.length).length := by rw [HF.out]; exact hlt
                  have hfl := fts_lt xs xs.length k hkf
                  have hyy := nz_fts xs k hlt
                  obtain ⟨g1, rfl, hc1⟩ := own_at hof hlt
                  obtain ⟨g2, rfl, hc2⟩ := own_at hof' hlt
                  obtain ⟨g3, rfl, hc3⟩ := own_at how hlt
                  obtain ⟨g4, rfl, hc4⟩ := own_at how' hlt
                  obtain ⟨g5, rfl, hc5⟩ := own_at ho hfl
                  have d1 := hc1 _ (u32s_at _ k hkf)
                  have d2 := hc2 _ (u32s_at _ k hkf)
                  have d3 := hc3 _ (f32s_at _ k hlt)
                  have d4 := hc4 _ (f32s_at _ k (by rw [List.length_map]; exact hlt))
                  have d5 := hc5 _ (f32s_at _ _ hfl)
                  rw [← hyy] at d5
                  rw [show ((nz xs).map ng).getD k 0 = ng ((nz xs).getD k 0) by simp [hlt]] at d4
                  clear hc1 hc2 hc3 hc4 hc5 hyy ho hof hof' how how'
                  generalize (fts xs xs.length).getD k 0 = f at *
                  generalize (nz xs).getD k 0 = y at *
                  clear hkf
                  go_wp2_with fail
                  go_quiet (fail)
                  go_wp2_with fail
                  go_quiet ((go_at_call 10; exact (same32 _ _).mono fun e w' h => ⟨h.1, _, h.2⟩))
                  go_wp2_with (go_at_call 10; refine (same32 _ _).mono ?_; rintro e w' ⟨rfl, rfl⟩)
                  go_roundw
                  case rel => exact ⟨k + 1, _, hlt, by go_num, rfl⟩
                  case measure => simp [intOf]; omega
                · clear ho hof how hof' how'
                  have hnb'' : Is64 (norm (nz xs)) nb' := by rw [nz_ng xs hx32, norm_ng (nz xs) (fun x hx => hx32 x (List.mem_filter.1 hx).1)] at hnb'; exact hnb'
                  clear hnb'
                  go_wp2_with fail
                  refine wp_world (R := fun V => StructAt V w2.heap.size (.slice fa (nz xs).length fc) (.slice wa (nz xs).length wc') (.int .i64 xs.length) (.float .f64 nb) ∧ StructAt V w3.heap.size (.slice fa' (nz xs).length fc') (.slice wa' (nz xs).length wc'') (.int .i64 xs.length) (.float .f64 nb') ∧ Below w.heap.size w V) ⟨hW.sv, hW.sw, below_drewN hW.bel _⟩ ?_
                  rintro V ⟨⟨s0, s1, s2, s3, s4⟩, ⟨t0, t1, t2, t3, t4⟩, hV⟩
                  clear hW HF hk hlt hml hm
                  generalize w2.heap.size = bv at *
                  generalize w3.heap.size = bw at *
                  go_region_with (first
                    | (go_at_call 12; refine (zz12 _ _ _ _ _ _ _ _ _).mono ?_; rintro e w' ⟨rfl, rfl⟩)
                    | (go_at_call 11; refine (same64 _ _ hnb hnb'' _).mono ?_; rintro e w' ⟨rfl, rfl⟩))
                  all_goals
                    go_wp2
                    go_ret
                    exact ⟨rfl, by repeat (first | refine balloc ?_ _ | refine Below.drew ?_ | refine below_drewN ?_ _ | exact hV)⟩
theorem walk2 (a : Option Addr) (len cap : Nat) (xs : List Nat) (w : World) (hx : IsRow w a len cap xs) :
    Calls Try.prog 4 #[.slice a len cap] w fun e w' => e = .returned (.bool true) ∧ Below w.heap.size w w' := by
  by_cases hl : len ≤ 65536
  · exact walk2_main a len cap xs w hl hx
  · exact walk2_long a len cap w (by omega)
end Go.Proofs.Qxb6628473a
