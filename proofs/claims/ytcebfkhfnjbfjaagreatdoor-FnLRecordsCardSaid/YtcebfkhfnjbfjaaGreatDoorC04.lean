/- Contracts of shape: a small number, a power, an inverse. -/
import Derived.Test.YtcebfkhfnjbfjaaGreatDoorC03
import Derived.Test.YtcebfkhfnjbfjaaGreatDoorC02
namespace Go.Proofs.YtcebfkhfnjbfjaaGreatDoor
open Go.RowKit
set_option maxHeartbeats 400000 in
set_option maxRecDepth 100000 in
theorem lSmall_any (x : Int) (w : World) :
    Calls Tryz.prog 53 #[.int .i64 x] w fun e w' => (∃ cs', e = .returned (.agg cs') ∧ Ints .i64 16 cs') ∧ Below w.heap.size w w' := by
  have hR1 := Row.new z16_ints w 73
  have hz : Ints .i64 16 #[.int .i64 x, .int .i64 0, .int .i64 0, .int .i64 0, .int .i64 0, .int .i64 0, .int .i64 0, .int .i64 0, .int .i64 0, .int .i64 0, .int .i64 0, .int .i64 0, .int .i64 0, .int .i64 0, .int .i64 0, .int .i64 0] := ints_of_list (by simp [allInt]) rfl
  go_enter Tryz.func53, Tryz.ntmps53
  go_wp2_with fail
  refine (lCarried_any _ _ hz).mono ?_
  rintro e w1 ⟨⟨c1, rfl, hc1⟩, hb1⟩
  have k := hR1.below hb1 (by simp)
  go_wp2_with (refine wpList_store_Row rfl 73 _ _ rfl _ _ rfl rfl k hc1 (fun _ _ => IsInt.one) size73 ?_)
  exact ret_Row Tryz.results53 w.heap.size rfl (k.setRow hc1) _ Tryz.underlying73 rfl size73 rfl fun cs2 hcs2 => ⟨⟨cs2, rfl, hcs2⟩, below_setRow' (((Below.refl _ _).alloc (by simp <;> omega) _).trans (hb1.mono (by simp <;> omega))) (by omega) _⟩

abbrev z8u : Array Value := #[.int .u32 0, .int .u32 0, .int .u32 0, .int .u32 0, .int .u32 0, .int .u32 0, .int .u32 0, .int .u32 0]
theorem z8u_ints : Ints .u32 8 z8u := ints_of_list (by decide) rfl
theorem make8 (w : World) : (Instr.makeSlice 29 (.int .i64 8) (.int .i64 8)).run Tryz.prog w = .ok (.slice (some ⟨w.heap.size, 0, none⟩) 8 8) (w.alloc (.cells z8u 45)) := by kernel_rfl
theorem z256_ints : Ints .i64 256 Tryz.zeroCells154 := ints_of_arr (by kernel_rfl) (by kernel_rfl)
theorem call51 (args : Array Value) (W : World) : Sem.run Tryz.prog (callFunc 51 args) W = .ok (.enter 51 args) W := run_callGo (fn := Tryz.f51) (by kernel_rfl) (by kernel_rfl) (by kernel_rfl) args W
theorem size154 : (Tryz.prog.info? 154).map (·.size) = some 256 := by kernel_rfl
set_option maxHeartbeats 4000000 in
set_option maxRecDepth 100000 in
theorem lTo_any (cs : Array Value) (bits less : Int) (w : World) (h : Ints .i64 16 cs) (hb0 : 0 ≤ bits) (hb1 : bits < 256) :
    Calls Tryz.prog 72 #[.agg cs, .int .u64 bits, .int .u32 less] w fun e w' => (∃ cs', e = .returned (.agg cs') ∧ Ints .i64 16 cs') ∧ Below w.heap.size w w' := by
  have hR1 := Row.new h w 73
  have hR2 := row_new2 (E := 73) z16_ints w (.cells cs 73)
  have hR3 := row_new3 (E := 45) z8u_ints w (.cells cs 73) (.cells z16 73)
  have hmk := make8
  obtain ⟨q, hq⟩ : ∃ q : Nat, bits / 32 = q := ⟨(bits / 32).toNat, by omega⟩
  have hq8 : q < 8 := by omega
  have hf := hR3.free q
  obtain ⟨x, hx⟩ := hR3.int hq8
  have hd : decide (bits < 256) = true := by simpa using hb1
  go_enter Tryz.func72, Tryz.ntmps72
  go_wp2
  have hR4 : IRow .u32 8 45 (w.heap.size + 1 + 1) (((w.alloc (.cells cs 73)).alloc (.cells z16 73)).alloc (.cells (z8u.toList.set q (.int .u32 (2 ^ (bits % 32).toNat % 4294967296))).toArray 45)) :=
    row_new3 (ints_set z8u_ints _ _) _ _ _
  clear hR3 hf hx hmk
  go_loopw [8, 9] (fun i t wr => ∃ (n : Nat) (x : Int), n ≤ 8 ∧ i = .int .i64 n ∧ t = .int .u32 x ∧ (IRow .i64 16 73 w.heap.size wr ∧ IRow .i64 16 73 (w.heap.size + 1) wr ∧ IRow .u32 8 45 (w.heap.size + 1 + 1) wr) ∧ Below w.heap.size w wr) (fun i _ _ => 8 - (intOf i).toNat)
  case atStart => exact ⟨0, less, by omega, rfl, rfl, ⟨(hR1.alloc _).alloc _, hR2.alloc _, hR4⟩, (((Below.refl _ _).alloc (by simp <;> omega) _).alloc (by simp <;> omega) _).alloc (by simp <;> omega) _⟩
  case round =>
    obtain ⟨n, t, hn, rfl, rfl, ⟨h1, h2, h3⟩, hb⟩ := hrel
    by_cases ht : 0 < t ∧ n < 8
    · obtain ⟨ht, hn8⟩ := ht
      obtain ⟨x, hx⟩ := h3.int hn8
      have hf := h3.free n
      go_wp2
      all_goals
        go_roundw
        case rel => exact ⟨n + 1, _, by omega, by go_num, rfl, ⟨h1.setOther (by dsimp only; omega) _, h2.setOther (by dsimp only; omega) _, h3.set fun _ => ⟨_, rfl⟩⟩, hb.setCell (by dsimp only; omega) _⟩
        case measure => simp [intOf] <;> omega
    · rcases (show t ≤ 0 ∨ (0 < t ∧ ¬ n < 8) by omega) with ht | ⟨ht, hn8⟩
      all_goals
      go_wp2_with fail
      have hlt3 := h3.lt
      have h4 := Row.new z256_ints wr 154
      refine (lSmall_any _ _).mono ?_
      rintro e w1 ⟨⟨c1, rfl, hc1⟩, hbs⟩
      replace h4 := h4.below hbs (by simp)
      replace h3 := (h3.alloc (.cells Tryz.zeroCells154 154)).below hbs (h3.alloc _).lt
      replace h2 := (h2.alloc (.cells Tryz.zeroCells154 154)).below hbs (h2.alloc _).lt
      replace h1 := (h1.alloc (.cells Tryz.zeroCells154 154)).below hbs (h1.alloc _).lt
      have hst := h4.store 0 16 (by omega) hc1 (fun _ _ => IsInt.one) size73 w1 rfl
      obtain ⟨T, hT⟩ : ∃ T, T = wr.heap.size := ⟨_, rfl⟩
      have hTB : w.heap.size + 1 + 1 < T := by rw [hT]; exact hlt3
      have hbb : Below w.heap.size w w1 := (hb.alloc hb.size _).trans (hbs.mono (by have := hb.size; simp; omega))
      have g4 := h4.setCells c1.toList 0 fun j v hv _ => hc1.list j v hv
      have g3 := h3.setCellsOther (g := wr.heap.size) (by omega) c1.toList 0
      have g2 := h2.setCellsOther (g := wr.heap.size) (by omega) c1.toList 0
      have g1 := h1.setCellsOther (g := wr.heap.size) (by omega) c1.toList 0
      have gb := below_setCells (g := wr.heap.size) hb.size c1.toList 0 hbb
      go_wp2
      clear hst h1 h2 h3 h4 hbb hbs hb
      generalize w1.setCells wr.heap.size 0 c1.toList = wy at g1 g2 g3 g4 gb ⊢
      rw [← hT] at g4 ⊢
      clear hT hlt3 wr
      go_loopw [12] (fun i wr => ∃ n : Nat, 1 ≤ n ∧ n ≤ 16 ∧ i = .int .i64 n ∧ (IRow .i64 16 73 w.heap.size wr ∧ IRow .i64 16 73 (w.heap.size + 1) wr ∧ IRow .u32 8 45 (w.heap.size + 1 + 1) wr ∧ IRow .i64 256 154 T wr) ∧ Below w.heap.size w wr) (fun i _ => 16 - (intOf i).toNat)
      case atStart => exact ⟨1, by omega, by omega, rfl, ⟨g1, g2, g3, g4⟩, gb⟩
      case round =>
        clear g1 g2 g3 g4 gb
        obtain ⟨m, hm0, hm, rfl, ⟨h1, h2, h3, h4⟩, hb⟩ := hrel
        by_cases hlm : m < 16
        · go_wp2
          refine wp_region_typed (by kernel_rfl) (fun u v => match u with
              | 12 | 60 | 61 => v = .int .i64 m
              | 62 => v = .int .i64 ((m : Int) - 1)
              | 11 => v = .pointer (some ⟨T, 0, none⟩)
              | 3 => v = .pointer (some ⟨w.heap.size, 0, none⟩)
              | 63 => v = .pointer (some ⟨T, (m - 1) * 16, none⟩)
              | 67 => v = .pointer (some ⟨T, m * 16, none⟩)
              | 64 | 65 | 66 => IsF v
              | _ => True)
            (fun W => (IRow .i64 16 73 w.heap.size W ∧ IRow .i64 16 73 (w.heap.size + 1) W ∧ IRow .u32 8 45 (w.heap.size + 1 + 1) W ∧ IRow .i64 256 154 T W) ∧ Below w.heap.size w W)
            (by kernel_rfl) [60, 61, 62, 63, 64, 65, 66, 67] (by kernel_rfl) [12, 12, 11, 3, 11] (by kernel_rfl) ?_ ⟨⟨h1, h2, h3, h4⟩, hb.drew⟩ ?_ ?_
          · simp
          · refine ⟨safe_move (fun d hd => by cases hd; exact fun v hv => hv), safe_move (fun d hd => by cases hd; exact fun v hv => hv), safe_sub m 1 (fun v hv => hv) rfl ?_,
              safe_place Tryz.underlying154 size73 T 0 ((m : Int) - 1) (fun v hv => hv) (fun v hv => hv) (by omega) (by omega) ?_,
              safe_loadRow Tryz.underlying73 rfl size73 T ((m - 1) * 16) (fun v hv => hv) (by omega) (fun W hW => hW.1.2.2.2) (fun cs hcs => ⟨cs, rfl, hcs⟩),
              safe_loadRow Tryz.underlying73 rfl size73 w.heap.size 0 (fun v hv => hv) (by omega) (fun W hW => hW.1.1) (fun cs hcs => ⟨cs, rfl, hcs⟩),
              safe_call2 IsF IsF (fun v hv => hv) (fun v hv => hv) call51 ?_,
              safe_place Tryz.underlying154 size73 T 0 (m : Int) (fun v hv => hv) (fun v hv => hv) (by omega) (by omega) ?_,
              safe_storeRow size73 T (m * 16) (fun v hv => hv) (fun v hv => hv) (fun _ _ => IsInt.one) (by omega) (fun W hW => hW.1.2.2.2) ?_, trivial⟩
            · show _ = _
              rw [IntWalk.i64_in _ (by omega)]
            · show _ = _
              simp [show ((m : Int) - 1).toNat = m - 1 by omega]
            · rintro a b W ⟨⟨k1, k2, k3, k4⟩, kb⟩ ⟨ca, rfl, hca⟩ ⟨cb, rfl, hcb⟩
              refine (lTimes_any _ _ _ hca hcb).mono ?_
              rintro e w2 ⟨⟨c2, rfl, hc2⟩, hb2⟩
              exact ⟨_, rfl, ⟨⟨k1.below hb2 k1.lt, k2.below hb2 k2.lt, k3.below hb2 k3.lt, k4.below hb2 k4.lt⟩, kb.trans (hb2.mono kb.size)⟩, fun d hd => by cases hd; exact ⟨c2, rfl, hc2⟩⟩
            · show _ = _
              simp
            · rintro W cs ⟨⟨k1, k2, k3, k4⟩, kb⟩ hcs
              exact ⟨⟨k1.setCellsOther (by omega) _ _, k2.setCellsOther (by omega) _ _, k3.setCellsOther (by omega) _ _, k4.setCells _ _ fun j v hv _ => hcs.list j v hv⟩, below_setCells (by omega) _ _ kb⟩
          · rintro f w' ⟨⟨k1, k2, k3, k4⟩, kb⟩ hT
            simp only [putAll, List.setIfInBounds_toArray, List.set_cons_zero, List.set_cons_succ]
            go_wp2
            go_roundw
            case rel => exact ⟨m + 1, by omega, by omega, by go_num, ⟨k1, k2, k3, k4⟩, kb⟩
            case measure => simp [intOf] <;> omega
        · go_wp2_with fail
          refine (lSmall_any _ _).mono ?_
          rintro e w1 ⟨⟨c1, rfl, hc1⟩, hbs⟩
          have k1 := h1.below hbs h1.lt
          have k2 := h2.below hbs h2.lt
          have k3 := h3.below hbs h3.lt
          have k4 := h4.below hbs h4.lt
          have k5 := Row.new z16_ints w1 73
          have kb := (hb.trans (hbs.mono hb.size)).alloc (Nat.le_trans hb.size hbs.size) (.cells z16 73)
          have hst := k5.store 0 16 (by omega) hc1 (fun _ _ => IsInt.one) size73 (w1.alloc (.cells z16 73)) rfl
          have g1 := (k1.alloc (.cells z16 73)).setCellsOther (g := w1.heap.size) (by have := k1.lt; omega) c1.toList 0
          have g2 := (k2.alloc (.cells z16 73)).setCellsOther (g := w1.heap.size) (by have := k2.lt; omega) c1.toList 0
          have g3 := (k3.alloc (.cells z16 73)).setCellsOther (g := w1.heap.size) (by have := k3.lt; omega) c1.toList 0
          have g4 := (k4.alloc (.cells z16 73)).setCellsOther (g := w1.heap.size) (by have := k4.lt; omega) c1.toList 0
          have g5 := k5.setCells c1.toList 0 fun j v hv _ => hc1.list j v hv
          have hwo : w.heap.size ≤ w1.heap.size := by have := k1.lt; omega
          have hT1 : T < w1.heap.size := k4.lt
          have gb := below_setCells (g := w1.heap.size) hwo c1.toList 0 kb
          go_wp2
          clear hst h1 h2 h3 h4 k1 k2 k3 k4 k5 kb hb hbs
          obtain ⟨V, hV⟩ : ∃ V, V = w1.heap.size := ⟨_, rfl⟩
          generalize (w1.alloc (.cells z16 73)).setCells w1.heap.size 0 c1.toList = wy at g1 g2 g3 g4 g5 gb ⊢
          rw [← hV] at g5 hT1 hwo ⊢
          clear hV w1
          go_loopw [14, 15] (fun bg i wr => ∃ (bb : Bool) (x : Int), -1 ≤ x ∧ x ≤ 63 ∧ bg = .bool bb ∧ i = .int .i64 x ∧ (IRow .i64 16 73 (w.heap.size + 1) wr ∧ IRow .u32 8 45 (w.heap.size + 1 + 1) wr ∧ IRow .i64 256 154 T wr ∧ IRow .i64 16 73 V wr) ∧ Below w.heap.size w wr) (fun _ i _ => (intOf i + 1).toNat)
          case atStart => exact ⟨false, 63, by omega, by omega, rfl, rfl, ⟨g2, g3, g4, g5⟩, gb⟩
          case round =>
            clear g1 g2 g3 g4 g5 gb
            obtain ⟨bb, x, hx0, hx63, rfl, rfl, ⟨h2, h3, h4, h5⟩, hb⟩ := hrel
            by_cases hxp : 0 ≤ x
            · obtain ⟨y, rfl⟩ : ∃ y : Nat, x = y := ⟨x.toNat, by omega⟩
              have hdx : decide ((0 : Int) ≤ (y : Int)) = true := by simp
              obtain ⟨wo, rfl⟩ : ∃ wo : World, wo = wr := ⟨_, rfl⟩
              go_wp2
              go_loopw [16] (fun i wr => ∃ c : Nat, c ≤ 4 ∧ i = .int .i64 c ∧ (IRow .i64 16 73 (w.heap.size + 1) wr ∧ IRow .u32 8 45 (w.heap.size + 1 + 1) wr ∧ IRow .i64 256 154 T wr ∧ IRow .i64 16 73 V wr) ∧ Below w.heap.size w wr) (fun i _ => 4 - (intOf i).toNat)
              case atStart => exact ⟨0, by omega, rfl, ⟨h2, h3, h4, h5⟩, hb⟩
              case round =>
                clear h2 h3 h4 h5 hb
                obtain ⟨c, hc4, rfl, ⟨h2, h3, h4, h5⟩, hb⟩ := hrel
                by_cases hcc : c < 4 ∧ bb = true
                · obtain ⟨hcc, rfl⟩ := hcc
                  obtain ⟨ca, hca, hl1⟩ := h5.load 0 16 (by omega) Tryz.underlying73 rfl size73
                  go_wp2_with fail
                  refine (lTimes_any _ _ _ hca hca).mono ?_
                  rintro e w2 ⟨⟨c2, rfl, hc2⟩, hb2⟩
                  have k2 := h2.below hb2 h2.lt
                  have k3 := h3.below hb2 h3.lt
                  have k4 := h4.below hb2 h4.lt
                  have k5 := h5.below hb2 h5.lt
                  have kb := hb.trans (hb2.mono hb.size)
                  have hst := k5.store 0 16 (by omega) hc2 (fun _ _ => IsInt.one) size73 w2 rfl
                  go_wp2
                  go_roundw
                  case rel => exact ⟨c + 1, by omega, by go_num, ⟨k2.setCellsOther (by omega) _ _, k3.setCellsOther (by omega) _ _, k4.setCellsOther (by omega) _ _, k5.setCells _ _ fun j v hv _ => hc2.list j v hv⟩, below_setCells hwo _ _ kb⟩
                  case measure => simp [intOf] <;> omega
                · rcases (show ¬ c < 4 ∨ (c < 4 ∧ bb = false) by
                    cases bb with
                    | false => exact (Nat.lt_or_ge c 4).elim (fun h => .inr ⟨h, rfl⟩) fun h => .inl (by omega)
                    | true => exact .inl fun h => hcc ⟨h, rfl⟩) with hcc | ⟨hcc, rfl⟩
                  · obtain ⟨z, hz⟩ := h3.int (i := y / 8) (by omega)
                    go_wp2
                    · obtain ⟨p0, hp0⟩ : ∃ p : Nat, Go.bits .and .u32 (z / 2 ^ (4 * (y % 8))) 15 = p := ⟨(Go.bits .and .u32 (z / 2 ^ (4 * (y % 8))) 15).toNat, by have := (and15_u32 (z / 2 ^ (4 * (y % 8)))).1; omega⟩
                      have hp16 : p0 < 16 := by have := (and15_u32 (z / 2 ^ (4 * (y % 8)))).2; omega
                      rw [hp0]
                      refine wp_region_typed (by kernel_rfl) (fun u v => match u with
                          | 13 => v = .pointer (some ⟨V, 0, none⟩)
                          | 17 | 96 => v = .int .u32 p0
                          | 11 => v = .pointer (some ⟨T, 0, none⟩)
                          | 97 => v = .pointer (some ⟨T, p0 * 16, none⟩)
                          | 95 | 98 | 99 => IsF v
                          | 14 => v = .bool true
                          | _ => True)
                        (fun W => (IRow .i64 16 73 (w.heap.size + 1) W ∧ IRow .u32 8 45 (w.heap.size + 1 + 1) W ∧ IRow .i64 256 154 T W ∧ IRow .i64 16 73 V W) ∧ Below w.heap.size w W)
                        (by kernel_rfl) [95, 96, 97, 98, 99, 14] (by kernel_rfl) [13, 17, 11, 13] (by kernel_rfl) ?_ ⟨⟨h2, h3, h4, h5⟩, hb.drew⟩ ?_ ?_
                      · simp
                      · refine ⟨safe_loadRow Tryz.underlying73 rfl size73 V 0 (fun v hv => hv) (by omega) (fun W hW => hW.1.2.2.2) (fun cs hcs => ⟨cs, rfl, hcs⟩),
                          safe_move (fun d hd => by cases hd; exact fun v hv => hv),
                          safe_place Tryz.underlying154 size73 T 0 (p0 : Int) (fun v hv => hv) (fun v hv => hv) (by omega) (by omega) ?_,
                          safe_loadRow Tryz.underlying73 rfl size73 T (p0 * 16) (fun v hv => hv) (by omega) (fun W hW => hW.1.2.2.1) (fun cs hcs => ⟨cs, rfl, hcs⟩),
                          safe_call2 IsF IsF (fun v hv => hv) (fun v hv => hv) call51 ?_,
                          safe_storeRow size73 V 0 (fun v hv => hv) (fun v hv => hv) (fun _ _ => IsInt.one) (by omega) (fun W hW => hW.1.2.2.2) ?_,
                          safe_assign (fun d hd => by cases hd; exact rfl), trivial⟩
                        · show _ = _
                          simp
                        · rintro a b W ⟨⟨k2, k3, k4, k5⟩, kb⟩ ⟨ca, rfl, hca⟩ ⟨cb, rfl, hcb⟩
                          refine (lTimes_any _ _ _ hca hcb).mono ?_
                          rintro e w2 ⟨⟨c2, rfl, hc2⟩, hb2⟩
                          exact ⟨_, rfl, ⟨⟨k2.below hb2 k2.lt, k3.below hb2 k3.lt, k4.below hb2 k4.lt, k5.below hb2 k5.lt⟩, kb.trans (hb2.mono kb.size)⟩, fun d hd => by cases hd; exact ⟨c2, rfl, hc2⟩⟩
                        · rintro W cs ⟨⟨k2, k3, k4, k5⟩, kb⟩ hcs
                          exact ⟨⟨k2.setCellsOther (by omega) _ _, k3.setCellsOther (by omega) _ _, k4.setCellsOther (by omega) _ _, k5.setCells _ _ fun j v hv _ => hcs.list j v (by simpa using hv)⟩, below_setCells hwo _ _ kb⟩
                      · rintro f w' ⟨⟨k2, k3, k4, k5⟩, kb⟩ hT
                        have e14 : f 14 = .bool true := hT 14 (by simp)
                        simp only [putAll, List.setIfInBounds_toArray, List.set_cons_zero, List.set_cons_succ, e14]
                        go_wp2
                        go_roundw
                        case rel => exact ⟨true, (y : Int) - 1, by omega, by omega, rfl, by go_num, ⟨k2, k3, k4, k5⟩, kb⟩
                        case measure => simp [intOf] <;> omega
                    · go_roundw
                      case rel => exact ⟨_, (y : Int) - 1, by omega, by omega, rfl, by go_num, ⟨h2, h3, h4, h5⟩, hb⟩
                      case measure => simp [intOf] <;> omega
                  · obtain ⟨z, hz⟩ := h3.int (i := y / 8) (by omega)
                    go_wp2
                    · obtain ⟨p0, hp0⟩ : ∃ p : Nat, Go.bits .and .u32 (z / 2 ^ (4 * (y % 8))) 15 = p := ⟨(Go.bits .and .u32 (z / 2 ^ (4 * (y % 8))) 15).toNat, by have := (and15_u32 (z / 2 ^ (4 * (y % 8)))).1; omega⟩
                      have hp16 : p0 < 16 := by have := (and15_u32 (z / 2 ^ (4 * (y % 8)))).2; omega
                      rw [hp0]
                      refine wp_region_typed (by kernel_rfl) (fun u v => match u with
                          | 13 => v = .pointer (some ⟨V, 0, none⟩)
                          | 17 | 96 => v = .int .u32 p0
                          | 11 => v = .pointer (some ⟨T, 0, none⟩)
                          | 97 => v = .pointer (some ⟨T, p0 * 16, none⟩)
                          | 95 | 98 | 99 => IsF v
                          | 14 => v = .bool true
                          | _ => True)
                        (fun W => (IRow .i64 16 73 (w.heap.size + 1) W ∧ IRow .u32 8 45 (w.heap.size + 1 + 1) W ∧ IRow .i64 256 154 T W ∧ IRow .i64 16 73 V W) ∧ Below w.heap.size w W)
                        (by kernel_rfl) [95, 96, 97, 98, 99, 14] (by kernel_rfl) [13, 17, 11, 13] (by kernel_rfl) ?_ ⟨⟨h2, h3, h4, h5⟩, hb.drew⟩ ?_ ?_
                      · simp
                      · refine ⟨safe_loadRow Tryz.underlying73 rfl size73 V 0 (fun v hv => hv) (by omega) (fun W hW => hW.1.2.2.2) (fun cs hcs => ⟨cs, rfl, hcs⟩),
                          safe_move (fun d hd => by cases hd; exact fun v hv => hv),
                          safe_place Tryz.underlying154 size73 T 0 (p0 : Int) (fun v hv => hv) (fun v hv => hv) (by omega) (by omega) ?_,
                          safe_loadRow Tryz.underlying73 rfl size73 T (p0 * 16) (fun v hv => hv) (by omega) (fun W hW => hW.1.2.2.1) (fun cs hcs => ⟨cs, rfl, hcs⟩),
                          safe_call2 IsF IsF (fun v hv => hv) (fun v hv => hv) call51 ?_,
                          safe_storeRow size73 V 0 (fun v hv => hv) (fun v hv => hv) (fun _ _ => IsInt.one) (by omega) (fun W hW => hW.1.2.2.2) ?_,
                          safe_assign (fun d hd => by cases hd; exact rfl), trivial⟩
                        · show _ = _
                          simp
                        · rintro a b W ⟨⟨k2, k3, k4, k5⟩, kb⟩ ⟨ca, rfl, hca⟩ ⟨cb, rfl, hcb⟩
                          refine (lTimes_any _ _ _ hca hcb).mono ?_
                          rintro e w2 ⟨⟨c2, rfl, hc2⟩, hb2⟩
                          exact ⟨_, rfl, ⟨⟨k2.below hb2 k2.lt, k3.below hb2 k3.lt, k4.below hb2 k4.lt, k5.below hb2 k5.lt⟩, kb.trans (hb2.mono kb.size)⟩, fun d hd => by cases hd; exact ⟨c2, rfl, hc2⟩⟩
                        · rintro W cs ⟨⟨k2, k3, k4, k5⟩, kb⟩ hcs
                          exact ⟨⟨k2.setCellsOther (by omega) _ _, k3.setCellsOther (by omega) _ _, k4.setCellsOther (by omega) _ _, k5.setCells _ _ fun j v hv _ => hcs.list j v (by simpa using hv)⟩, below_setCells hwo _ _ kb⟩
                      · rintro f w' ⟨⟨k2, k3, k4, k5⟩, kb⟩ hT
                        have e14 : f 14 = .bool true := hT 14 (by simp)
                        simp only [putAll, List.setIfInBounds_toArray, List.set_cons_zero, List.set_cons_succ, e14]
                        go_wp2
                        go_roundw
                        case rel => exact ⟨true, (y : Int) - 1, by omega, by omega, rfl, by go_num, ⟨k2, k3, k4, k5⟩, kb⟩
                        case measure => simp [intOf] <;> omega
                    · go_roundw
                      case rel => exact ⟨_, (y : Int) - 1, by omega, by omega, rfl, by go_num, ⟨h2, h3, h4, h5⟩, hb⟩
                      case measure => simp [intOf] <;> omega
            · go_wp2_with (first | (refine wpList_load_Row rfl 73 _ rfl _ rfl h5 _ Tryz.underlying73 rfl size73 ?_; intro cs1 hcs1) | (refine wpList_store_Row rfl 73 _ _ rfl _ _ rfl rfl h2 (by assumption) (fun _ _ => IsInt.one) size73 ?_))
              exact ret_Row Tryz.results72 (w.heap.size + 1) rfl (h2.setRow hcs1) _ Tryz.underlying73 rfl size73 rfl fun cs2 hcs2 => ⟨⟨cs2, rfl, hcs2⟩, below_setRow' hb (by omega) _⟩
end Go.Proofs.YtcebfkhfnjbfjaaGreatDoor
