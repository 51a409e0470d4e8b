/- Contracts of shape: an inverse, a root of -1, the bytes of a number and back. -/
import Derived.Test.YtcebfkhfnjbfjaaGreatDoorC04
import Derived.BigRegion
import Derived.Deep.DeepCutAuto
import Derived.Deep.CutBlock
namespace Go.Proofs.YtcebfkhfnjbfjaaGreatDoor
open Go.RowKit
set_option maxHeartbeats 400000 in
set_option maxRecDepth 100000 in
theorem lOver_any (cs : Array Value) (w : World) (h : Ints .i64 16 cs) :
    Calls Tryz.prog 54 #[.agg cs] w fun e w' => (∃ cs', e = .returned (.agg cs') ∧ Ints .i64 16 cs') ∧ Below w.heap.size w w' := by
  have hR1 := (Row.new h w 73).alloc (.cells z16 73)
  have hR2 := row_new2 (E := 73) z16_ints w (.cells cs 73)
  obtain ⟨ca, hca, hl1⟩ := hR1.load 0 16 (by omega) Tryz.underlying73 rfl size73
  go_enter Tryz.func54, Tryz.ntmps54
  go_wp2_with fail
  refine (lTo_any _ _ _ _ hca (by omega) (by omega)).mono ?_
  rintro e w1 ⟨⟨c1, rfl, hc1⟩, hb1⟩
  have k := hR2.below hb1 (by simp)
  have hst := k.store 0 16 (by omega) hc1 (fun _ _ => IsInt.one) size73 w1 rfl
  go_wp2
  exact ret_Row Tryz.results54 (w.heap.size + 1) rfl (k.setCells _ _ fun j v hv _ => hc1.list j v hv) _ Tryz.underlying73 rfl size73 rfl fun cs2 hcs2 => ⟨⟨cs2, rfl, hcs2⟩, below_setCells (by omega) _ _ ((((Below.refl _ _).alloc (by simp <;> omega) _).alloc (by simp <;> omega) _).trans (hb1.mono (by simp <;> omega)))⟩
set_option maxHeartbeats 400000 in
set_option maxRecDepth 100000 in
theorem lTurn_any (w : World) :
    Calls Tryz.prog 77 #[] w fun e w' => (∃ cs', e = .returned (.agg cs') ∧ Ints .i64 16 cs') ∧ Below w.heap.size w w' := by
  have hR1 := Row.new z16_ints w 73
  go_enter Tryz.func77, Tryz.ntmps77
  go_wp2_with fail
  refine (lSmall_any _ _).mono ?_
  rintro e w1 ⟨⟨c1, rfl, hc1⟩, hb1⟩
  go_wp2_with fail
  refine (lTo_any _ _ _ _ hc1 (by omega) (by omega)).mono ?_
  rintro e w2 ⟨⟨c2, rfl, hc2⟩, hb2⟩
  have k := (hR1.below hb1 (by simp)).below hb2 (by have := hb1.size; simp at this; omega)
  have hst := k.store 0 16 (by omega) hc2 (fun _ _ => IsInt.one) size73 w2 rfl
  go_wp2
  exact ret_Row Tryz.results77 w.heap.size rfl (k.setCells _ _ fun j v hv _ => hc2.list j v hv) _ Tryz.underlying73 rfl size73 rfl fun cs2 hcs2 => ⟨⟨cs2, rfl, hcs2⟩, below_setCells (by omega) _ _ ((((Below.refl _ _).alloc (by simp <;> omega) _).trans (hb1.mono (by simp <;> omega))).trans (hb2.mono (by have := hb1.size; simp at this; omega)))⟩
set_option maxHeartbeats 1000000 in
set_option maxRecDepth 100000 in
theorem lUnpacked_any (s : ByteArray) (w : World) (h : s.size = 32) :
    Calls Tryz.prog 74 #[.string s] w fun e w' => (∃ cs', e = .returned (.agg cs') ∧ Ints .i64 16 cs') ∧ Below w.heap.size w w' := by
  have hR1 := (Row.new z16_ints w 73).alloc (.cells z16 73)
  have hR2 := row_new2 (E := 73) z16_ints w (.cells z16 73)
  have hs : s.size ≤ 32 ∧ 32 ≤ s.size := by omega
  clear h
  obtain ⟨hs1, hs2⟩ := hs
  go_enter Tryz.func74, Tryz.ntmps74
  go_wp2
  go_loopw [4] (fun i wr => ∃ n : Nat, n ≤ 16 ∧ i = .int .i64 n ∧ IRow .i64 16 73 w.heap.size wr ∧ IRow .i64 16 73 (w.heap.size + 1) wr ∧ Below w.heap.size w wr) (fun i _ => 16 - (intOf i).toNat)
  case atStart => exact ⟨0, by omega, rfl, hR1, hR2, ((Below.refl _ _).alloc (by simp <;> omega) _).alloc (by simp <;> omega) _⟩
  case round =>
    obtain ⟨n, hn, rfl, h1, h2, hb⟩ := hrel
    by_cases hlt : n < 16
    · obtain ⟨x, hx⟩ := h2.int hlt
      have hf := h2.free n
      go_wp2
      have e1 : IntKind.i64.wrap (2 * (n : Int)) = 2 * (n : Int) := IntWalk.i64_in _ (by omega)
      have e2 : IntKind.i64.wrap (2 * (n : Int) + 1) = 2 * (n : Int) + 1 := IntWalk.i64_in _ (by omega)
      obtain ⟨x1, _, hi1⟩ := str_index (P := Tryz.prog) Tryz.underlying9 s .i64 (2 * (n : Int)) (2 * n) (by omega) (by omega)
      obtain ⟨x2, _, hi2⟩ := str_index (P := Tryz.prog) Tryz.underlying9 s .i64 (2 * (n : Int) + 1) (2 * n + 1) (by omega) (by omega)
      have e9 : (n : Int) < 16 := by omega
      go_still_tail 15, (by kernel_rfl)
      clear e1 e2 e9
      go_wp2
      go_roundw
      case rel => exact ⟨n + 1, by omega, by go_num, (h1.setOther (by dsimp only; omega) _).drew, (h2.set fun _ => ⟨_, rfl⟩).drew, (hb.setCell (by dsimp only; omega) _).drew⟩
      case measure => simp [intOf] <;> omega
    · obtain ⟨x, hx⟩ := h2.int (i := 15) (by omega)
      have hf := h2.free 15
      go_wp2_with (first | (refine wpList_load_Row rfl 73 _ rfl _ rfl (h2.set (i := 15) fun _ => ⟨_, rfl⟩) _ Tryz.underlying73 rfl size73 ?_; intro cs1 hcs1) | (refine wpList_store_Row rfl 73 _ _ rfl _ _ rfl rfl (h1.setOther (by dsimp only; omega) _) (by assumption) (fun _ _ => IsInt.one) size73 ?_))
      exact ret_Row Tryz.results74 w.heap.size rfl ((h1.setOther (by dsimp only; omega) _).setRow hcs1) _ Tryz.underlying73 rfl size73 rfl fun cs2 hcs2 => ⟨⟨cs2, rfl, hcs2⟩, below_setRow' (hb.setCell (by dsimp only; omega) _) (by omega) _⟩
abbrev z32b : Array Value := #[.int .u8 0, .int .u8 0, .int .u8 0, .int .u8 0, .int .u8 0, .int .u8 0, .int .u8 0, .int .u8 0, .int .u8 0, .int .u8 0, .int .u8 0, .int .u8 0, .int .u8 0, .int .u8 0, .int .u8 0, .int .u8 0, .int .u8 0, .int .u8 0, .int .u8 0, .int .u8 0, .int .u8 0, .int .u8 0, .int .u8 0, .int .u8 0, .int .u8 0, .int .u8 0, .int .u8 0, .int .u8 0, .int .u8 0, .int .u8 0, .int .u8 0, .int .u8 0]
theorem z32b_ints : Ints .u8 32 z32b := ints_of_list (by decide) rfl
theorem size2 : (Tryz.prog.info? 2).map (·.size) = some 1 := by kernel_rfl
theorem size5 : (Tryz.prog.info? 5).map (·.size) = some 1 := by kernel_rfl
theorem make32b (w : World) : (Instr.makeSlice 22 (.int .i64 32) (.int .i64 32)).run Tryz.prog w = .ok (.slice (some ⟨w.heap.size, 0, none⟩) 32 32) (w.alloc (.cells z32b 5)) := by kernel_rfl
set_option maxHeartbeats 2000000 in
set_option maxRecDepth 100000 in
theorem lPacked_any (cs : Array Value) (w : World) (h : Ints .i64 16 cs) :
    Calls Tryz.prog 57 #[.agg cs] w fun e w' => (∃ s : ByteArray, e = .returned (.string s) ∧ s.size = 32) ∧ Below w.heap.size w w' := by
  have hR1 := Row.new h w 73
  obtain ⟨ca, hca, hl1⟩ := hR1.load 0 16 (by omega) Tryz.underlying73 rfl size73
  go_enter Tryz.func57, Tryz.ntmps57
  go_wp2_with fail
  refine (lCarried_any _ _ hca).mono ?_
  rintro e w1 ⟨⟨c1, rfl, hc1⟩, hb1⟩
  go_wp2_with fail
  refine (lCarried_any _ _ hc1).mono ?_
  rintro e w2 ⟨⟨c2, rfl, hc2⟩, hb2⟩
  go_wp2_with fail
  refine (lCarried_any _ _ hc2).mono ?_
  rintro e w3 ⟨⟨c3, rfl, hc3⟩, hb3⟩
  have k := ((hR1.below hb1 (by simp)).below hb2 (by have := hb1.size; simp at this; omega)).below hb3 (by have := hb1.size; have := hb2.size; simp at *; omega)
  have kb : Below w.heap.size w w3 := ((((Below.refl _ _).alloc (by simp <;> omega) _).trans (hb1.mono (by simp <;> omega))).trans (hb2.mono (by have := hb1.size; simp at this; omega))).trans (hb3.mono (by have := hb1.size; have := hb2.size; simp at *; omega))
  have hst := k.store 0 16 (by omega) hc3 (fun _ _ => IsInt.one) size73 w3 rfl
  go_wp2
  replace k := k.setCells c3.toList 0 fun j v hv _ => hc3.list j v (by simpa using hv)
  replace kb := below_setCells (g := w.heap.size) (by omega) c3.toList 0 kb
  clear hst hR1 hl1 hb1 hb2 hb3
  generalize w3.setCells w.heap.size 0 c3.toList = wy at k kb ⊢
  go_loopw [3] (fun i wr => ∃ n : Nat, n ≤ 3 ∧ i = .int .i64 n ∧ IRow .i64 16 73 w.heap.size wr ∧ Below w.heap.size w wr) (fun i _ => 3 - (intOf i).toNat)
  case atStart => exact ⟨0, by omega, rfl, k, kb⟩
  case round =>
    clear k kb
    obtain ⟨n, hn, rfl, h1, hb⟩ := hrel
    by_cases hlt : n < 3
    · have hd : decide ((n : Int) < 3) = true := by simp; omega
      obtain ⟨wo, rfl⟩ : ∃ wo : World, wo = wr := ⟨_, rfl⟩
      obtain ⟨cb, hcb, hl2⟩ := h1.load 0 16 (by omega) Tryz.underlying73 rfl size73
      have k2 := Row.new z16_ints wo 73
      have hst := k2.store 0 16 (by omega) hcb (fun _ _ => IsInt.one) size73 (wo.alloc (.cells z16 73)) rfl
      have hlo := h1.lt
      go_upto_region 6 with (fail)
      have g1 := (h1.alloc (.cells z16 73)).setCellsOther (g := wo.heap.size) (by omega) cb.toList 0
      have g2 := k2.setCells cb.toList 0 fun j v hv _ => hcb.list j v hv
      have gb := below_setCells (g := wo.heap.size) (by omega) cb.toList 0 (hb.alloc hb.size (.cells z16 73))
      clear hst k2 h1 hb hl2
      obtain ⟨Y, hY⟩ : ∃ Y, Y = wo.heap.size := ⟨_, rfl⟩
      generalize (wo.alloc (.cells z16 73)).setCells wo.heap.size 0 cb.toList = wy at g1 g2 gb ⊢
      rw [← hY] at g2 hlo ⊢
      clear hY wo
      obtain ⟨x, hx⟩ := g2.int (i := 0) (by omega)
      have hf := g2.free 0
      go_wp2
      replace g1 := g1.setOther (a := ⟨Y, 0, none⟩) (by dsimp only; omega) (.int .i64 (wrap64 (x - 65517)))
      replace g2 := g2.set (i := 0) (v := .int .i64 (wrap64 (x - 65517))) fun _ => ⟨_, rfl⟩
      replace gb := gb.setCell (p := ⟨Y, 0, none⟩) (by dsimp only; omega) (.int .i64 (wrap64 (x - 65517)))
      clear hx hf
      go_loopw [5] (fun i wr => ∃ m : Nat, 1 ≤ m ∧ m ≤ 16 ∧ i = .int .i64 m ∧ (IRow .i64 16 73 w.heap.size wr ∧ IRow .i64 16 73 Y wr) ∧ Below w.heap.size w wr) (fun i _ => 16 - (intOf i).toNat)
      case atStart => exact ⟨1, by omega, by omega, rfl, ⟨g1, g2⟩, gb⟩
      case round =>
        clear g1 g2 gb
        obtain ⟨m, hm1, hm, rfl, ⟨h1, h2⟩, hb⟩ := hrel
        by_cases hlm : m < 16
        · obtain ⟨x, hx⟩ := h2.int hlm
          have hf := h2.free m
          go_wp2
          go_roundw
          case rel => exact ⟨m + 1, by omega, by omega, by go_num, ⟨h1.setOther (by dsimp only; omega) _, h2.set fun _ => ⟨_, rfl⟩⟩, hb.setCell (by dsimp only; omega) _⟩
          case measure => simp [intOf] <;> omega
        · obtain ⟨x, hx⟩ := h2.int (i := 15) (by omega)
          have hf := h2.free 15
          go_wp2
          replace h1 := h1.setOther (a := ⟨Y, 15, none⟩) (by dsimp only; omega) (.int .i64 (wrap64 (x + 32768)))
          replace h2 := h2.set (i := 15) (v := .int .i64 (wrap64 (x + 32768))) fun _ => ⟨_, rfl⟩
          replace hb := hb.setCell (p := ⟨Y, 15, none⟩) (by dsimp only; omega) (.int .i64 (wrap64 (x + 32768)))
          clear hx hf
          go_loopw [6, 7] (fun i _ wr => ∃ m : Nat, m ≤ 15 ∧ i = .int .i64 m ∧ (IRow .i64 16 73 w.heap.size wr ∧ IRow .i64 16 73 Y wr) ∧ Below w.heap.size w wr) (fun i _ _ => 15 - (intOf i).toNat)
          case atStart => exact ⟨0, by omega, rfl, ⟨h1, h2⟩, hb⟩
          case round =>
            clear h1 h2 hb
            obtain ⟨c, hc, rfl, ⟨h1, h2⟩, hb⟩ := hrel
            by_cases hlc : c < 15
            · obtain ⟨x, hx⟩ := h2.int (i := c) (by omega)
              obtain ⟨y, hy⟩ := h2.int (i := c + 1) (by omega)
              have hf := h2.free c
              have hf2 := h2.free (c + 1)
              go_wp2
              go_roundw
              case rel => exact ⟨c + 1, by omega, by go_num, ⟨(h1.setOther (by dsimp only; omega) _).setOther (by dsimp only; omega) _, (h2.set fun _ => ⟨_, rfl⟩).set fun _ => ⟨_, rfl⟩⟩, (hb.setCell (by dsimp only; omega) _).setCell (by dsimp only; omega) _⟩
              case measure => simp [intOf] <;> omega
            · obtain ⟨x, hx⟩ := h2.int (i := 15) (by omega)
              obtain ⟨cd, hcd, hl2⟩ := h2.load 0 16 (by omega) Tryz.underlying73 rfl size73
              have hst := fun W hW => h1.store 0 16 (by omega) hcd (fun _ _ => IsInt.one) size73 W hW
              go_wp2
              · go_roundw
                case rel => exact ⟨n + 1, by omega, by go_num, h1.setCells _ _ fun j v hv _ => hcd.list j v hv, below_setCells (by omega) _ _ hb⟩
                case measure => simp [intOf] <;> omega
              · go_roundw
                case rel => exact ⟨n + 1, by omega, by go_num, h1, hb⟩
                case measure => simp [intOf] <;> omega
    · have hmk := make32b
      have k2 := Row.new z32b_ints wr 5
      have k1 := h1.alloc (.cells z32b 5)
      have kb := hb.alloc hb.size (.cells z32b 5)
      have hlo := h1.lt
      go_wp2
      obtain ⟨B, hB⟩ : ∃ B, B = wr.heap.size := ⟨_, rfl⟩
      generalize wr.alloc (.cells z32b 5) = wy at k1 k2 kb ⊢
      rw [← hB] at k2 hlo ⊢
      clear hB h1 hb hmk wr
      go_loopw [9] (fun i wr => ∃ m : Nat, m ≤ 16 ∧ i = .int .i64 m ∧ (IRow .i64 16 73 w.heap.size wr ∧ IRow .u8 32 5 B wr) ∧ Below w.heap.size w wr) (fun i _ => 16 - (intOf i).toNat)
      case atStart => exact ⟨0, by omega, rfl, ⟨k1, k2⟩, kb⟩
      case round =>
        clear k1 k2 kb
        obtain ⟨m, hm, rfl, ⟨h1, h2⟩, hb⟩ := hrel
        by_cases hlm : m < 16
        · go_wp2
          refine wp_region_typed (by kernel_rfl) (fun u v => match u with
              | 8 | 67 | 70 => v = .slice (some ⟨B, 0, none⟩) 32 32
              | 9 | 68 | 71 | 74 | 78 => v = .int .i64 m
              | 69 | 72 => v = .int .i64 (2 * (m : Int))
              | 73 => v = .int .i64 (2 * (m : Int) + 1)
              | 1 => v = .pointer (some ⟨w.heap.size, 0, none⟩)
              | 75 | 79 => v = .pointer (some ⟨w.heap.size, m, none⟩)
              | 76 | 80 | 81 => IsInt .i64 v
              | 77 | 82 => IsInt .u8 v
              | 83 => v = .pointer (some ⟨B, 2 * m, none⟩)
              | 84 => v = .pointer (some ⟨B, 2 * m + 1, none⟩)
              | _ => True)
            (fun W => (IRow .i64 16 73 w.heap.size W ∧ IRow .u8 32 5 B W) ∧ Below w.heap.size w W)
            (by kernel_rfl) [67, 68, 69, 70, 71, 72, 73, 74, 75, 76, 77, 78, 79, 80, 81, 82, 83, 84] (by kernel_rfl) [8, 9, 8, 9, 9, 1, 9, 1] (by kernel_rfl) ?_ ⟨⟨h1, h2⟩, hb.drew⟩ ?_ ?_
          · simp
          · refine ⟨safe_move (fun d hd => by cases hd; exact fun v hv => hv), safe_move (fun d hd => by cases hd; exact fun v hv => hv), safe_mul 2 (m : Int) rfl (fun v hv => hv) ?_, safe_move (fun d hd => by cases hd; exact fun v hv => hv), safe_move (fun d hd => by cases hd; exact fun v hv => hv), safe_mul 2 (m : Int) rfl (fun v hv => hv) ?_, safe_add (2 * (m : Int)) 1 (fun v hv => hv) rfl ?_, safe_move (fun d hd => by cases hd; exact fun v hv => hv),
              safe_place Tryz.underlying73 size2 w.heap.size 0 (m : Int) (fun v hv => hv) (fun v hv => hv) (by omega) (by omega) ?_,
              safe_loadInt Tryz.underlying2 w.heap.size m (fun v hv => hv) hlm (fun W hW => hW.1.1) (fun v hv => hv),
              safe_convInt Tryz.underlying2 Tryz.underlying5 (fun v hv => hv) (fun v hv => hv), safe_move (fun d hd => by cases hd; exact fun v hv => hv),
              safe_place Tryz.underlying73 size2 w.heap.size 0 (m : Int) (fun v hv => hv) (fun v hv => hv) (by omega) (by omega) ?_,
              safe_loadInt Tryz.underlying2 w.heap.size m (fun v hv => hv) hlm (fun W hW => hW.1.1) (fun v hv => hv),
              safe_shift (.inr rfl) 8 (by omega) (fun v hv => hv) rfl (fun v hv => hv),
              safe_convInt Tryz.underlying2 Tryz.underlying5 (fun v hv => hv) (fun v hv => hv),
              safe_placeSl Tryz.underlying22 size5 B 0 32 32 (2 * (m : Int)) (fun v hv => hv) (fun v hv => hv) (by omega) (by omega) ?_,
              safe_storeInt size5 B (2 * m) (fun v hv => hv) (fun v hv => hv) (by omega) (fun W hW => hW.1.2) ?_,
              safe_placeSl Tryz.underlying22 size5 B 0 32 32 (2 * (m : Int) + 1) (fun v hv => hv) (fun v hv => hv) (by omega) (by omega) ?_,
              safe_storeInt size5 B (2 * m + 1) (fun v hv => hv) (fun v hv => hv) (by omega) (fun W hW => hW.1.2) ?_, trivial⟩
            · show _ = _
              rw [IntWalk.i64_in _ (by omega)]
            · show _ = _
              rw [IntWalk.i64_in _ (by omega)]
            · show _ = _
              rw [IntWalk.i64_in _ (by omega)]
            · show _ = _
              simp
            · show _ = _
              simp
            · show _ = _
              simp [show (2 * (m : Int)).toNat = 2 * m by omega]
            · rintro W z ⟨⟨k1, k2⟩, kb⟩
              exact ⟨⟨k1.setOther (by dsimp only; omega) _, k2.set fun _ => ⟨_, rfl⟩⟩, kb.setCell (by dsimp only; omega) _⟩
            · show _ = _
              simp [show (2 * (m : Int) + 1).toNat = 2 * m + 1 by omega]
            · rintro W z ⟨⟨k1, k2⟩, kb⟩
              exact ⟨⟨k1.setOther (by dsimp only; omega) _, k2.set fun _ => ⟨_, rfl⟩⟩, kb.setCell (by dsimp only; omega) _⟩
          · rintro f w' ⟨⟨k1, k2⟩, kb⟩ hT
            simp only [putAll, List.setIfInBounds_toArray, List.set_cons_zero, List.set_cons_succ]
            go_wp2
            go_roundw
            case rel => exact ⟨m + 1, by omega, by go_num, ⟨k1, k2⟩, kb⟩
            case measure => simp [intOf] <;> omega
        · obtain ⟨t, ht, hcv⟩ := h2.text (P := Tryz.prog) (dst := 9) Tryz.underlying22 Tryz.underlying5 Tryz.underlying9 0 32 32 (by omega)
          have hcv' := hcv wr rfl
          clear hcv
          go_wp2
          go_ret
          exact ⟨⟨t, rfl, ht⟩, hb⟩
end Go.Proofs.YtcebfkhfnjbfjaaGreatDoor
