/- Contracts of shape for the reference's field arithmetic: sum, difference, product. -/
import Derived.Test.YtcebfkhfnjbfjaaGreatDoorC02
import Derived.StillTailTactics
import Derived.Deep.QuietTactic
import Derived.BigQuiet
namespace Go.Proofs.YtcebfkhfnjbfjaaGreatDoor
open Go.RowKit
set_option maxHeartbeats 400000 in
set_option maxRecDepth 100000 in
theorem lPlus_any (cs ds : Array Value) (w : World) (h : Ints .i64 16 cs) (h' : Ints .i64 16 ds) :
    Calls Tryz.prog 75 #[.agg cs, .agg ds] w fun e w' => (∃ cs', e = .returned (.agg cs') ∧ Ints .i64 16 cs') ∧ Below w.heap.size w w' := by
  have hR1 := Row.new h w 73
  have hR2 : IRow .i64 16 73 (w.heap.size + 1) ((w.alloc (.cells cs 73)).alloc (.cells ds 73)) := by
    simpa using Row.new (w := w.alloc (.cells cs 73)) h' 73
  have hR3 : IRow .i64 16 73 (w.heap.size + 1 + 1) (((w.alloc (.cells cs 73)).alloc (.cells ds 73)).alloc (.cells z16 73)) := by
    simpa using Row.new (w := (w.alloc (.cells cs 73)).alloc (.cells ds 73)) z16_ints 73
  go_enter Tryz.func75, Tryz.ntmps75
  go_wp2
  go_loopw [5] (fun i wr => ∃ n : Nat, n ≤ 16 ∧ i = .int .i64 n ∧ IRow .i64 16 73 w.heap.size wr ∧ IRow .i64 16 73 (w.heap.size + 1) wr ∧ IRow .i64 16 73 (w.heap.size + 1 + 1) wr ∧ Below w.heap.size w wr) (fun i _ => 16 - (intOf i).toNat)
  case atStart => exact ⟨0, by omega, rfl, (hR1.alloc _).alloc _, hR2.alloc _, hR3, (((Below.refl _ _).alloc (by simp <;> omega) _).alloc (by simp <;> omega) _).alloc (by simp <;> omega) _⟩
  case round =>
    obtain ⟨n, hn, rfl, h1, h2, h3, hb⟩ := hrel
    by_cases hlt : n < 16
    · obtain ⟨x, hx⟩ := h1.int hlt
      obtain ⟨y, hy⟩ := h2.int hlt
      have hf := h1.free n
      go_wp2
      go_still_tail 8, (by kernel_rfl)
      go_wp2
      go_roundw
      case rel => exact ⟨n + 1, by omega, by go_num, (h1.set fun _ => ⟨_, rfl⟩).drew, (h2.setOther (by dsimp only; omega) _).drew, (h3.setOther (by dsimp only; omega) _).drew, (hb.setCell (by dsimp only; omega) _).drew⟩
      case measure => simp [intOf]; omega
    · go_wp2_with (first | (refine wpList_load_Row rfl 73 _ rfl _ rfl h1 _ Tryz.underlying73 rfl size73 ?_; intro cs1 hcs1) | (refine wpList_store_Row rfl 73 _ _ rfl _ _ rfl rfl h3 (by assumption) (fun _ _ => IsInt.one) size73 ?_))
      exact ret_Row Tryz.results75 (w.heap.size + 1 + 1) rfl (h3.setRow hcs1) _ Tryz.underlying73 rfl size73 rfl fun cs2 hcs2 => ⟨⟨cs2, rfl, hcs2⟩, below_setRow' hb (by omega) _⟩
set_option maxHeartbeats 400000 in
set_option maxRecDepth 100000 in
theorem lMinus_any (cs ds : Array Value) (w : World) (h : Ints .i64 16 cs) (h' : Ints .i64 16 ds) :
    Calls Tryz.prog 52 #[.agg cs, .agg ds] w fun e w' => (∃ cs', e = .returned (.agg cs') ∧ Ints .i64 16 cs') ∧ Below w.heap.size w w' := by
  have hR1 := Row.new h w 73
  have hR2 : IRow .i64 16 73 (w.heap.size + 1) ((w.alloc (.cells cs 73)).alloc (.cells ds 73)) := by
    simpa using Row.new (w := w.alloc (.cells cs 73)) h' 73
  have hR3 : IRow .i64 16 73 (w.heap.size + 1 + 1) (((w.alloc (.cells cs 73)).alloc (.cells ds 73)).alloc (.cells z16 73)) := by
    simpa using Row.new (w := (w.alloc (.cells cs 73)).alloc (.cells ds 73)) z16_ints 73
  go_enter Tryz.func52, Tryz.ntmps52
  go_wp2
  go_loopw [5] (fun i wr => ∃ n : Nat, n ≤ 16 ∧ i = .int .i64 n ∧ IRow .i64 16 73 w.heap.size wr ∧ IRow .i64 16 73 (w.heap.size + 1) wr ∧ IRow .i64 16 73 (w.heap.size + 1 + 1) wr ∧ Below w.heap.size w wr) (fun i _ => 16 - (intOf i).toNat)
  case atStart => exact ⟨0, by omega, rfl, (hR1.alloc _).alloc _, hR2.alloc _, hR3, (((Below.refl _ _).alloc (by simp <;> omega) _).alloc (by simp <;> omega) _).alloc (by simp <;> omega) _⟩
  case round =>
    obtain ⟨n, hn, rfl, h1, h2, h3, hb⟩ := hrel
    by_cases hlt : n < 16
    · obtain ⟨x, hx⟩ := h1.int hlt
      obtain ⟨y, hy⟩ := h2.int hlt
      have hf := h1.free n
      go_wp2
      go_still_tail 8, (by kernel_rfl)
      go_wp2
      go_roundw
      case rel => exact ⟨n + 1, by omega, by go_num, (h1.set fun _ => ⟨_, rfl⟩).drew, (h2.setOther (by dsimp only; omega) _).drew, (h3.setOther (by dsimp only; omega) _).drew, (hb.setCell (by dsimp only; omega) _).drew⟩
      case measure => simp [intOf]; omega
    · go_wp2_with (first | (refine wpList_load_Row rfl 73 _ rfl _ rfl h1 _ Tryz.underlying73 rfl size73 ?_; intro cs1 hcs1) | (refine wpList_store_Row rfl 73 _ _ rfl _ _ rfl rfl h3 (by assumption) (fun _ _ => IsInt.one) size73 ?_))
      exact ret_Row Tryz.results52 (w.heap.size + 1 + 1) rfl (h3.setRow hcs1) _ Tryz.underlying73 rfl size73 rfl fun cs2 hcs2 => ⟨⟨cs2, rfl, hcs2⟩, below_setRow' hb (by omega) _⟩
theorem row_new3 {k : IntKind} {n E : Nat} {c : Array Value} (h : Ints k n c) (w : World) (o1 o2 : Obj) : IRow k n E (w.heap.size + 1 + 1) (((w.alloc o1).alloc o2).alloc (.cells c E)) := by
  simpa using Row.new (w := (w.alloc o1).alloc o2) h E
theorem row_new2 {k : IntKind} {n E : Nat} {c : Array Value} (h : Ints k n c) (w : World) (o1 : Obj) : IRow k n E (w.heap.size + 1) ((w.alloc o1).alloc (.cells c E)) := by
  simpa using Row.new (w := w.alloc o1) h E
abbrev z31 : Array Value := #[.int .i64 0, .int .i64 0, .int .i64 0, .int .i64 0, .int .i64 0, .int .i64 0, .int .i64 0, .int .i64 0, .int .i64 0, .int .i64 0, .int .i64 0, .int .i64 0, .int .i64 0, .int .i64 0, .int .i64 0, .int .i64 0, .int .i64 0, .int .i64 0, .int .i64 0, .int .i64 0, .int .i64 0, .int .i64 0, .int .i64 0, .int .i64 0, .int .i64 0, .int .i64 0, .int .i64 0, .int .i64 0, .int .i64 0, .int .i64 0, .int .i64 0]
theorem z31_ints : Ints .i64 31 z31 := ints_of_list (by decide) rfl
set_option maxHeartbeats 1000000 in
set_option maxRecDepth 100000 in
theorem lTimes_any (cs ds : Array Value) (w : World) (h : Ints .i64 16 cs) (h' : Ints .i64 16 ds) :
    Calls Tryz.prog 51 #[.agg cs, .agg ds] w fun e w' => (∃ cs', e = .returned (.agg cs') ∧ Ints .i64 16 cs') ∧ Below w.heap.size w w' := by
  have hR1 := Row.new h w 73
  have hR2 := row_new2 (E := 73) h' w (.cells cs 73)
  have hR3 := row_new3 (E := 73) z16_ints w (.cells cs 73) (.cells ds 73)
  have hR4 : IRow .i64 31 138 (w.heap.size + 1 + 1 + 1) ((((w.alloc (.cells cs 73)).alloc (.cells ds 73)).alloc (.cells z16 73)).alloc (.cells z31 138)) := by
    simpa using Row.new (w := ((w.alloc (.cells cs 73)).alloc (.cells ds 73)).alloc (.cells z16 73)) z31_ints 138
  go_enter Tryz.func51, Tryz.ntmps51
  go_wp2
  go_loopw [6, 7] (fun i _ wr => ∃ n : Nat, n ≤ 16 ∧ i = .int .i64 n ∧ (IRow .i64 16 73 w.heap.size wr ∧ IRow .i64 16 73 (w.heap.size + 1) wr ∧ IRow .i64 16 73 (w.heap.size + 1 + 1) wr ∧ IRow .i64 31 138 (w.heap.size + 1 + 1 + 1) wr) ∧ Below w.heap.size w wr ∧ w.heap.size + 1 + 1 + 1 + 1 ≤ wr.heap.size) (fun i _ _ => 16 - (intOf i).toNat)
  case atStart => exact ⟨0, by omega, rfl, ⟨((hR1.alloc _).alloc _).alloc _, (hR2.alloc _).alloc _, hR3.alloc _, hR4⟩, ((((Below.refl _ _).alloc (by simp <;> omega) _).alloc (by simp <;> omega) _).alloc (by simp <;> omega) _).alloc (by simp <;> omega) _, by simp⟩
  case round =>
    obtain ⟨n, hn, rfl, ⟨h1, h2, h3, h4⟩, hb, hsz⟩ := hrel
    by_cases hlt : n < 16
    · have hd : decide ((n : Int) < 16) = true := by simp; omega
      go_wp2
      obtain ⟨wo, rfl⟩ : ∃ wo : World, wo = wr := ⟨_, rfl⟩
      go_loopw [7] (fun i wr => ∃ m : Nat, m ≤ 16 ∧ i = .int .i64 m ∧ (IRow .i64 16 73 w.heap.size wr ∧ IRow .i64 16 73 (w.heap.size + 1) wr ∧ IRow .i64 16 73 (w.heap.size + 1 + 1) wr ∧ IRow .i64 31 138 (w.heap.size + 1 + 1 + 1) wr) ∧ Below w.heap.size w wr ∧ w.heap.size + 1 + 1 + 1 + 1 ≤ wr.heap.size) (fun i _ => 16 - (intOf i).toNat)
      case atStart => exact ⟨0, by omega, rfl, ⟨h1, h2, h3, h4⟩, hb, hsz⟩
      case round =>
        clear h1 h2 h3 h4 hb hsz
        obtain ⟨m, hm, rfl, ⟨h1, h2, h3, h4⟩, hb, hsz⟩ := hrel
        by_cases hlm : m < 16
        · obtain ⟨x, hx⟩ := h1.int hlt
          obtain ⟨y, hy⟩ := h2.int hlm
          obtain ⟨z, hz⟩ := h4.int (i := n + m) (by omega)
          have hf := h4.free (n + m)
          go_wp2
          have e1 : IntKind.i64.wrap ((n : Int) + m) = (n : Int) + m := IntWalk.i64_in _ (by omega)
          have e2 : (0 : Int) ≤ (n : Int) + m := by omega
          have e4 : (n : Int) + m < 31 := by omega
          have e3 : ((n : Int) + m).toNat = n + m := by omega
          have e5 : (n : Int) < 16 := by omega
          have e6 : (m : Int) < 16 := by omega
          go_still_tail 14, (by kernel_rfl)
          clear e1 e2 e3 e4 e5 e6
          go_wp2
          go_roundw
          case rel => exact ⟨m + 1, by omega, by go_num, ⟨(h1.setOther (by dsimp only; omega) _).drew, (h2.setOther (by dsimp only; omega) _).drew, (h3.setOther (by dsimp only; omega) _).drew, (h4.set fun _ => ⟨_, rfl⟩).drew⟩, (hb.setCell (by dsimp only; omega) _).drew, by simpa using hsz⟩
          case measure => simp [intOf]; omega
        · go_wp2
          go_roundw
          case rel => exact ⟨n + 1, by omega, by go_num, ⟨h1, h2, h3, h4⟩, hb, hsz⟩
          case measure => simp [intOf]; omega
    · go_wp2
      have hR5 : IRow .i64 16 73 wr.heap.size (wr.alloc (.cells z16 73)) := Row.new z16_ints wr 73
      obtain ⟨wo, rfl⟩ : ∃ wo : World, wo = wr := ⟨_, rfl⟩
      go_loopw [9] (fun i wx => ∃ m : Nat, m ≤ 16 ∧ i = .int .i64 m ∧ (IRow .i64 16 73 (w.heap.size + 1 + 1) wx ∧ IRow .i64 31 138 (w.heap.size + 1 + 1 + 1) wx ∧ IRow .i64 16 73 wo.heap.size wx) ∧ Below w.heap.size w wx) (fun i _ => 16 - (intOf i).toNat)
      case atStart => exact ⟨0, by omega, rfl, ⟨h3.alloc _, h4.alloc _, hR5⟩, hb.alloc (by omega) _⟩
      case round =>
        clear h1 h2 h3 h4 hb hR5
        obtain ⟨m, hm, rfl, ⟨h3, h4, h5⟩, hb⟩ := hrel
        by_cases hlm : m < 16
        · obtain ⟨x, hx⟩ := h4.int (i := m) (by omega)
          obtain ⟨x0, hx0⟩ := h5.int (i := m) (by omega)
          have hf := h5.free m
          by_cases hl15 : m < 15
          · obtain ⟨y, hy⟩ := h4.int (i := m + 16) (by omega)
            go_wp2
            have k3 := h3.setOther (a := ⟨wo.heap.size, m, none⟩) (by dsimp only; omega) (.int .i64 x)
            have k4 := h4.setOther (a := ⟨wo.heap.size, m, none⟩) (by dsimp only; omega) (.int .i64 x)
            have k5 := h5.set (i := m) (v := .int .i64 x) fun _ => ⟨_, rfl⟩
            have kb := hb.setCell (p := ⟨wo.heap.size, m, none⟩) (by dsimp only; omega) (.int .i64 x)
            clear hx hx0 hf hy h3 h4 h5 hb
            generalize wr.setCell ⟨wo.heap.size, m, none⟩ (.int .i64 x) = wy at k3 k4 k5 kb ⊢
            obtain ⟨x0, hx0⟩ := k5.int (i := m) (by omega)
            obtain ⟨y, hy⟩ := k4.int (i := m + 16) (by omega)
            have hf := k5.free m
            have e1 : IntKind.i64.wrap ((m : Int) + 16) = (m : Int) + 16 := IntWalk.i64_in _ (by omega)
            have e2 : (0 : Int) ≤ (m : Int) + 16 := by omega
            have e4 : (m : Int) + 16 < 31 := by omega
            have e3 : ((m : Int) + 16).toNat = m + 16 := by omega
            have e5 : (m : Int) < 16 := by omega
            go_still_tail 10, (by kernel_rfl)
            clear e1 e2 e3 e4 e5
            go_wp2
            go_roundw
            case rel => exact ⟨m + 1, by omega, by go_num, ⟨(k3.setOther (by dsimp only; omega) _).drew, (k4.setOther (by dsimp only; omega) _).drew, (k5.set fun _ => ⟨_, rfl⟩).drew⟩, (kb.setCell (by dsimp only; omega) _).drew⟩
            case measure => simp [intOf]; omega
          · go_wp2
            go_roundw
            case rel => exact ⟨m + 1, by omega, by go_num, ⟨h3.setOther (by dsimp only; omega) _, h4.setOther (by dsimp only; omega) _, h5.set fun _ => ⟨_, rfl⟩⟩, hb.setCell (by dsimp only; omega) _⟩
            case measure => simp [intOf]; omega
        · go_wp2_with (first | (refine wpList_load_Row rfl 73 _ rfl _ rfl h5 _ Tryz.underlying73 rfl size73 ?_; intro cs1 hcs1) | fail)
          refine (lCarried_any _ _ hcs1).mono ?_
          rintro e w1 ⟨⟨c1, rfl, hc1⟩, hb1⟩
          go_wp2_with fail
          refine (lCarried_any _ _ hc1).mono ?_
          rintro e w2 ⟨⟨c2, rfl, hc2⟩, hb2⟩
          have k3 := (h3.below hb1 (by have := h3.lt; omega)).below hb2 (by have := h3.lt; have := hb1.size; omega)
          have kb := (hb.trans (hb1.mono hb.size)).trans (hb2.mono (Nat.le_trans hb.size hb1.size))
          go_wp2_with (refine wpList_store_Row rfl 73 _ _ rfl _ _ rfl rfl k3 hc2 (fun _ _ => IsInt.one) size73 ?_)
          exact ret_Row Tryz.results51 (w.heap.size + 1 + 1) rfl (k3.setRow hc2) _ Tryz.underlying73 rfl size73 rfl fun cs2 hcs2 => ⟨⟨cs2, rfl, hcs2⟩, below_setRow' kb (by omega) _⟩
end Go.Proofs.YtcebfkhfnjbfjaaGreatDoor
