/- Steps over points; many rounds of one. Contract of shape of the reference's sum of two points. Printed by wip's gen_added.py. Contract of shape of a point taken many times. -/
import Derived.Test.YtcebfkhfnjbfjaaGreatDoorC07
namespace Go.Proofs.YtcebfkhfnjbfjaaGreatDoor
open Go.RowKit
set_option linter.unusedVariables false
set_option linter.unusedSimpArgs false
theorem build_ptF (a b c e : Value) (W : World) (ha : IsF a) (hb : IsF b) (hc : IsF c) (he : IsF e) : ∃ v, Sem.run Tryz.prog (Instr.build 75 #[(0, a), (1, b), (2, c), (3, e)]) W = .ok v W ∧ IsPt v := by
  obtain ⟨ca, rfl, ka⟩ := ha
  obtain ⟨cb, rfl, kb⟩ := hb
  obtain ⟨cc, rfl, kc⟩ := hc
  obtain ⟨ce, rfl, ke⟩ := he
  obtain ⟨x, h1, h2⟩ := build_pt ca cb cc ce ka kb kc ke W
  exact ⟨_, h1, x, rfl, h2⟩
/-- A point is written into a row of its own. -/
theorem F_storePtIn {T : Tmp → List Nat → Value → Prop} {w0 : World} {R : World → Prop} {L : List Nat} {x y : Tmp} {t : TypeId} {ps : String} {af : Array Edge} {gd : Option (Nat × Bool)} (b : Nat) (hwb : w0.heap.size ≤ b)
    (hrow : ∀ W, R W → IRow .i64 64 75 b W) (hkeep : ∀ (W : World) (cs : Array Value), R W → Ints .i64 64 cs → R (W.setCells b 0 cs.toList))
    (hx : ∀ G v, T x G v → v = .pointer (some ⟨b, 0, none⟩)) (hy : ∀ G v, T y G v → IsPt v) :
    SafeOpG Tryz.prog T (fun G => FInv w0 R (G ++ L)) { dst := none, op := .store 75 (.tmp x) (.tmp y), type := t, pos := ps, after := af, guard := gd } :=
  SafeOpG.of fun G => safe_store _ _ (fun v hv => hx G v hv) (fun v hv => hy G v hv) fun a c W hI ha ⟨cs, hb, hc⟩ => by
    subst ha hb
    refine ⟨_, (hrow W hI.rest).store 0 64 (by omega) hc (fun _ _ => IsInt.one) size75 W rfl, ⟨below_setCells hwb _ _ hI.below, fun g hg => ⟨(hI.rows g hg).1, (hI.rows g hg).2.setCellsOther ((hI.rows g hg).2.ne (hrow W hI.rest) (by decide)) _ _⟩, hkeep W cs hI.rest hc⟩, fun d' hd' => by cases hd'⟩
/-- Rows of a point's make, and the curve's. -/
theorem pt_keep {b b' n : Nat} {E : Nat} {P : Nat → Value → Prop} {W : World} (h : Row P n E b' W) (hne : b' ≠ b) (cs : Array Value) : Row P n E b' (W.setCells b 0 cs.toList) := h.setCellsOther hne _ _
theorem pt_put {b : Nat} {W : World} (h : IRow .i64 64 75 b W) {cs : Array Value} (hc : Ints .i64 64 cs) : IRow .i64 64 75 b (W.setCells b 0 cs.toList) := h.setCells _ _ fun j v hv _ => hc.list j v (by simpa using hv)
theorem ret_pt {fn : Func} {R : Ending → World → Prop} {a : Act} {w : World} {p : Tmp} (hres : fn.results = #[.cell p 75]) (g : Nat) (hp : a.tmps.getD p undef = .pointer (some ⟨g, 0, none⟩)) {E : Nat} (hr : IRow .i64 64 E g w) (hdef : a.defers = []) (hR : ∀ cs, Ints .i64 64 cs → R (.returned (.agg cs)) w) : bodyPost Tryz.prog fn R .ret a w :=
  ret_Row hres g hp hr _ Tryz.underlying75 rfl size75 hdef hR
end Go.Proofs.YtcebfkhfnjbfjaaGreatDoor
namespace Go.Proofs.YtcebfkhfnjbfjaaGreatDoor
open Go.RowKit
set_option linter.unusedVariables false
set_option linter.unusedSimpArgs false
set_option maxHeartbeats 4000000 in
set_option maxRecDepth 100000 in
theorem added_any (cs ps qs : Array Value) (w : World) (h : Cells curveP 169 cs) (hp : Ints .i64 64 ps) (hq : Ints .i64 64 qs) :
    Calls Tryz.prog 61 #[.agg cs, .agg ps, .agg qs] w fun e w' => (∃ c : Array Value, e = .returned (.agg c) ∧ Ints .i64 64 c) ∧ Below w.heap.size w w' := by
  have hR : RKept w (fun W => Row curveP 169 82 w.heap.size W ∧ IRow .i64 64 75 (w.heap.size + 1) W ∧ IRow .i64 64 75 (w.heap.size + 1 + 1) W ∧ IRow .i64 64 75 (w.heap.size + 1 + 1 + 1) W) := (rkept_row (by omega)).and ((rkept_row (by omega)).and ((rkept_row (by omega)).and (rkept_row (by omega))))
  have hI0 : FInv w (fun W => Row curveP 169 82 w.heap.size W ∧ IRow .i64 64 75 (w.heap.size + 1) W ∧ IRow .i64 64 75 (w.heap.size + 1 + 1) W ∧ IRow .i64 64 75 (w.heap.size + 1 + 1 + 1) W) [] ((((w.alloc (.cells cs 82)).alloc (.cells ps 75)).alloc (.cells qs 75)).alloc (.cells z64 75)) :=
    ⟨((((Below.refl _ _).alloc (by simp <;> omega) _).alloc (by simp <;> omega) _).alloc (by simp <;> omega) _).alloc (by simp <;> omega) _, fun g hg => by simp at hg,
      (((Row.new h w 82).alloc _).alloc _).alloc _, ((row_new2 hp w _).alloc _).alloc _, (row_new3 hq w _ _).alloc _, by simpa using Row.new (w := ((w.alloc (.cells cs 82)).alloc (.cells ps 75)).alloc (.cells qs 75)) z64_ints 75⟩
  go_enter Tryz.func61, Tryz.ntmps61
  go_upto_region 1 with (fail)
  obtain ⟨L, hL⟩ : ∃ L : List Nat, L = [] := ⟨_, rfl⟩
  rw [← hL] at hI0
  clear hL
  have hI := hI0
  clear hI0
  refine wp_region_typedG (by kernel_rfl) (fun u G v => (match u with | 4 => v = .pointer (some ⟨w.heap.size + 1, 0, none⟩) | 5 => v = .pointer (some ⟨w.heap.size + 1 + 1, 0, none⟩) | 7 => True | 15 => v = .pointer (some ⟨w.heap.size + 1, 16, none⟩) | 16 => IsF v | 17 => v = .pointer (some ⟨w.heap.size + 1, 0, none⟩) | 18 => IsF v | 19 => IsF v | 20 => v = .pointer (some ⟨w.heap.size + 1 + 1, 16, none⟩) | 21 => IsF v | 22 => v = .pointer (some ⟨w.heap.size + 1 + 1, 0, none⟩) | 23 => IsF v | 24 => IsF v | 25 => IsF v | _ => True) ∧ (u ∈ [7] → ∃ g, g ∈ G ∧ v = .pointer (some ⟨g, 0, none⟩)))
    (fun G => FInv w (fun W => Row curveP 169 82 w.heap.size W ∧ IRow .i64 64 75 (w.heap.size + 1) W ∧ IRow .i64 64 75 (w.heap.size + 1 + 1) W ∧ IRow .i64 64 75 (w.heap.size + 1 + 1 + 1) W) (G ++ L)) (fun u G g v hv => ⟨hv.1, fun hu => by obtain ⟨g', hg', e⟩ := hv.2 hu; exact ⟨g', List.mem_cons_of_mem _ hg', e⟩⟩) (by kernel_rfl) [15, 16, 17, 18, 19, 20, 21, 22, 23, 24, 25, 7] (by kernel_rfl) [4, 4, 5, 5] (by kernel_rfl) ?h0 (hI.drew hR) ?hs ?hQ
  case h0 => simp
  case hs => exact ⟨SafeOpG.of fun G => safe_fieldAddr Tryz.underlying75 rfl size73 (by decide) (w.heap.size + 1) 0 (fun v hv => hv.1) ⟨rfl, fun hu => absurd hu (by decide)⟩,
    SafeOpG.of fun G => safe_loadRow (n := 64) Tryz.underlying73 rfl size73 (w.heap.size + 1) 16 (fun v hv => hv.1) (by omega) (fun W hW => hW.rest.2.1) fun cs hcs => ⟨⟨cs, rfl, hcs⟩, fun hu => absurd hu (by decide)⟩,
    SafeOpG.of fun G => safe_fieldAddr Tryz.underlying75 rfl size73 (by decide) (w.heap.size + 1) 0 (fun v hv => hv.1) ⟨rfl, fun hu => absurd hu (by decide)⟩,
    SafeOpG.of fun G => safe_loadRow (n := 64) Tryz.underlying73 rfl size73 (w.heap.size + 1) 0 (fun v hv => hv.1) (by omega) (fun W hW => hW.rest.2.1) fun cs hcs => ⟨⟨cs, rfl, hcs⟩, fun hu => absurd hu (by decide)⟩,
    F_call2 hR call52 lMinus_any (fun G v hv => hv.1) (fun G v hv => hv.1) (fun G v hv => ⟨hv, fun hu => absurd hu (by decide)⟩),
    SafeOpG.of fun G => safe_fieldAddr Tryz.underlying75 rfl size73 (by decide) (w.heap.size + 1 + 1) 0 (fun v hv => hv.1) ⟨rfl, fun hu => absurd hu (by decide)⟩,
    SafeOpG.of fun G => safe_loadRow (n := 64) Tryz.underlying73 rfl size73 (w.heap.size + 1 + 1) 16 (fun v hv => hv.1) (by omega) (fun W hW => hW.rest.2.2.1) fun cs hcs => ⟨⟨cs, rfl, hcs⟩, fun hu => absurd hu (by decide)⟩,
    SafeOpG.of fun G => safe_fieldAddr Tryz.underlying75 rfl size73 (by decide) (w.heap.size + 1 + 1) 0 (fun v hv => hv.1) ⟨rfl, fun hu => absurd hu (by decide)⟩,
    SafeOpG.of fun G => safe_loadRow (n := 64) Tryz.underlying73 rfl size73 (w.heap.size + 1 + 1) 0 (fun v hv => hv.1) (by omega) (fun W hW => hW.rest.2.2.1) fun cs hcs => ⟨⟨cs, rfl, hcs⟩, fun hu => absurd hu (by decide)⟩,
    F_call2 hR call52 lMinus_any (fun G v hv => hv.1) (fun G v hv => hv.1) (fun G v hv => ⟨hv, fun hu => absurd hu (by decide)⟩),
    F_call2 hR call51 lTimes_any (fun G v hv => hv.1) (fun G v hv => hv.1) (fun G v hv => ⟨hv, fun hu => absurd hu (by decide)⟩),
    F_alloc hR (fun G g => ⟨trivial, fun _ => ⟨g, by simp, rfl⟩⟩),
    F_store hR (fun G v hv => by obtain ⟨g, hg, e⟩ := hv.2 (by decide); exact ⟨g, List.mem_append_left _ hg, e⟩) (fun G v hv => hv.1), trivial⟩
  case hQ =>
    rintro f w1 G hI' hT
    obtain ⟨g7, hg7, e7⟩ := (hT 7 (by simp)).2 (by simp)
    simp only [putAll, List.setIfInBounds_toArray, List.set_cons_zero, List.set_cons_succ, e7]
    have h7 := List.mem_append_left L hg7
    clear hI hT
    generalize G ++ L = L' at h7 hI'
    obtain ⟨L, rfl⟩ : ∃ L, L = L' := ⟨_, rfl⟩
    have hI := hI'
    clear hI'
    go_upto_region 2 with (fail)
    refine wp_region_typedG (by kernel_rfl) (fun u G v => (match u with | 4 => v = .pointer (some ⟨w.heap.size + 1, 0, none⟩) | 5 => v = .pointer (some ⟨w.heap.size + 1 + 1, 0, none⟩) | 8 => True | 26 => v = .pointer (some ⟨w.heap.size + 1, 16, none⟩) | 27 => IsF v | 28 => v = .pointer (some ⟨w.heap.size + 1, 0, none⟩) | 29 => IsF v | 30 => IsF v | 31 => v = .pointer (some ⟨w.heap.size + 1 + 1, 16, none⟩) | 32 => IsF v | 33 => v = .pointer (some ⟨w.heap.size + 1 + 1, 0, none⟩) | 34 => IsF v | 35 => IsF v | 36 => IsF v | _ => True) ∧ (u ∈ [8] → ∃ g, g ∈ G ∧ v = .pointer (some ⟨g, 0, none⟩)))
      (fun G => FInv w (fun W => Row curveP 169 82 w.heap.size W ∧ IRow .i64 64 75 (w.heap.size + 1) W ∧ IRow .i64 64 75 (w.heap.size + 1 + 1) W ∧ IRow .i64 64 75 (w.heap.size + 1 + 1 + 1) W) (G ++ L)) (fun u G g v hv => ⟨hv.1, fun hu => by obtain ⟨g', hg', e⟩ := hv.2 hu; exact ⟨g', List.mem_cons_of_mem _ hg', e⟩⟩) (by kernel_rfl) [26, 27, 28, 29, 30, 31, 32, 33, 34, 35, 36, 8] (by kernel_rfl) [4, 4, 5, 5] (by kernel_rfl) ?h0 (hI.drew hR) ?hs ?hQ
    case h0 => simp
    case hs => exact ⟨SafeOpG.of fun G => safe_fieldAddr Tryz.underlying75 rfl size73 (by decide) (w.heap.size + 1) 0 (fun v hv => hv.1) ⟨rfl, fun hu => absurd hu (by decide)⟩,
      SafeOpG.of fun G => safe_loadRow (n := 64) Tryz.underlying73 rfl size73 (w.heap.size + 1) 16 (fun v hv => hv.1) (by omega) (fun W hW => hW.rest.2.1) fun cs hcs => ⟨⟨cs, rfl, hcs⟩, fun hu => absurd hu (by decide)⟩,
      SafeOpG.of fun G => safe_fieldAddr Tryz.underlying75 rfl size73 (by decide) (w.heap.size + 1) 0 (fun v hv => hv.1) ⟨rfl, fun hu => absurd hu (by decide)⟩,
      SafeOpG.of fun G => safe_loadRow (n := 64) Tryz.underlying73 rfl size73 (w.heap.size + 1) 0 (fun v hv => hv.1) (by omega) (fun W hW => hW.rest.2.1) fun cs hcs => ⟨⟨cs, rfl, hcs⟩, fun hu => absurd hu (by decide)⟩,
      F_call2 hR call75 lPlus_any (fun G v hv => hv.1) (fun G v hv => hv.1) (fun G v hv => ⟨hv, fun hu => absurd hu (by decide)⟩),
      SafeOpG.of fun G => safe_fieldAddr Tryz.underlying75 rfl size73 (by decide) (w.heap.size + 1 + 1) 0 (fun v hv => hv.1) ⟨rfl, fun hu => absurd hu (by decide)⟩,
      SafeOpG.of fun G => safe_loadRow (n := 64) Tryz.underlying73 rfl size73 (w.heap.size + 1 + 1) 16 (fun v hv => hv.1) (by omega) (fun W hW => hW.rest.2.2.1) fun cs hcs => ⟨⟨cs, rfl, hcs⟩, fun hu => absurd hu (by decide)⟩,
      SafeOpG.of fun G => safe_fieldAddr Tryz.underlying75 rfl size73 (by decide) (w.heap.size + 1 + 1) 0 (fun v hv => hv.1) ⟨rfl, fun hu => absurd hu (by decide)⟩,
      SafeOpG.of fun G => safe_loadRow (n := 64) Tryz.underlying73 rfl size73 (w.heap.size + 1 + 1) 0 (fun v hv => hv.1) (by omega) (fun W hW => hW.rest.2.2.1) fun cs hcs => ⟨⟨cs, rfl, hcs⟩, fun hu => absurd hu (by decide)⟩,
      F_call2 hR call75 lPlus_any (fun G v hv => hv.1) (fun G v hv => hv.1) (fun G v hv => ⟨hv, fun hu => absurd hu (by decide)⟩),
      F_call2 hR call51 lTimes_any (fun G v hv => hv.1) (fun G v hv => hv.1) (fun G v hv => ⟨hv, fun hu => absurd hu (by decide)⟩),
      F_alloc hR (fun G g => ⟨trivial, fun _ => ⟨g, by simp, rfl⟩⟩),
      F_store hR (fun G v hv => by obtain ⟨g, hg, e⟩ := hv.2 (by decide); exact ⟨g, List.mem_append_left _ hg, e⟩) (fun G v hv => hv.1), trivial⟩
    case hQ =>
      rintro f w2 G hI' hT
      obtain ⟨g8, hg8, e8⟩ := (hT 8 (by simp)).2 (by simp)
      simp only [putAll, List.setIfInBounds_toArray, List.set_cons_zero, List.set_cons_succ, e8]
      replace h7 := List.mem_append_right G h7
      have h8 := List.mem_append_left L hg8
      clear hI hT
      generalize G ++ L = L' at h7 h8 hI'
      obtain ⟨L, rfl⟩ : ∃ L, L = L' := ⟨_, rfl⟩
      have hI := hI'
      clear hI'
      go_upto_region 3 with (fail)
      refine wp_region_typedG (by kernel_rfl) (fun u G v => (match u with | 3 => v = .pointer (some ⟨w.heap.size, 0, none⟩) | 4 => v = .pointer (some ⟨w.heap.size + 1, 0, none⟩) | 5 => v = .pointer (some ⟨w.heap.size + 1 + 1, 0, none⟩) | 9 => True | 37 => v = .pointer (some ⟨w.heap.size + 1, 48, none⟩) | 38 => IsF v | 39 => v = .pointer (some ⟨w.heap.size + 1 + 1, 48, none⟩) | 40 => IsF v | 41 => IsF v | 42 => v = .pointer (some ⟨w.heap.size, 0, none⟩) | 43 => IsF v | 44 => v = .pointer (some ⟨w.heap.size, 0, none⟩) | 45 => IsF v | 46 => IsF v | 47 => IsF v | _ => True) ∧ (u ∈ [9] → ∃ g, g ∈ G ∧ v = .pointer (some ⟨g, 0, none⟩)))
        (fun G => FInv w (fun W => Row curveP 169 82 w.heap.size W ∧ IRow .i64 64 75 (w.heap.size + 1) W ∧ IRow .i64 64 75 (w.heap.size + 1 + 1) W ∧ IRow .i64 64 75 (w.heap.size + 1 + 1 + 1) W) (G ++ L)) (fun u G g v hv => ⟨hv.1, fun hu => by obtain ⟨g', hg', e⟩ := hv.2 hu; exact ⟨g', List.mem_cons_of_mem _ hg', e⟩⟩) (by kernel_rfl) [37, 38, 39, 40, 41, 42, 43, 44, 45, 46, 47, 9] (by kernel_rfl) [4, 5, 3, 3] (by kernel_rfl) ?h0 (hI.drew hR) ?hs ?hQ
      case h0 => simp
      case hs => exact ⟨SafeOpG.of fun G => safe_fieldAddr Tryz.underlying75 rfl size73 (by decide) (w.heap.size + 1) 0 (fun v hv => hv.1) ⟨rfl, fun hu => absurd hu (by decide)⟩,
        SafeOpG.of fun G => safe_loadRow (n := 64) Tryz.underlying73 rfl size73 (w.heap.size + 1) 48 (fun v hv => hv.1) (by omega) (fun W hW => hW.rest.2.1) fun cs hcs => ⟨⟨cs, rfl, hcs⟩, fun hu => absurd hu (by decide)⟩,
        SafeOpG.of fun G => safe_fieldAddr Tryz.underlying75 rfl size73 (by decide) (w.heap.size + 1 + 1) 0 (fun v hv => hv.1) ⟨rfl, fun hu => absurd hu (by decide)⟩,
        SafeOpG.of fun G => safe_loadRow (n := 64) Tryz.underlying73 rfl size73 (w.heap.size + 1 + 1) 48 (fun v hv => hv.1) (by omega) (fun W hW => hW.rest.2.2.1) fun cs hcs => ⟨⟨cs, rfl, hcs⟩, fun hu => absurd hu (by decide)⟩,
        F_call2 hR call51 lTimes_any (fun G v hv => hv.1) (fun G v hv => hv.1) (fun G v hv => ⟨hv, fun hu => absurd hu (by decide)⟩),
        SafeOpG.of fun G => safe_fieldAddr Tryz.underlying82 rfl size73 (by decide) (w.heap.size) 0 (fun v hv => hv.1) ⟨rfl, fun hu => absurd hu (by decide)⟩,
        SafeOpG.of fun G => safe_loadRow (n := 169) Tryz.underlying73 rfl size73 (w.heap.size) 0 (fun v hv => hv.1) (by omega) (fun W hW => hW.rest.1) fun cs hcs => ⟨⟨cs, rfl, curve_edge hcs⟩, fun hu => absurd hu (by decide)⟩,
        SafeOpG.of fun G => safe_fieldAddr Tryz.underlying82 rfl size73 (by decide) (w.heap.size) 0 (fun v hv => hv.1) ⟨rfl, fun hu => absurd hu (by decide)⟩,
        SafeOpG.of fun G => safe_loadRow (n := 169) Tryz.underlying73 rfl size73 (w.heap.size) 0 (fun v hv => hv.1) (by omega) (fun W hW => hW.rest.1) fun cs hcs => ⟨⟨cs, rfl, curve_edge hcs⟩, fun hu => absurd hu (by decide)⟩,
        F_call2 hR call75 lPlus_any (fun G v hv => hv.1) (fun G v hv => hv.1) (fun G v hv => ⟨hv, fun hu => absurd hu (by decide)⟩),
        F_call2 hR call51 lTimes_any (fun G v hv => hv.1) (fun G v hv => hv.1) (fun G v hv => ⟨hv, fun hu => absurd hu (by decide)⟩),
        F_alloc hR (fun G g => ⟨trivial, fun _ => ⟨g, by simp, rfl⟩⟩),
        F_store hR (fun G v hv => by obtain ⟨g, hg, e⟩ := hv.2 (by decide); exact ⟨g, List.mem_append_left _ hg, e⟩) (fun G v hv => hv.1), trivial⟩
      case hQ =>
        rintro f w3 G hI' hT
        obtain ⟨g9, hg9, e9⟩ := (hT 9 (by simp)).2 (by simp)
        simp only [putAll, List.setIfInBounds_toArray, List.set_cons_zero, List.set_cons_succ, e9]
        replace h7 := List.mem_append_right G h7
        replace h8 := List.mem_append_right G h8
        have h9 := List.mem_append_left L hg9
        clear hI hT
        generalize G ++ L = L' at h7 h8 h9 hI'
        obtain ⟨L, rfl⟩ : ∃ L, L = L' := ⟨_, rfl⟩
        have hI := hI'
        clear hI'
        go_upto_region 4 with (fail)
        refine wp_region_typedP (by kernel_rfl) (fun u G v => (match u with | 4 => v = .pointer (some ⟨w.heap.size + 1, 0, none⟩) | 5 => v = .pointer (some ⟨w.heap.size + 1 + 1, 0, none⟩) | 10 => True | 48 => v = .pointer (some ⟨w.heap.size + 1, 32, none⟩) | 49 => IsF v | 50 => v = .pointer (some ⟨w.heap.size + 1 + 1, 32, none⟩) | 51 => IsF v | 52 => IsF v | _ => True) ∧ (u ∈ [10] → ∃ g, g ∈ G ∧ v = .pointer (some ⟨g, 0, none⟩)))
          (fun G => FInv w (fun W => Row curveP 169 82 w.heap.size W ∧ IRow .i64 64 75 (w.heap.size + 1) W ∧ IRow .i64 64 75 (w.heap.size + 1 + 1) W ∧ IRow .i64 64 75 (w.heap.size + 1 + 1 + 1) W) (G ++ L)) (fun u G g v hv => ⟨hv.1, fun hu => by obtain ⟨g', hg', e⟩ := hv.2 hu; exact ⟨g', List.mem_cons_of_mem _ hg', e⟩⟩) (by kernel_rfl) [48, 49, 50, 51, 52, 10] (by kernel_rfl) [4, 5] (by kernel_rfl) ?h0 (hI) ?hs ?hQ
        case h0 => simp
        case hs => exact ⟨SafeOpG.of fun G => safe_fieldAddr Tryz.underlying75 rfl size73 (by decide) (w.heap.size + 1) 0 (fun v hv => hv.1) ⟨rfl, fun hu => absurd hu (by decide)⟩,
          SafeOpG.of fun G => safe_loadRow (n := 64) Tryz.underlying73 rfl size73 (w.heap.size + 1) 32 (fun v hv => hv.1) (by omega) (fun W hW => hW.rest.2.1) fun cs hcs => ⟨⟨cs, rfl, hcs⟩, fun hu => absurd hu (by decide)⟩,
          SafeOpG.of fun G => safe_fieldAddr Tryz.underlying75 rfl size73 (by decide) (w.heap.size + 1 + 1) 0 (fun v hv => hv.1) ⟨rfl, fun hu => absurd hu (by decide)⟩,
          SafeOpG.of fun G => safe_loadRow (n := 64) Tryz.underlying73 rfl size73 (w.heap.size + 1 + 1) 32 (fun v hv => hv.1) (by omega) (fun W hW => hW.rest.2.2.1) fun cs hcs => ⟨⟨cs, rfl, hcs⟩, fun hu => absurd hu (by decide)⟩,
          F_call2 hR call51 lTimes_any (fun G v hv => hv.1) (fun G v hv => hv.1) (fun G v hv => ⟨hv, fun hu => absurd hu (by decide)⟩),
          F_alloc hR (fun G g => ⟨trivial, fun _ => ⟨g, by simp, rfl⟩⟩),
          F_store hR (fun G v hv => by obtain ⟨g, hg, e⟩ := hv.2 (by decide); exact ⟨g, List.mem_append_left _ hg, e⟩) (fun G v hv => hv.1), trivial⟩
        case hQ =>
          rintro f w4 G hI' hT
          obtain ⟨g10, hg10, e10⟩ := (hT 10 (by simp)).2 (by simp)
          simp only [putAll, List.setIfInBounds_toArray, List.set_cons_zero, List.set_cons_succ, e10]
          replace h7 := List.mem_append_right G h7
          replace h8 := List.mem_append_right G h8
          replace h9 := List.mem_append_right G h9
          have h10 := List.mem_append_left L hg10
          clear hI hT
          generalize G ++ L = L' at h7 h8 h9 h10 hI'
          obtain ⟨L, rfl⟩ : ∃ L, L = L' := ⟨_, rfl⟩
          have hI := hI'
          clear hI'
          go_upto_region 5 with (fail)
          refine wp_region_typedP (by kernel_rfl) (fun u _ v => match u with | 10 => v = .pointer (some ⟨g10, 0, none⟩) | 53 => IsF v | 54 => IsF v | 55 => IsF v | _ => True)
            (fun G => FInv w (fun W => Row curveP 169 82 w.heap.size W ∧ IRow .i64 64 75 (w.heap.size + 1) W ∧ IRow .i64 64 75 (w.heap.size + 1 + 1) W ∧ IRow .i64 64 75 (w.heap.size + 1 + 1 + 1) W) (G ++ L)) (fun u G g v hv => hv) (by kernel_rfl) [53, 54, 55] (by kernel_rfl) [10, 10, 10] (by kernel_rfl) ?h0 (hI) ?hs ?hQ
          case h0 => simp
          case hs => exact ⟨F_load g10 h10 (fun G v hv => hv) (fun G v hv => hv),
            F_load g10 h10 (fun G v hv => hv) (fun G v hv => hv),
            F_call2 hR call75 lPlus_any (fun G v hv => hv) (fun G v hv => hv) (fun G v hv => hv),
            F_store hR (fun G v hv => ⟨g10, List.mem_append_right _ h10, hv⟩) (fun G v hv => hv), trivial⟩
          case hQ =>
            rintro f w5 G hI' hT
            simp only [putAll, List.setIfInBounds_toArray, List.set_cons_zero, List.set_cons_succ]
            replace h7 := List.mem_append_right G h7
            replace h8 := List.mem_append_right G h8
            replace h9 := List.mem_append_right G h9
            replace h10 := List.mem_append_right G h10
            clear hI hT
            generalize G ++ L = L' at h7 h8 h9 h10 hI'
            obtain ⟨L, rfl⟩ : ∃ L, L = L' := ⟨_, rfl⟩
            have hI := hI'
            clear hI'
            go_upto_region 6 with (fail)
            refine wp_region_typedG (by kernel_rfl) (fun u G v => (match u with | 7 => v = .pointer (some ⟨g7, 0, none⟩) | 8 => v = .pointer (some ⟨g8, 0, none⟩) | 9 => v = .pointer (some ⟨g9, 0, none⟩) | 10 => v = .pointer (some ⟨g10, 0, none⟩) | 11 => True | 12 => True | 13 => True | 14 => True | 56 => IsF v | 57 => IsF v | 58 => IsF v | 59 => IsF v | 60 => IsF v | 61 => IsF v | 62 => IsF v | 63 => IsF v | 64 => IsF v | 65 => IsF v | 66 => IsF v | 67 => IsF v | _ => True) ∧ (u ∈ [11, 12, 13, 14] → ∃ g, g ∈ G ∧ v = .pointer (some ⟨g, 0, none⟩)))
              (fun G => FInv w (fun W => Row curveP 169 82 w.heap.size W ∧ IRow .i64 64 75 (w.heap.size + 1) W ∧ IRow .i64 64 75 (w.heap.size + 1 + 1) W ∧ IRow .i64 64 75 (w.heap.size + 1 + 1 + 1) W) (G ++ L)) (fun u G g v hv => ⟨hv.1, fun hu => by obtain ⟨g', hg', e⟩ := hv.2 hu; exact ⟨g', List.mem_cons_of_mem _ hg', e⟩⟩) (by kernel_rfl) [56, 57, 58, 59, 60, 61, 62, 63, 64, 65, 66, 67, 11, 12, 13, 14] (by kernel_rfl) [8, 7, 10, 9, 10, 9, 8, 7] (by kernel_rfl) ?h0 (hI.drew hR) ?hs ?hQ
            case h0 => simp
            case hs => exact ⟨F_load g8 h8 (fun G v hv => hv.1) (fun G v hv => ⟨hv, fun hu => absurd hu (by decide)⟩),
              F_load g7 h7 (fun G v hv => hv.1) (fun G v hv => ⟨hv, fun hu => absurd hu (by decide)⟩),
              F_call2 hR call52 lMinus_any (fun G v hv => hv.1) (fun G v hv => hv.1) (fun G v hv => ⟨hv, fun hu => absurd hu (by decide)⟩),
              F_load g10 h10 (fun G v hv => hv.1) (fun G v hv => ⟨hv, fun hu => absurd hu (by decide)⟩),
              F_load g9 h9 (fun G v hv => hv.1) (fun G v hv => ⟨hv, fun hu => absurd hu (by decide)⟩),
              F_call2 hR call52 lMinus_any (fun G v hv => hv.1) (fun G v hv => hv.1) (fun G v hv => ⟨hv, fun hu => absurd hu (by decide)⟩),
              F_load g10 h10 (fun G v hv => hv.1) (fun G v hv => ⟨hv, fun hu => absurd hu (by decide)⟩),
              F_load g9 h9 (fun G v hv => hv.1) (fun G v hv => ⟨hv, fun hu => absurd hu (by decide)⟩),
              F_call2 hR call75 lPlus_any (fun G v hv => hv.1) (fun G v hv => hv.1) (fun G v hv => ⟨hv, fun hu => absurd hu (by decide)⟩),
              F_load g8 h8 (fun G v hv => hv.1) (fun G v hv => ⟨hv, fun hu => absurd hu (by decide)⟩),
              F_load g7 h7 (fun G v hv => hv.1) (fun G v hv => ⟨hv, fun hu => absurd hu (by decide)⟩),
              F_call2 hR call75 lPlus_any (fun G v hv => hv.1) (fun G v hv => hv.1) (fun G v hv => ⟨hv, fun hu => absurd hu (by decide)⟩),
              F_alloc hR (fun G g => ⟨trivial, fun _ => ⟨g, by simp, rfl⟩⟩),
              F_alloc hR (fun G g => ⟨trivial, fun _ => ⟨g, by simp, rfl⟩⟩),
              F_alloc hR (fun G g => ⟨trivial, fun _ => ⟨g, by simp, rfl⟩⟩),
              F_alloc hR (fun G g => ⟨trivial, fun _ => ⟨g, by simp, rfl⟩⟩),
              F_store hR (fun G v hv => by obtain ⟨g, hg, e⟩ := hv.2 (by decide); exact ⟨g, List.mem_append_left _ hg, e⟩) (fun G v hv => hv.1),
              F_store hR (fun G v hv => by obtain ⟨g, hg, e⟩ := hv.2 (by decide); exact ⟨g, List.mem_append_left _ hg, e⟩) (fun G v hv => hv.1),
              F_store hR (fun G v hv => by obtain ⟨g, hg, e⟩ := hv.2 (by decide); exact ⟨g, List.mem_append_left _ hg, e⟩) (fun G v hv => hv.1),
              F_store hR (fun G v hv => by obtain ⟨g, hg, e⟩ := hv.2 (by decide); exact ⟨g, List.mem_append_left _ hg, e⟩) (fun G v hv => hv.1), trivial⟩
            case hQ =>
              rintro f w6 G hI' hT
              obtain ⟨g11, hg11, e11⟩ := (hT 11 (by simp)).2 (by simp)
              obtain ⟨g12, hg12, e12⟩ := (hT 12 (by simp)).2 (by simp)
              obtain ⟨g13, hg13, e13⟩ := (hT 13 (by simp)).2 (by simp)
              obtain ⟨g14, hg14, e14⟩ := (hT 14 (by simp)).2 (by simp)
              simp only [putAll, List.setIfInBounds_toArray, List.set_cons_zero, List.set_cons_succ, e11, e12, e13, e14]
              replace h7 := List.mem_append_right G h7
              replace h8 := List.mem_append_right G h8
              replace h9 := List.mem_append_right G h9
              replace h10 := List.mem_append_right G h10
              have h11 := List.mem_append_left L hg11
              have h12 := List.mem_append_left L hg12
              have h13 := List.mem_append_left L hg13
              have h14 := List.mem_append_left L hg14
              clear hI hT
              generalize G ++ L = L' at h7 h8 h9 h10 h11 h12 h13 h14 hI'
              obtain ⟨L, rfl⟩ : ∃ L, L = L' := ⟨_, rfl⟩
              have hI := hI'
              clear hI'
              go_upto_region 7 with (fail)
              refine wp_region_typedG (by kernel_rfl) (fun u _ v => match u with | 6 => v = .pointer (some ⟨w.heap.size + 1 + 1 + 1, 0, none⟩) | 11 => v = .pointer (some ⟨g11, 0, none⟩) | 12 => v = .pointer (some ⟨g12, 0, none⟩) | 13 => v = .pointer (some ⟨g13, 0, none⟩) | 14 => v = .pointer (some ⟨g14, 0, none⟩) | 68 => IsF v | 69 => IsF v | 70 => IsF v | 71 => IsF v | 72 => IsF v | 73 => IsF v | 74 => IsF v | 75 => IsF v | 76 => IsF v | 77 => IsF v | 78 => IsF v | 79 => IsF v | 80 => IsPt v | _ => True)
                (fun G => FInv w (fun W => Row curveP 169 82 w.heap.size W ∧ IRow .i64 64 75 (w.heap.size + 1) W ∧ IRow .i64 64 75 (w.heap.size + 1 + 1) W ∧ IRow .i64 64 75 (w.heap.size + 1 + 1 + 1) W) (G ++ L)) (fun u G g v hv => hv) (by kernel_rfl) [68, 69, 70, 71, 72, 73, 74, 75, 76, 77, 78, 79, 80] (by kernel_rfl) [11, 12, 13, 14, 12, 13, 11, 14, 6] (by kernel_rfl) ?h0 (hI.drew hR) ?hs ?hQ
              case h0 => simp
              case hs => exact ⟨F_load g11 h11 (fun G v hv => hv) (fun G v hv => hv),
                F_load g12 h12 (fun G v hv => hv) (fun G v hv => hv),
                F_call2 hR call51 lTimes_any (fun G v hv => hv) (fun G v hv => hv) (fun G v hv => hv),
                F_load g13 h13 (fun G v hv => hv) (fun G v hv => hv),
                F_load g14 h14 (fun G v hv => hv) (fun G v hv => hv),
                F_call2 hR call51 lTimes_any (fun G v hv => hv) (fun G v hv => hv) (fun G v hv => hv),
                F_load g12 h12 (fun G v hv => hv) (fun G v hv => hv),
                F_load g13 h13 (fun G v hv => hv) (fun G v hv => hv),
                F_call2 hR call51 lTimes_any (fun G v hv => hv) (fun G v hv => hv) (fun G v hv => hv),
                F_load g11 h11 (fun G v hv => hv) (fun G v hv => hv),
                F_load g14 h14 (fun G v hv => hv) (fun G v hv => hv),
                F_call2 hR call51 lTimes_any (fun G v hv => hv) (fun G v hv => hv) (fun G v hv => hv),
                SafeOpG.of fun G => safe_build4 IsF IsPt (fun v hv => hv) (fun v hv => hv) (fun v hv => hv) (fun v hv => hv) build_ptF (fun v hv => hv),
                F_storePtIn (w.heap.size + 1 + 1 + 1) (by omega) (fun W h => h.2.2.2) (fun W cs ⟨a, b, c, d⟩ hc => ⟨pt_keep a (by omega) cs, pt_keep b (by omega) cs, pt_keep c (by omega) cs, pt_put d hc⟩) (fun G v hv => hv) (fun G v hv => hv), trivial⟩
              case hQ =>
                rintro f w7 G hI' hT
                simp only [putAll, List.setIfInBounds_toArray, List.set_cons_zero, List.set_cons_succ]
                go_wp2
                exact ret_pt Tryz.results61 (w.heap.size + 1 + 1 + 1) rfl hI'.rest.2.2.2 rfl fun cs2 hcs2 => ⟨⟨cs2, rfl, hcs2⟩, hI'.below⟩
end Go.Proofs.YtcebfkhfnjbfjaaGreatDoor
namespace Go.Proofs.YtcebfkhfnjbfjaaGreatDoor
open Go.RowKit
set_option linter.unusedVariables false
set_option linter.unusedSimpArgs false
/-- The making of a whole value, closed to the walk. -/
def buildA (ty : TypeId) (parts : Array (Nat × Value)) : Sem Value := Instr.build ty parts
@[go_sem ↓] theorem exec_buildD {P : Program} (ty : TypeId) (ρ : Operand → Value) (dst : Option Tmp) (parts : Array (Nat × Operand)) (t : TypeId) (ps : String) (af : Array Edge) (gd : Option (Nat × Bool)) (W : World) (_h : aggTy ty = true) :
    Sem.run P (execOp ρ { dst := dst, op := .build ty parts, type := t, pos := ps, after := af, guard := gd }) W = (Sem.run P (buildA ty (parts.map fun (i, x) => (i, ρ x))) W).andThen fun a w' => .ok (.value a) w' := by
  simp only [execOp, buildA, Sem.run_bind, Sem.run_pure]
theorem build_pt2 (a b : Array Value) (ha : Ints .i64 16 a) (hb : Ints .i64 16 b) : ∃ cs, Ints .i64 64 cs ∧ ∀ W, Sem.run Tryz.prog (buildA 75 #[(1, .agg a), (2, .agg b)]) W = .ok (.agg cs) W := by
  obtain ⟨cs, h1, h2⟩ := fill_cells (P := fun _ => IsInt .i64) (n := 64) (#[(0, 16), (16, 16), (32, 16), (48, 16)][·]?) [(1, .agg a), (2, .agg b)] z64 z64_ints (by
    intro p hp
    simp only [List.mem_cons, List.not_mem_nil, or_false] at hp
    rcases hp with rfl | rfl
    · exact ⟨16, 16, rfl, by omega, ha⟩
    · exact ⟨32, 16, rfl, by omega, hb⟩)
  exact ⟨cs, h2, fun W => run_build W 75 _ cs (by rw [built75]; exact h1)⟩
theorem size82 : (Tryz.prog.info? 82).map (·.size) = some 169 := by kernel_rfl
set_option maxHeartbeats 4000000 in
set_option maxRecDepth 100000 in
theorem many_any (cs ps : Array Value) (s : ByteArray) (w : World) (h : Cells curveP 169 cs) (hp : Ints .i64 64 ps) (hs : s.size = 32) :
    Calls Tryz.prog 43 #[.agg cs, .agg ps, .string s] w fun e w' => (∃ c : Array Value, e = .returned (.agg c) ∧ Ints .i64 64 c) ∧ Below w.heap.size w w' := by
  have h1 := ((Row.new h w 82).alloc (.cells ps 75)).alloc (.cells z64 75)
  have h2 := (row_new2 (E := 75) hp w (.cells cs 82)).alloc (.cells z64 75)
  have h3 := row_new3 (E := 75) z64_ints w (.cells cs 82) (.cells ps 75)
  have hb : Below w.heap.size w (((w.alloc (.cells cs 82)).alloc (.cells ps 75)).alloc (.cells z64 75)) := (((Below.refl _ _).alloc (by simp <;> omega) _).alloc (by simp <;> omega) _).alloc (by simp <;> omega) _
  have hs1 : s.size ≤ 32 := by omega
  have hs2 : 32 ≤ s.size := by omega
  clear hs
  go_enter Tryz.func43, Tryz.ntmps43
  go_wp2_with fail
  refine (lSmall_any _ _).mono ?_
  rintro e w1 ⟨⟨c1, rfl, hc1⟩, hb1⟩
  replace h1 := h1.below hb1 h1.lt
  replace h2 := h2.below hb1 h2.lt
  replace h3 := h3.below hb1 h3.lt
  replace hb := hb.trans (hb1.mono hb.size)
  go_wp2_with fail
  refine (lSmall_any _ _).mono ?_
  rintro e w2 ⟨⟨c2, rfl, hc2⟩, hb2⟩
  replace h1 := h1.below hb2 h1.lt
  replace h2 := h2.below hb2 h2.lt
  replace h3 := h3.below hb2 h3.lt
  replace hb := hb.trans (hb2.mono hb.size)
  clear hb1 hb2
  obtain ⟨c3, hc3, hbd⟩ := build_pt2 c1 c2 hc1 hc2
  have h4 := Row.new z64_ints w2 75
  have hst := h4.store 0 64 (by omega) hc3 (fun _ _ => IsInt.one) size75 (w2.alloc (.cells z64 75)) rfl
  have hl3 := h3.lt
  go_upto_region 2 with (fail)
  replace h1 := (h1.alloc (.cells z64 75)).setCellsOther (g := w2.heap.size) (by omega) c3.toList 0
  replace h2 := (h2.alloc (.cells z64 75)).setCellsOther (g := w2.heap.size) (by omega) c3.toList 0
  replace h3 := (h3.alloc (.cells z64 75)).setCellsOther (g := w2.heap.size) (by omega) c3.toList 0
  replace h4 := h4.setCells c3.toList 0 fun j v hv _ => hc3.list j v (by simpa using hv)
  replace hb := below_setCells (g := w2.heap.size) (by omega) c3.toList 0 (hb.alloc hb.size (.cells z64 75))
  clear hst hbd
  obtain ⟨O, hO⟩ : ∃ O, O = w2.heap.size := ⟨_, rfl⟩
  generalize (w2.alloc (.cells z64 75)).setCells w2.heap.size 0 c3.toList = wy at h1 h2 h3 h4 hb ⊢
  rw [← hO] at h4 hl3 ⊢
  clear hO w2
  go_wp2
  go_loopw [8] (fun i wr => ∃ x : Int, -1 ≤ x ∧ x ≤ 255 ∧ i = .int .i64 x ∧ (Row curveP 169 82 w.heap.size wr ∧ IRow .i64 64 75 (w.heap.size + 1) wr ∧ IRow .i64 64 75 (w.heap.size + 1 + 1) wr ∧ IRow .i64 64 75 O wr) ∧ Below w.heap.size w wr) (fun i _ => (intOf i + 1).toNat)
  case atStart => exact ⟨8 * (s.size : Int) - 1, by omega, by omega, rfl, ⟨h1, h2, h3, h4⟩, hb⟩
  case round =>
    clear h1 h2 h3 h4 hb
    obtain ⟨x, hx0, hx1, rfl, ⟨h1, h2, h3, h4⟩, hb⟩ := hrel
    by_cases hxp : 0 ≤ x
    · obtain ⟨y, rfl⟩ : ∃ y : Nat, x = y := ⟨x.toNat, by omega⟩
      obtain ⟨ca, hca, hl1⟩ := h1.load 0 169 (by omega) Tryz.underlying82 rfl size82
      obtain ⟨cb, hcb, hl2⟩ := h4.load 0 64 (by omega) Tryz.underlying75 rfl size75
      replace hca : Cells curveP 169 ca := hca.imp fun i v _ hv => by simpa using hv
      go_wp2_with fail
      refine (added_any _ _ _ _ hca hcb hcb).mono ?_
      rintro e w1 ⟨⟨d1, rfl, hd1⟩, hb1⟩
      replace h1 := h1.below hb1 h1.lt
      replace h2 := h2.below hb1 h2.lt
      replace h3 := h3.below hb1 h3.lt
      replace h4 := h4.below hb1 h4.lt
      replace hb := hb.trans (hb1.mono hb.size)
      have hst := h4.store 0 64 (by omega) hd1 (fun _ _ => IsInt.one) size75 w1 rfl
      clear hl1 hl2 hb1
      go_upto_region 6 with (fail)
      replace h1 := h1.setCellsOther (g := O) (by omega) d1.toList 0
      replace h2 := h2.setCellsOther (g := O) (by omega) d1.toList 0
      replace h3 := h3.setCellsOther (g := O) (by omega) d1.toList 0
      replace h4 := h4.setCells d1.toList 0 fun j v hv _ => hd1.list j v (by simpa using hv)
      replace hb := below_setCells (g := O) (by omega) d1.toList 0 hb
      clear hst
      generalize w1.setCells O 0 d1.toList = wy at h1 h2 h3 h4 hb ⊢
      obtain ⟨cc, hcc, hl1⟩ := h1.load 0 169 (by omega) Tryz.underlying82 rfl size82
      obtain ⟨cd, hcd, hl2⟩ := h4.load 0 64 (by omega) Tryz.underlying75 rfl size75
      obtain ⟨ce, hce, hl3'⟩ := h2.load 0 64 (by omega) Tryz.underlying75 rfl size75
      replace hcc : Cells curveP 169 cc := hcc.imp fun i v _ hv => by simpa using hv
      go_wp2_with fail
      · refine (added_any _ _ _ _ hcc hcd hce).mono ?_
        rintro e w3 ⟨⟨d3, rfl, hd3⟩, hb3⟩
        replace h1 := h1.below hb3 h1.lt
        replace h2 := h2.below hb3 h2.lt
        replace h3 := h3.below hb3 h3.lt
        replace h4 := h4.below hb3 h4.lt
        replace hb := hb.trans (hb3.mono hb.size)
        have hst := h4.store 0 64 (by omega) hd3 (fun _ _ => IsInt.one) size75 w3 rfl
        clear hl1 hl2 hl3' hb3
        go_wp2
        go_roundw
        case rel => exact ⟨(y : Int) - 1, by omega, by omega, by go_num, ⟨h1.setCellsOther (by omega) _ _, h2.setCellsOther (by omega) _ _, h3.setCellsOther (by omega) _ _, h4.setCells _ _ fun j v hv _ => hd3.list j v (by simpa using hv)⟩, below_setCells (by omega) _ _ hb⟩
        case measure => simp [intOf] <;> omega
      · go_roundw
        case rel => exact ⟨(y : Int) - 1, by omega, by omega, by go_num, ⟨h1, h2, h3, h4⟩, hb⟩
        case measure => simp [intOf] <;> omega
    · obtain ⟨cd, hcd, hl2⟩ := h4.load 0 64 (by omega) Tryz.underlying75 rfl size75
      have hst := h3.store 0 64 (by omega) hcd (fun _ _ => IsInt.one) size75 wr rfl
      go_wp2
      exact ret_pt Tryz.results43 (w.heap.size + 1 + 1) rfl (h3.setCells cd.toList 0 fun j v hv _ => hcd.list j v (by simpa using hv)) rfl fun cs2 hcs2 => ⟨⟨cs2, rfl, hcs2⟩, below_setCells (by omega) _ _ hb⟩
end Go.Proofs.YtcebfkhfnjbfjaaGreatDoor
