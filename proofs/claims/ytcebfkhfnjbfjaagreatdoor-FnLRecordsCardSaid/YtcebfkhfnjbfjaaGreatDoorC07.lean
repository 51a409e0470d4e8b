/- Contract of shape of the reference's decoding of a point: it returns a point and a yes or no. Printed by wip's gen_found.py. -/
import Derived.Test.YtcebfkhfnjbfjaaGreatDoorC06
namespace Go.Proofs.YtcebfkhfnjbfjaaGreatDoor
open Go.RowKit
set_option linter.unusedVariables false
set_option linter.unusedSimpArgs false
theorem call74 (args : Array Value) (W : World) : Sem.run Tryz.prog (callFunc 74 args) W = .ok (.enter 74 args) W := run_callGo (fn := Tryz.f74) (by kernel_rfl) (by kernel_rfl) (by kernel_rfl) args W
theorem lUnpacked_call (a : Value) (w : World) (h : IsStr 32 a) : Calls Tryz.prog 74 #[a] w fun e w' => (∃ v, e = .returned v ∧ IsF v) ∧ Below w.heap.size w w' := by
  obtain ⟨s, rfl, hs⟩ := h
  exact (lUnpacked_any s w hs).mono fun e w' ⟨⟨c, h1, h2⟩, hb⟩ => ⟨⟨_, h1, c, rfl, h2⟩, hb⟩
theorem field82_0 : (#[] : Array Nat).size = 0 := rfl
set_option maxHeartbeats 4000000 in
set_option maxRecDepth 100000 in
theorem found_any (cs : Array Value) (s : ByteArray) (w : World) (h : Cells curveP 169 cs) (hs : s.size = 32) :
    Calls Tryz.prog 56 #[.agg cs, .string s] w fun e w' => (∃ (c : Array Value) (b : Bool), e = .returned (.tuple #[.agg c, .bool b]) ∧ Ints .i64 64 c) ∧ Below w.heap.size w w' := by
  have hR : RKept w (fun W => Row curveP 169 82 w.heap.size W ∧ IRow .i64 64 75 (w.heap.size + 1) W) := (rkept_row (by omega)).and (rkept_row (by omega))
  have hI0 : FInv w (fun W => Row curveP 169 82 w.heap.size W ∧ IRow .i64 64 75 (w.heap.size + 1) W) [] ((w.alloc (.cells cs 82)).alloc (.cells z64 75)) :=
    ⟨((Below.refl _ _).alloc (by simp <;> omega) _).alloc (by simp <;> omega) _, fun g hg => by simp at hg, (Row.new h w 82).alloc _, row_new2 z64_ints w _⟩
  go_enter Tryz.func56, Tryz.ntmps56
  go_upto_region 1 with (fail)
  obtain ⟨L, hL⟩ : ∃ L : List Nat, L = [] := ⟨_, rfl⟩
  rw [← hL] at hI0
  clear hL
  have hI := hI0
  clear hI0
  refine wp_region_typedP (by kernel_rfl) (fun u G v => (match u with | 1 => IsStr 32 v | 6 => True | 13 => IsStr 32 v | 14 => IsF v | _ => True) ∧ (u ∈ [6] → ∃ g, g ∈ G ∧ v = .pointer (some ⟨g, 0, none⟩)))
    (fun G => FInv w (fun W => Row curveP 169 82 w.heap.size W ∧ IRow .i64 64 75 (w.heap.size + 1) W) (G ++ L)) (fun u G g v hv => ⟨hv.1, fun hu => by obtain ⟨g', hg', e⟩ := hv.2 hu; exact ⟨g', List.mem_cons_of_mem _ hg', e⟩⟩) (by kernel_rfl) [13, 14, 6] (by kernel_rfl) [1] (by kernel_rfl) ?h0 (hI) ?hs ?hQ
  case h0 => simp [IsStr, hs]
  case hs => exact ⟨SafeOpG.of fun G => safe_move fun d hd => by cases hd; exact fun v hv => ⟨hv.1, fun hu => absurd hu (by decide)⟩,
    F_call1 hR (IsStr 32) IsF call74 lUnpacked_call (fun G v hv => hv.1) (fun G v hv => ⟨hv, fun hu => absurd hu (by decide)⟩),
    F_alloc hR (fun G g => ⟨trivial, fun _ => ⟨g, by simp, rfl⟩⟩),
    F_store hR (fun G v hv => by obtain ⟨g, hg, e⟩ := hv.2 (by decide); exact ⟨g, List.mem_append_left _ hg, e⟩) (fun G v hv => hv.1), trivial⟩
  case hQ =>
    rintro f w1 G hI' hT
    obtain ⟨g6, hg6, e6⟩ := (hT 6 (by simp)).2 (by simp)
    simp only [putAll, List.setIfInBounds_toArray, List.set_cons_zero, List.set_cons_succ, e6]
    have h6 := List.mem_append_left L hg6
    clear hI hT
    generalize G ++ L = L' at h6 hI'
    obtain ⟨L, rfl⟩ : ∃ L, L = L' := ⟨_, rfl⟩
    have hI := hI'
    clear hI'
    go_upto_region 2 with (fail)
    refine wp_region_typedP (by kernel_rfl) (fun u G v => (match u with | 6 => v = .pointer (some ⟨g6, 0, none⟩) | 7 => True | 15 => IsF v | 16 => IsF v | 17 => IsF v | _ => True) ∧ (u ∈ [7] → ∃ g, g ∈ G ∧ v = .pointer (some ⟨g, 0, none⟩)))
      (fun G => FInv w (fun W => Row curveP 169 82 w.heap.size W ∧ IRow .i64 64 75 (w.heap.size + 1) W) (G ++ L)) (fun u G g v hv => ⟨hv.1, fun hu => by obtain ⟨g', hg', e⟩ := hv.2 hu; exact ⟨g', List.mem_cons_of_mem _ hg', e⟩⟩) (by kernel_rfl) [15, 16, 17, 7] (by kernel_rfl) [6, 6] (by kernel_rfl) ?h0 (hI) ?hs ?hQ
    case h0 => simp
    case hs => exact ⟨F_load g6 h6 (fun G v hv => hv.1) (fun G v hv => ⟨hv, fun hu => absurd hu (by decide)⟩),
      F_load g6 h6 (fun G v hv => hv.1) (fun G v hv => ⟨hv, fun hu => absurd hu (by decide)⟩),
      F_call2 hR call51 lTimes_any (fun G v hv => hv.1) (fun G v hv => hv.1) (fun G v hv => ⟨hv, fun hu => absurd hu (by decide)⟩),
      F_alloc hR (fun G g => ⟨trivial, fun _ => ⟨g, by simp, rfl⟩⟩),
      F_store hR (fun G v hv => by obtain ⟨g, hg, e⟩ := hv.2 (by decide); exact ⟨g, List.mem_append_left _ hg, e⟩) (fun G v hv => hv.1), trivial⟩
    case hQ =>
      rintro f w2 G hI' hT
      obtain ⟨g7, hg7, e7⟩ := (hT 7 (by simp)).2 (by simp)
      simp only [putAll, List.setIfInBounds_toArray, List.set_cons_zero, List.set_cons_succ, e7]
      replace h6 := List.mem_append_right G h6
      have h7 := List.mem_append_left L hg7
      clear hI hT
      generalize G ++ L = L' at h6 h7 hI'
      obtain ⟨L, rfl⟩ : ∃ L, L = L' := ⟨_, rfl⟩
      have hI := hI'
      clear hI'
      go_upto_region 3 with (fail)
      refine wp_region_typedG (by kernel_rfl) (fun u G v => (match u with | 2 => v = .pointer (some ⟨w.heap.size, 0, none⟩) | 7 => v = .pointer (some ⟨g7, 0, none⟩) | 8 => True | 9 => True | 18 => IsF v | 19 => IsF v | 20 => IsF v | 21 => IsF v | 22 => v = .pointer (some ⟨w.heap.size, 0, none⟩) | 23 => IsF v | 24 => IsF v | 25 => IsF v | 26 => IsF v | _ => True) ∧ (u ∈ [8, 9] → ∃ g, g ∈ G ∧ v = .pointer (some ⟨g, 0, none⟩)))
        (fun G => FInv w (fun W => Row curveP 169 82 w.heap.size W ∧ IRow .i64 64 75 (w.heap.size + 1) W) (G ++ L)) (fun u G g v hv => ⟨hv.1, fun hu => by obtain ⟨g', hg', e⟩ := hv.2 hu; exact ⟨g', List.mem_cons_of_mem _ hg', e⟩⟩) (by kernel_rfl) [18, 19, 20, 21, 22, 23, 24, 25, 26, 8, 9] (by kernel_rfl) [7, 7, 2] (by kernel_rfl) ?h0 (hI.drew hR) ?hs ?hQ
      case h0 => simp
      case hs => exact ⟨F_load g7 h7 (fun G v hv => hv.1) (fun G v hv => ⟨hv, fun hu => absurd hu (by decide)⟩),
        F_call1 hR (· = .int .i64 1) IsF call53 (fun a w h => by subst h; exact lSmall_call _ w) (fun G => rfl) (fun G v hv => ⟨hv, fun hu => absurd hu (by decide)⟩),
        F_call2 hR call52 lMinus_any (fun G v hv => hv.1) (fun G v hv => hv.1) (fun G v hv => ⟨hv, fun hu => absurd hu (by decide)⟩),
        F_load g7 h7 (fun G v hv => hv.1) (fun G v hv => ⟨hv, fun hu => absurd hu (by decide)⟩),
        SafeOpG.of fun G => safe_fieldAddr Tryz.underlying82 rfl size73 (by decide) w.heap.size 0 (fun v hv => hv.1) ⟨rfl, fun hu => absurd hu (by decide)⟩,
        SafeOpG.of fun G => safe_loadRow Tryz.underlying73 rfl size73 w.heap.size 0 (fun v hv => hv.1) (by omega) (fun W hW => hW.rest.1) fun cs hcs => ⟨⟨cs, rfl, curve_edge hcs⟩, fun hu => absurd hu (by decide)⟩,
        F_call2 hR call51 lTimes_any (fun G v hv => hv.1) (fun G v hv => hv.1) (fun G v hv => ⟨hv, fun hu => absurd hu (by decide)⟩),
        F_call1 hR (· = .int .i64 1) IsF call53 (fun a w h => by subst h; exact lSmall_call _ w) (fun G => rfl) (fun G v hv => ⟨hv, fun hu => absurd hu (by decide)⟩),
        F_call2 hR call75 lPlus_any (fun G v hv => hv.1) (fun G v hv => hv.1) (fun G v hv => ⟨hv, fun hu => absurd hu (by decide)⟩),
        F_alloc hR (fun G g => ⟨trivial, fun _ => ⟨g, by simp, rfl⟩⟩),
        F_alloc hR (fun G g => ⟨trivial, fun _ => ⟨g, by simp, rfl⟩⟩),
        F_store hR (fun G v hv => by obtain ⟨g, hg, e⟩ := hv.2 (by decide); exact ⟨g, List.mem_append_left _ hg, e⟩) (fun G v hv => hv.1),
        F_store hR (fun G v hv => by obtain ⟨g, hg, e⟩ := hv.2 (by decide); exact ⟨g, List.mem_append_left _ hg, e⟩) (fun G v hv => hv.1), trivial⟩
      case hQ =>
        rintro f w3 G hI' hT
        obtain ⟨g8, hg8, e8⟩ := (hT 8 (by simp)).2 (by simp)
        obtain ⟨g9, hg9, e9⟩ := (hT 9 (by simp)).2 (by simp)
        simp only [putAll, List.setIfInBounds_toArray, List.set_cons_zero, List.set_cons_succ, e8, e9]
        replace h6 := List.mem_append_right G h6
        replace h7 := List.mem_append_right G h7
        have h8 := List.mem_append_left L hg8
        have h9 := List.mem_append_left L hg9
        clear hI hT
        generalize G ++ L = L' at h6 h7 h8 h9 hI'
        obtain ⟨L, rfl⟩ : ∃ L, L = L' := ⟨_, rfl⟩
        have hI := hI'
        clear hI'
        go_upto_region 4 with (fail)
        refine wp_region_typedG (by kernel_rfl) (fun u G v => (match u with | 9 => v = .pointer (some ⟨g9, 0, none⟩) | 10 => True | 27 => IsF v | 28 => IsF v | 29 => IsF v | 30 => IsF v | 31 => IsF v | _ => True) ∧ (u ∈ [10] → ∃ g, g ∈ G ∧ v = .pointer (some ⟨g, 0, none⟩)))
          (fun G => FInv w (fun W => Row curveP 169 82 w.heap.size W ∧ IRow .i64 64 75 (w.heap.size + 1) W) (G ++ L)) (fun u G g v hv => ⟨hv.1, fun hu => by obtain ⟨g', hg', e⟩ := hv.2 hu; exact ⟨g', List.mem_cons_of_mem _ hg', e⟩⟩) (by kernel_rfl) [27, 28, 29, 30, 31, 10] (by kernel_rfl) [9, 9, 9] (by kernel_rfl) ?h0 (hI.drew hR) ?hs ?hQ
        case h0 => simp
        case hs => exact ⟨F_load g9 h9 (fun G v hv => hv.1) (fun G v hv => ⟨hv, fun hu => absurd hu (by decide)⟩),
          F_load g9 h9 (fun G v hv => hv.1) (fun G v hv => ⟨hv, fun hu => absurd hu (by decide)⟩),
          F_call2 hR call51 lTimes_any (fun G v hv => hv.1) (fun G v hv => hv.1) (fun G v hv => ⟨hv, fun hu => absurd hu (by decide)⟩),
          F_load g9 h9 (fun G v hv => hv.1) (fun G v hv => ⟨hv, fun hu => absurd hu (by decide)⟩),
          F_call2 hR call51 lTimes_any (fun G v hv => hv.1) (fun G v hv => hv.1) (fun G v hv => ⟨hv, fun hu => absurd hu (by decide)⟩),
          F_alloc hR (fun G g => ⟨trivial, fun _ => ⟨g, by simp, rfl⟩⟩),
          F_store hR (fun G v hv => by obtain ⟨g, hg, e⟩ := hv.2 (by decide); exact ⟨g, List.mem_append_left _ hg, e⟩) (fun G v hv => hv.1), trivial⟩
        case hQ =>
          rintro f w4 G hI' hT
          obtain ⟨g10, hg10, e10⟩ := (hT 10 (by simp)).2 (by simp)
          simp only [putAll, List.setIfInBounds_toArray, List.set_cons_zero, List.set_cons_succ, e10]
          replace h6 := List.mem_append_right G h6
          replace h7 := List.mem_append_right G h7
          replace h8 := List.mem_append_right G h8
          replace h9 := List.mem_append_right G h9
          have h10 := List.mem_append_left L hg10
          clear hI hT
          generalize G ++ L = L' at h6 h7 h8 h9 h10 hI'
          obtain ⟨L, rfl⟩ : ∃ L, L = L' := ⟨_, rfl⟩
          have hI := hI'
          clear hI'
          go_upto_region 5 with (fail)
          refine wp_region_typedG (by kernel_rfl) (fun u G v => (match u with | 9 => v = .pointer (some ⟨g9, 0, none⟩) | 10 => v = .pointer (some ⟨g10, 0, none⟩) | 11 => True | 32 => IsF v | 33 => IsF v | 34 => IsF v | 35 => IsF v | 36 => IsF v | _ => True) ∧ (u ∈ [11] → ∃ g, g ∈ G ∧ v = .pointer (some ⟨g, 0, none⟩)))
            (fun G => FInv w (fun W => Row curveP 169 82 w.heap.size W ∧ IRow .i64 64 75 (w.heap.size + 1) W) (G ++ L)) (fun u G g v hv => ⟨hv.1, fun hu => by obtain ⟨g', hg', e⟩ := hv.2 hu; exact ⟨g', List.mem_cons_of_mem _ hg', e⟩⟩) (by kernel_rfl) [32, 33, 34, 35, 36, 11] (by kernel_rfl) [10, 10, 9] (by kernel_rfl) ?h0 (hI.drew hR) ?hs ?hQ
          case h0 => simp
          case hs => exact ⟨F_load g10 h10 (fun G v hv => hv.1) (fun G v hv => ⟨hv, fun hu => absurd hu (by decide)⟩),
            F_load g10 h10 (fun G v hv => hv.1) (fun G v hv => ⟨hv, fun hu => absurd hu (by decide)⟩),
            F_call2 hR call51 lTimes_any (fun G v hv => hv.1) (fun G v hv => hv.1) (fun G v hv => ⟨hv, fun hu => absurd hu (by decide)⟩),
            F_load g9 h9 (fun G v hv => hv.1) (fun G v hv => ⟨hv, fun hu => absurd hu (by decide)⟩),
            F_call2 hR call51 lTimes_any (fun G v hv => hv.1) (fun G v hv => hv.1) (fun G v hv => ⟨hv, fun hu => absurd hu (by decide)⟩),
            F_alloc hR (fun G g => ⟨trivial, fun _ => ⟨g, by simp, rfl⟩⟩),
            F_store hR (fun G v hv => by obtain ⟨g, hg, e⟩ := hv.2 (by decide); exact ⟨g, List.mem_append_left _ hg, e⟩) (fun G v hv => hv.1), trivial⟩
          case hQ =>
            rintro f w5 G hI' hT
            obtain ⟨g11, hg11, e11⟩ := (hT 11 (by simp)).2 (by simp)
            simp only [putAll, List.setIfInBounds_toArray, List.set_cons_zero, List.set_cons_succ, e11]
            replace h6 := List.mem_append_right G h6
            replace h7 := List.mem_append_right G h7
            replace h8 := List.mem_append_right G h8
            replace h9 := List.mem_append_right G h9
            replace h10 := List.mem_append_right G h10
            have h11 := List.mem_append_left L hg11
            clear hI hT
            generalize G ++ L = L' at h6 h7 h8 h9 h10 h11 hI'
            obtain ⟨L, rfl⟩ : ∃ L, L = L' := ⟨_, rfl⟩
            have hI := hI'
            clear hI'
            go_upto_region 6 with (fail)
            refine wp_region_typedG (by kernel_rfl) (fun u G v => (match u with | 8 => v = .pointer (some ⟨g8, 0, none⟩) | 10 => v = .pointer (some ⟨g10, 0, none⟩) | 11 => v = .pointer (some ⟨g11, 0, none⟩) | 12 => True | 37 => IsF v | 38 => IsF v | 39 => IsF v | 40 => IsF v | 41 => IsF v | 42 => IsF v | 43 => IsF v | 44 => IsF v | _ => True) ∧ (u ∈ [12] → ∃ g, g ∈ G ∧ v = .pointer (some ⟨g, 0, none⟩)))
              (fun G => FInv w (fun W => Row curveP 169 82 w.heap.size W ∧ IRow .i64 64 75 (w.heap.size + 1) W) (G ++ L)) (fun u G g v hv => ⟨hv.1, fun hu => by obtain ⟨g', hg', e⟩ := hv.2 hu; exact ⟨g', List.mem_cons_of_mem _ hg', e⟩⟩) (by kernel_rfl) [37, 38, 39, 40, 41, 42, 43, 44, 12] (by kernel_rfl) [8, 10, 8, 11] (by kernel_rfl) ?h0 (hI.drew hR) ?hs ?hQ
            case h0 => simp
            case hs => exact ⟨F_load g8 h8 (fun G v hv => hv.1) (fun G v hv => ⟨hv, fun hu => absurd hu (by decide)⟩),
              F_load g10 h10 (fun G v hv => hv.1) (fun G v hv => ⟨hv, fun hu => absurd hu (by decide)⟩),
              F_call2 hR call51 lTimes_any (fun G v hv => hv.1) (fun G v hv => hv.1) (fun G v hv => ⟨hv, fun hu => absurd hu (by decide)⟩),
              F_load g8 h8 (fun G v hv => hv.1) (fun G v hv => ⟨hv, fun hu => absurd hu (by decide)⟩),
              F_load g11 h11 (fun G v hv => hv.1) (fun G v hv => ⟨hv, fun hu => absurd hu (by decide)⟩),
              F_call2 hR call51 lTimes_any (fun G v hv => hv.1) (fun G v hv => hv.1) (fun G v hv => ⟨hv, fun hu => absurd hu (by decide)⟩),
              F_call72 hR (by omega) (by omega) (fun G v hv => hv.1) (fun G v hv => ⟨hv, fun hu => absurd hu (by decide)⟩),
              F_call2 hR call51 lTimes_any (fun G v hv => hv.1) (fun G v hv => hv.1) (fun G v hv => ⟨hv, fun hu => absurd hu (by decide)⟩),
              F_alloc hR (fun G g => ⟨trivial, fun _ => ⟨g, by simp, rfl⟩⟩),
              F_store hR (fun G v hv => by obtain ⟨g, hg, e⟩ := hv.2 (by decide); exact ⟨g, List.mem_append_left _ hg, e⟩) (fun G v hv => hv.1), trivial⟩
            case hQ =>
              rintro f w6 G hI' hT
              obtain ⟨g12, hg12, e12⟩ := (hT 12 (by simp)).2 (by simp)
              simp only [putAll, List.setIfInBounds_toArray, List.set_cons_zero, List.set_cons_succ, e12]
              replace h6 := List.mem_append_right G h6
              replace h7 := List.mem_append_right G h7
              replace h8 := List.mem_append_right G h8
              replace h9 := List.mem_append_right G h9
              replace h10 := List.mem_append_right G h10
              replace h11 := List.mem_append_right G h11
              have h12 := List.mem_append_left L hg12
              clear hI hT
              generalize G ++ L = L' at h6 h7 h8 h9 h10 h11 h12 hI'
              obtain ⟨L, rfl⟩ : ∃ L, L = L' := ⟨_, rfl⟩
              have hI := hI'
              clear hI'
              go_upto_region 7 with (fail)
              refine wp_region_typedG (by kernel_rfl) (fun u _ v => match u with | 8 => v = .pointer (some ⟨g8, 0, none⟩) | 9 => v = .pointer (some ⟨g9, 0, none⟩) | 12 => v = .pointer (some ⟨g12, 0, none⟩) | 45 => IsF v | 46 => IsF v | 47 => IsF v | 48 => IsF v | 49 => IsF v | 50 => IsF v | 51 => IsBool v | 52 => IsBool v | _ => True)
                (fun G => FInv w (fun W => Row curveP 169 82 w.heap.size W ∧ IRow .i64 64 75 (w.heap.size + 1) W) (G ++ L)) (fun u G g v hv => hv) (by kernel_rfl) [45, 46, 47, 48, 49, 50, 51, 52] (by kernel_rfl) [9, 12, 12, 8] (by kernel_rfl) ?h0 (hI.drew hR) ?hs ?hQ
              case h0 => simp
              case hs => exact ⟨F_load g9 h9 (fun G v hv => hv) (fun G v hv => hv),
                F_load g12 h12 (fun G v hv => hv) (fun G v hv => hv),
                F_load g12 h12 (fun G v hv => hv) (fun G v hv => hv),
                F_call2 hR call51 lTimes_any (fun G v hv => hv) (fun G v hv => hv) (fun G v hv => hv),
                F_call2 hR call51 lTimes_any (fun G v hv => hv) (fun G v hv => hv) (fun G v hv => hv),
                F_load g8 h8 (fun G v hv => hv) (fun G v hv => hv),
                F_callB hR call76 (fun G v hv => hv) (fun G v hv => hv) (fun G v hv => hv),
                SafeOpG.of fun G => safe_not (fun v hv => hv) (fun v hv => hv), trivial⟩
              case hQ =>
                rintro f w7 G hI' hT
                obtain ⟨b52, e52⟩ := hT 52 (by simp)
                simp only [putAll, List.setIfInBounds_toArray, List.set_cons_zero, List.set_cons_succ, e52]
                replace h6 := List.mem_append_right G h6
                replace h7 := List.mem_append_right G h7
                replace h8 := List.mem_append_right G h8
                replace h9 := List.mem_append_right G h9
                replace h10 := List.mem_append_right G h10
                replace h11 := List.mem_append_right G h11
                replace h12 := List.mem_append_right G h12
                clear hI hT
                generalize G ++ L = L' at h6 h7 h8 h9 h10 h11 h12 hI'
                obtain ⟨L, rfl⟩ : ∃ L, L = L' := ⟨_, rfl⟩
                have hI := hI'
                clear hI'
                cases b52
                · skip
                  go_upto_region 9 with (fail)
                  refine wp_region_typedG (by kernel_rfl) (fun u _ v => match u with | 8 => v = .pointer (some ⟨g8, 0, none⟩) | 9 => v = .pointer (some ⟨g9, 0, none⟩) | 12 => v = .pointer (some ⟨g12, 0, none⟩) | 56 => IsF v | 57 => IsF v | 58 => IsF v | 59 => IsF v | 60 => IsF v | 61 => IsF v | 62 => IsBool v | 63 => IsBool v | _ => True)
                    (fun G => FInv w (fun W => Row curveP 169 82 w.heap.size W ∧ IRow .i64 64 75 (w.heap.size + 1) W) (G ++ L)) (fun u G g v hv => hv) (by kernel_rfl) [56, 57, 58, 59, 60, 61, 62, 63] (by kernel_rfl) [9, 12, 12, 8] (by kernel_rfl) ?h0 (hI.drew hR) ?hs ?hQ
                  case h0 => simp
                  case hs => exact ⟨F_load g9 h9 (fun G v hv => hv) (fun G v hv => hv),
                    F_load g12 h12 (fun G v hv => hv) (fun G v hv => hv),
                    F_load g12 h12 (fun G v hv => hv) (fun G v hv => hv),
                    F_call2 hR call51 lTimes_any (fun G v hv => hv) (fun G v hv => hv) (fun G v hv => hv),
                    F_call2 hR call51 lTimes_any (fun G v hv => hv) (fun G v hv => hv) (fun G v hv => hv),
                    F_load g8 h8 (fun G v hv => hv) (fun G v hv => hv),
                    F_callB hR call76 (fun G v hv => hv) (fun G v hv => hv) (fun G v hv => hv),
                    SafeOpG.of fun G => safe_not (fun v hv => hv) (fun v hv => hv), trivial⟩
                  case hQ =>
                    rintro f w8 G hI' hT
                    obtain ⟨b63, e63⟩ := hT 63 (by simp)
                    simp only [putAll, List.setIfInBounds_toArray, List.set_cons_zero, List.set_cons_succ, e63]
                    replace h6 := List.mem_append_right G h6
                    replace h7 := List.mem_append_right G h7
                    replace h8 := List.mem_append_right G h8
                    replace h9 := List.mem_append_right G h9
                    replace h10 := List.mem_append_right G h10
                    replace h11 := List.mem_append_right G h11
                    replace h12 := List.mem_append_right G h12
                    clear hI hT
                    generalize G ++ L = L' at h6 h7 h8 h9 h10 h11 h12 hI'
                    obtain ⟨L, rfl⟩ : ∃ L, L = L' := ⟨_, rfl⟩
                    have hI := hI'
                    clear hI'
                    cases b63
                    · go_upto_region 11 with (fail)
                      refine wp_region_typedG (by kernel_rfl) (fun u _ v => match u with | 1 => IsStr 32 v | 12 => v = .pointer (some ⟨g12, 0, none⟩) | 65 => IsF v | 66 => IsStr 32 v | 67 => IsInt .u8 v | 68 => IsInt .u8 v | 69 => IsStr 32 v | 70 => IsInt .u8 v | 71 => IsInt .u8 v | 72 => IsBool v | _ => True)
                        (fun G => FInv w (fun W => Row curveP 169 82 w.heap.size W ∧ IRow .i64 64 75 (w.heap.size + 1) W) (G ++ L)) (fun u G g v hv => hv) (by kernel_rfl) [65, 66, 67, 68, 69, 70, 71, 72] (by kernel_rfl) [12, 1] (by kernel_rfl) ?h0 (hI.drew hR) ?hs ?hQ
                      case h0 => simp [IsStr, hs]
                      case hs => exact ⟨F_load g12 h12 (fun G v hv => hv) (fun G v hv => hv),
                        F_call1 hR IsF (IsStr 32) call57 lPacked_call (fun G v hv => hv) (fun G v hv => hv),
                        SafeOpG.of fun G => safe_indexStr Tryz.underlying9 32 0 (by omega) (fun v hv => hv) rfl (fun v hv => hv),
                        SafeOpG.of fun G => safe_arith (k := .u8) (by simp) (fun v hv => hv) ⟨1, rfl⟩ (fun v hv => hv),
                        SafeOpG.of fun G => safe_move fun d hd => by cases hd; exact fun v hv => hv,
                        SafeOpG.of fun G => safe_indexStr Tryz.underlying9 32 31 (by omega) (fun v hv => hv) rfl (fun v hv => hv),
                        SafeOpG.of fun G => safe_shift (k := .u8) (.inr rfl) 7 (by omega) (fun v hv => hv) rfl (fun v hv => hv),
                        SafeOpG.of fun G => safe_cmp (k := .u8) (by simp) (fun v hv => hv) (fun v hv => hv) (fun v hv => hv), trivial⟩
                      case hQ =>
                        rintro f w9 G hI' hT
                        obtain ⟨b72, e72⟩ := hT 72 (by simp)
                        simp only [putAll, List.setIfInBounds_toArray, List.set_cons_zero, List.set_cons_succ, e72]
                        replace h6 := List.mem_append_right G h6
                        replace h7 := List.mem_append_right G h7
                        replace h8 := List.mem_append_right G h8
                        replace h9 := List.mem_append_right G h9
                        replace h10 := List.mem_append_right G h10
                        replace h11 := List.mem_append_right G h11
                        replace h12 := List.mem_append_right G h12
                        clear hI hT
                        generalize G ++ L = L' at h6 h7 h8 h9 h10 h11 h12 hI'
                        obtain ⟨L, rfl⟩ : ∃ L, L = L' := ⟨_, rfl⟩
                        have hI := hI'
                        clear hI'
                        cases b72
                        · go_upto_region 13 with (fail)
                          refine wp_region_typedG (by kernel_rfl) (fun u _ v => match u with | 4 => v = .pointer (some ⟨w.heap.size + 1, 0, none⟩) | 5 => v = .bool true | 6 => v = .pointer (some ⟨g6, 0, none⟩) | 12 => v = .pointer (some ⟨g12, 0, none⟩) | 76 => IsF v | 77 => IsF v | 78 => IsF v | 79 => IsF v | 80 => IsF v | 81 => IsF v | 82 => IsPt v | _ => True)
                            (fun G => FInv w (fun W => Row curveP 169 82 w.heap.size W ∧ IRow .i64 64 75 (w.heap.size + 1) W) (G ++ L)) (fun u G g v hv => hv) (by kernel_rfl) [76, 77, 78, 79, 80, 81, 82, 5] (by kernel_rfl) [12, 6, 12, 6, 4] (by kernel_rfl) ?h0 (hI.drew hR) ?hs ?hQ
                          case h0 => simp
                          case hs => exact ⟨F_load g12 h12 (fun G v hv => hv) (fun G v hv => hv),
                            F_load g6 h6 (fun G v hv => hv) (fun G v hv => hv),
                            F_call1 hR (· = .int .i64 1) IsF call53 (fun a w h => by subst h; exact lSmall_call _ w) (fun G => rfl) (fun G v hv => hv),
                            F_load g12 h12 (fun G v hv => hv) (fun G v hv => hv),
                            F_load g6 h6 (fun G v hv => hv) (fun G v hv => hv),
                            F_call2 hR call51 lTimes_any (fun G v hv => hv) (fun G v hv => hv) (fun G v hv => hv),
                            SafeOpG.of fun G => safe_build4 IsF IsPt (fun v hv => hv) (fun v hv => hv) (fun v hv => hv) (fun v hv => hv) (fun a b c e W ⟨ca, ha, ka⟩ ⟨cb, hb, kb⟩ ⟨cc, hc, kc⟩ ⟨ce, he, ke⟩ => by subst ha hb hc he; obtain ⟨x, h1, h2⟩ := build_pt ca cb cc ce ka kb kc ke W; exact ⟨_, h1, x, rfl, h2⟩) (fun v hv => hv),
                            F_storePt hR (fun G v hv => hv) (fun G v hv => hv),
                            SafeOpG.of fun G => safe_assign fun d hd => by cases hd; exact rfl, trivial⟩
                          case hQ =>
                            rintro f w10 G hI' hT
                            have e5 : f 5 = .bool true := hT 5 (by simp)
                            simp only [putAll, List.setIfInBounds_toArray, List.set_cons_zero, List.set_cons_succ, e5]
                            go_wp2
                            exact ret_found (w.heap.size + 1) true rfl rfl hI'.rest.2 rfl fun cs2 hcs2 => ⟨⟨cs2, true, rfl, hcs2⟩, hI'.below⟩
                        · go_upto_region 12 with (fail)
                          refine wp_region_typedP (by kernel_rfl) (fun u _ v => match u with | 12 => v = .pointer (some ⟨g12, 0, none⟩) | 73 => IsF v | 74 => IsF v | 75 => IsF v | _ => True)
                            (fun G => FInv w (fun W => Row curveP 169 82 w.heap.size W ∧ IRow .i64 64 75 (w.heap.size + 1) W) (G ++ L)) (fun u G g v hv => hv) (by kernel_rfl) [73, 74, 75] (by kernel_rfl) [12, 12] (by kernel_rfl) ?h0 (hI) ?hs ?hQ
                          case h0 => simp
                          case hs => exact ⟨SafeOpG.of fun G => safe_build0 IsF (fun W => ⟨_, build73 W, z16, rfl, z16_ints⟩) (fun v hv => hv),
                            F_load g12 h12 (fun G v hv => hv) (fun G v hv => hv),
                            F_call2 hR call52 lMinus_any (fun G v hv => hv) (fun G v hv => hv) (fun G v hv => hv),
                            F_store hR (fun G v hv => ⟨g12, List.mem_append_right _ h12, hv⟩) (fun G v hv => hv), trivial⟩
                          case hQ =>
                            rintro f w10 G hI' hT
                            simp only [putAll, List.setIfInBounds_toArray, List.set_cons_zero, List.set_cons_succ]
                            replace h6 := List.mem_append_right G h6
                            replace h7 := List.mem_append_right G h7
                            replace h8 := List.mem_append_right G h8
                            replace h9 := List.mem_append_right G h9
                            replace h10 := List.mem_append_right G h10
                            replace h11 := List.mem_append_right G h11
                            replace h12 := List.mem_append_right G h12
                            clear hI hT
                            generalize G ++ L = L' at h6 h7 h8 h9 h10 h11 h12 hI'
                            obtain ⟨L, rfl⟩ : ∃ L, L = L' := ⟨_, rfl⟩
                            have hI := hI'
                            clear hI'
                            go_upto_region 13 with (fail)
                            refine wp_region_typedG (by kernel_rfl) (fun u _ v => match u with | 4 => v = .pointer (some ⟨w.heap.size + 1, 0, none⟩) | 5 => v = .bool true | 6 => v = .pointer (some ⟨g6, 0, none⟩) | 12 => v = .pointer (some ⟨g12, 0, none⟩) | 76 => IsF v | 77 => IsF v | 78 => IsF v | 79 => IsF v | 80 => IsF v | 81 => IsF v | 82 => IsPt v | _ => True)
                              (fun G => FInv w (fun W => Row curveP 169 82 w.heap.size W ∧ IRow .i64 64 75 (w.heap.size + 1) W) (G ++ L)) (fun u G g v hv => hv) (by kernel_rfl) [76, 77, 78, 79, 80, 81, 82, 5] (by kernel_rfl) [12, 6, 12, 6, 4] (by kernel_rfl) ?h0 (hI.drew hR) ?hs ?hQ
                            case h0 => simp
                            case hs => exact ⟨F_load g12 h12 (fun G v hv => hv) (fun G v hv => hv),
                              F_load g6 h6 (fun G v hv => hv) (fun G v hv => hv),
                              F_call1 hR (· = .int .i64 1) IsF call53 (fun a w h => by subst h; exact lSmall_call _ w) (fun G => rfl) (fun G v hv => hv),
                              F_load g12 h12 (fun G v hv => hv) (fun G v hv => hv),
                              F_load g6 h6 (fun G v hv => hv) (fun G v hv => hv),
                              F_call2 hR call51 lTimes_any (fun G v hv => hv) (fun G v hv => hv) (fun G v hv => hv),
                              SafeOpG.of fun G => safe_build4 IsF IsPt (fun v hv => hv) (fun v hv => hv) (fun v hv => hv) (fun v hv => hv) (fun a b c e W ⟨ca, ha, ka⟩ ⟨cb, hb, kb⟩ ⟨cc, hc, kc⟩ ⟨ce, he, ke⟩ => by subst ha hb hc he; obtain ⟨x, h1, h2⟩ := build_pt ca cb cc ce ka kb kc ke W; exact ⟨_, h1, x, rfl, h2⟩) (fun v hv => hv),
                              F_storePt hR (fun G v hv => hv) (fun G v hv => hv),
                              SafeOpG.of fun G => safe_assign fun d hd => by cases hd; exact rfl, trivial⟩
                            case hQ =>
                              rintro f w11 G hI' hT
                              have e5 : f 5 = .bool true := hT 5 (by simp)
                              simp only [putAll, List.setIfInBounds_toArray, List.set_cons_zero, List.set_cons_succ, e5]
                              go_wp2
                              exact ret_found (w.heap.size + 1) true rfl rfl hI'.rest.2 rfl fun cs2 hcs2 => ⟨⟨cs2, true, rfl, hcs2⟩, hI'.below⟩
                    · go_upto_region 10 with (fail)
                      refine wp_region_typedP (by kernel_rfl) (fun u _ v => match u with | 4 => v = .pointer (some ⟨w.heap.size + 1, 0, none⟩) | 5 => v = .bool false | 64 => IsPt v | _ => True)
                        (fun G => FInv w (fun W => Row curveP 169 82 w.heap.size W ∧ IRow .i64 64 75 (w.heap.size + 1) W) (G ++ L)) (fun u G g v hv => hv) (by kernel_rfl) [64, 5] (by kernel_rfl) [4] (by kernel_rfl) ?h0 (hI) ?hs ?hQ
                      case h0 => simp
                      case hs => exact ⟨SafeOpG.of fun G => safe_build0 IsPt (fun W => ⟨_, build75 W, z64, rfl, z64_ints⟩) (fun v hv => hv),
                        F_storePt hR (fun G v hv => hv) (fun G v hv => hv),
                        SafeOpG.of fun G => safe_assign fun d hd => by cases hd; exact rfl, trivial⟩
                      case hQ =>
                        rintro f w11 G hI' hT
                        have e5 : f 5 = .bool false := hT 5 (by simp)
                        simp only [putAll, List.setIfInBounds_toArray, List.set_cons_zero, List.set_cons_succ, e5]
                        go_wp2
                        exact ret_found (w.heap.size + 1) false rfl rfl hI'.rest.2 rfl fun cs2 hcs2 => ⟨⟨cs2, false, rfl, hcs2⟩, hI'.below⟩
                · go_upto_region 8 with (fail)
                  refine wp_region_typedG (by kernel_rfl) (fun u _ v => match u with | 12 => v = .pointer (some ⟨g12, 0, none⟩) | 53 => IsF v | 54 => IsF v | 55 => IsF v | _ => True)
                    (fun G => FInv w (fun W => Row curveP 169 82 w.heap.size W ∧ IRow .i64 64 75 (w.heap.size + 1) W) (G ++ L)) (fun u G g v hv => hv) (by kernel_rfl) [53, 54, 55] (by kernel_rfl) [12, 12] (by kernel_rfl) ?h0 (hI.drew hR) ?hs ?hQ
                  case h0 => simp
                  case hs => exact ⟨F_load g12 h12 (fun G v hv => hv) (fun G v hv => hv),
                    F_call77 hR (fun G v hv => hv),
                    F_call2 hR call51 lTimes_any (fun G v hv => hv) (fun G v hv => hv) (fun G v hv => hv),
                    F_store hR (fun G v hv => ⟨g12, List.mem_append_right _ h12, hv⟩) (fun G v hv => hv), trivial⟩
                  case hQ =>
                    rintro f w11 G hI' hT
                    simp only [putAll, List.setIfInBounds_toArray, List.set_cons_zero, List.set_cons_succ]
                    replace h6 := List.mem_append_right G h6
                    replace h7 := List.mem_append_right G h7
                    replace h8 := List.mem_append_right G h8
                    replace h9 := List.mem_append_right G h9
                    replace h10 := List.mem_append_right G h10
                    replace h11 := List.mem_append_right G h11
                    replace h12 := List.mem_append_right G h12
                    clear hI hT
                    generalize G ++ L = L' at h6 h7 h8 h9 h10 h11 h12 hI'
                    obtain ⟨L, rfl⟩ : ∃ L, L = L' := ⟨_, rfl⟩
                    have hI := hI'
                    clear hI'
                    go_upto_region 9 with (fail)
                    refine wp_region_typedG (by kernel_rfl) (fun u _ v => match u with | 8 => v = .pointer (some ⟨g8, 0, none⟩) | 9 => v = .pointer (some ⟨g9, 0, none⟩) | 12 => v = .pointer (some ⟨g12, 0, none⟩) | 56 => IsF v | 57 => IsF v | 58 => IsF v | 59 => IsF v | 60 => IsF v | 61 => IsF v | 62 => IsBool v | 63 => IsBool v | _ => True)
                      (fun G => FInv w (fun W => Row curveP 169 82 w.heap.size W ∧ IRow .i64 64 75 (w.heap.size + 1) W) (G ++ L)) (fun u G g v hv => hv) (by kernel_rfl) [56, 57, 58, 59, 60, 61, 62, 63] (by kernel_rfl) [9, 12, 12, 8] (by kernel_rfl) ?h0 (hI.drew hR) ?hs ?hQ
                    case h0 => simp
                    case hs => exact ⟨F_load g9 h9 (fun G v hv => hv) (fun G v hv => hv),
                      F_load g12 h12 (fun G v hv => hv) (fun G v hv => hv),
                      F_load g12 h12 (fun G v hv => hv) (fun G v hv => hv),
                      F_call2 hR call51 lTimes_any (fun G v hv => hv) (fun G v hv => hv) (fun G v hv => hv),
                      F_call2 hR call51 lTimes_any (fun G v hv => hv) (fun G v hv => hv) (fun G v hv => hv),
                      F_load g8 h8 (fun G v hv => hv) (fun G v hv => hv),
                      F_callB hR call76 (fun G v hv => hv) (fun G v hv => hv) (fun G v hv => hv),
                      SafeOpG.of fun G => safe_not (fun v hv => hv) (fun v hv => hv), trivial⟩
                    case hQ =>
                      rintro f w12 G hI' hT
                      obtain ⟨b63, e63⟩ := hT 63 (by simp)
                      simp only [putAll, List.setIfInBounds_toArray, List.set_cons_zero, List.set_cons_succ, e63]
                      replace h6 := List.mem_append_right G h6
                      replace h7 := List.mem_append_right G h7
                      replace h8 := List.mem_append_right G h8
                      replace h9 := List.mem_append_right G h9
                      replace h10 := List.mem_append_right G h10
                      replace h11 := List.mem_append_right G h11
                      replace h12 := List.mem_append_right G h12
                      clear hI hT
                      generalize G ++ L = L' at h6 h7 h8 h9 h10 h11 h12 hI'
                      obtain ⟨L, rfl⟩ : ∃ L, L = L' := ⟨_, rfl⟩
                      have hI := hI'
                      clear hI'
                      cases b63
                      · go_upto_region 11 with (fail)
                        refine wp_region_typedG (by kernel_rfl) (fun u _ v => match u with | 1 => IsStr 32 v | 12 => v = .pointer (some ⟨g12, 0, none⟩) | 65 => IsF v | 66 => IsStr 32 v | 67 => IsInt .u8 v | 68 => IsInt .u8 v | 69 => IsStr 32 v | 70 => IsInt .u8 v | 71 => IsInt .u8 v | 72 => IsBool v | _ => True)
                          (fun G => FInv w (fun W => Row curveP 169 82 w.heap.size W ∧ IRow .i64 64 75 (w.heap.size + 1) W) (G ++ L)) (fun u G g v hv => hv) (by kernel_rfl) [65, 66, 67, 68, 69, 70, 71, 72] (by kernel_rfl) [12, 1] (by kernel_rfl) ?h0 (hI.drew hR) ?hs ?hQ
                        case h0 => simp [IsStr, hs]
                        case hs => exact ⟨F_load g12 h12 (fun G v hv => hv) (fun G v hv => hv),
                          F_call1 hR IsF (IsStr 32) call57 lPacked_call (fun G v hv => hv) (fun G v hv => hv),
                          SafeOpG.of fun G => safe_indexStr Tryz.underlying9 32 0 (by omega) (fun v hv => hv) rfl (fun v hv => hv),
                          SafeOpG.of fun G => safe_arith (k := .u8) (by simp) (fun v hv => hv) ⟨1, rfl⟩ (fun v hv => hv),
                          SafeOpG.of fun G => safe_move fun d hd => by cases hd; exact fun v hv => hv,
                          SafeOpG.of fun G => safe_indexStr Tryz.underlying9 32 31 (by omega) (fun v hv => hv) rfl (fun v hv => hv),
                          SafeOpG.of fun G => safe_shift (k := .u8) (.inr rfl) 7 (by omega) (fun v hv => hv) rfl (fun v hv => hv),
                          SafeOpG.of fun G => safe_cmp (k := .u8) (by simp) (fun v hv => hv) (fun v hv => hv) (fun v hv => hv), trivial⟩
                        case hQ =>
                          rintro f w13 G hI' hT
                          obtain ⟨b72, e72⟩ := hT 72 (by simp)
                          simp only [putAll, List.setIfInBounds_toArray, List.set_cons_zero, List.set_cons_succ, e72]
                          replace h6 := List.mem_append_right G h6
                          replace h7 := List.mem_append_right G h7
                          replace h8 := List.mem_append_right G h8
                          replace h9 := List.mem_append_right G h9
                          replace h10 := List.mem_append_right G h10
                          replace h11 := List.mem_append_right G h11
                          replace h12 := List.mem_append_right G h12
                          clear hI hT
                          generalize G ++ L = L' at h6 h7 h8 h9 h10 h11 h12 hI'
                          obtain ⟨L, rfl⟩ : ∃ L, L = L' := ⟨_, rfl⟩
                          have hI := hI'
                          clear hI'
                          cases b72
                          · go_upto_region 13 with (fail)
                            refine wp_region_typedG (by kernel_rfl) (fun u _ v => match u with | 4 => v = .pointer (some ⟨w.heap.size + 1, 0, none⟩) | 5 => v = .bool true | 6 => v = .pointer (some ⟨g6, 0, none⟩) | 12 => v = .pointer (some ⟨g12, 0, none⟩) | 76 => IsF v | 77 => IsF v | 78 => IsF v | 79 => IsF v | 80 => IsF v | 81 => IsF v | 82 => IsPt v | _ => True)
                              (fun G => FInv w (fun W => Row curveP 169 82 w.heap.size W ∧ IRow .i64 64 75 (w.heap.size + 1) W) (G ++ L)) (fun u G g v hv => hv) (by kernel_rfl) [76, 77, 78, 79, 80, 81, 82, 5] (by kernel_rfl) [12, 6, 12, 6, 4] (by kernel_rfl) ?h0 (hI.drew hR) ?hs ?hQ
                            case h0 => simp
                            case hs => exact ⟨F_load g12 h12 (fun G v hv => hv) (fun G v hv => hv),
                              F_load g6 h6 (fun G v hv => hv) (fun G v hv => hv),
                              F_call1 hR (· = .int .i64 1) IsF call53 (fun a w h => by subst h; exact lSmall_call _ w) (fun G => rfl) (fun G v hv => hv),
                              F_load g12 h12 (fun G v hv => hv) (fun G v hv => hv),
                              F_load g6 h6 (fun G v hv => hv) (fun G v hv => hv),
                              F_call2 hR call51 lTimes_any (fun G v hv => hv) (fun G v hv => hv) (fun G v hv => hv),
                              SafeOpG.of fun G => safe_build4 IsF IsPt (fun v hv => hv) (fun v hv => hv) (fun v hv => hv) (fun v hv => hv) (fun a b c e W ⟨ca, ha, ka⟩ ⟨cb, hb, kb⟩ ⟨cc, hc, kc⟩ ⟨ce, he, ke⟩ => by subst ha hb hc he; obtain ⟨x, h1, h2⟩ := build_pt ca cb cc ce ka kb kc ke W; exact ⟨_, h1, x, rfl, h2⟩) (fun v hv => hv),
                              F_storePt hR (fun G v hv => hv) (fun G v hv => hv),
                              SafeOpG.of fun G => safe_assign fun d hd => by cases hd; exact rfl, trivial⟩
                            case hQ =>
                              rintro f w14 G hI' hT
                              have e5 : f 5 = .bool true := hT 5 (by simp)
                              simp only [putAll, List.setIfInBounds_toArray, List.set_cons_zero, List.set_cons_succ, e5]
                              go_wp2
                              exact ret_found (w.heap.size + 1) true rfl rfl hI'.rest.2 rfl fun cs2 hcs2 => ⟨⟨cs2, true, rfl, hcs2⟩, hI'.below⟩
                          · go_upto_region 12 with (fail)
                            refine wp_region_typedP (by kernel_rfl) (fun u _ v => match u with | 12 => v = .pointer (some ⟨g12, 0, none⟩) | 73 => IsF v | 74 => IsF v | 75 => IsF v | _ => True)
                              (fun G => FInv w (fun W => Row curveP 169 82 w.heap.size W ∧ IRow .i64 64 75 (w.heap.size + 1) W) (G ++ L)) (fun u G g v hv => hv) (by kernel_rfl) [73, 74, 75] (by kernel_rfl) [12, 12] (by kernel_rfl) ?h0 (hI) ?hs ?hQ
                            case h0 => simp
                            case hs => exact ⟨SafeOpG.of fun G => safe_build0 IsF (fun W => ⟨_, build73 W, z16, rfl, z16_ints⟩) (fun v hv => hv),
                              F_load g12 h12 (fun G v hv => hv) (fun G v hv => hv),
                              F_call2 hR call52 lMinus_any (fun G v hv => hv) (fun G v hv => hv) (fun G v hv => hv),
                              F_store hR (fun G v hv => ⟨g12, List.mem_append_right _ h12, hv⟩) (fun G v hv => hv), trivial⟩
                            case hQ =>
                              rintro f w14 G hI' hT
                              simp only [putAll, List.setIfInBounds_toArray, List.set_cons_zero, List.set_cons_succ]
                              replace h6 := List.mem_append_right G h6
                              replace h7 := List.mem_append_right G h7
                              replace h8 := List.mem_append_right G h8
                              replace h9 := List.mem_append_right G h9
                              replace h10 := List.mem_append_right G h10
                              replace h11 := List.mem_append_right G h11
                              replace h12 := List.mem_append_right G h12
                              clear hI hT
                              generalize G ++ L = L' at h6 h7 h8 h9 h10 h11 h12 hI'
                              obtain ⟨L, rfl⟩ : ∃ L, L = L' := ⟨_, rfl⟩
                              have hI := hI'
                              clear hI'
                              go_upto_region 13 with (fail)
                              refine wp_region_typedG (by kernel_rfl) (fun u _ v => match u with | 4 => v = .pointer (some ⟨w.heap.size + 1, 0, none⟩) | 5 => v = .bool true | 6 => v = .pointer (some ⟨g6, 0, none⟩) | 12 => v = .pointer (some ⟨g12, 0, none⟩) | 76 => IsF v | 77 => IsF v | 78 => IsF v | 79 => IsF v | 80 => IsF v | 81 => IsF v | 82 => IsPt v | _ => True)
                                (fun G => FInv w (fun W => Row curveP 169 82 w.heap.size W ∧ IRow .i64 64 75 (w.heap.size + 1) W) (G ++ L)) (fun u G g v hv => hv) (by kernel_rfl) [76, 77, 78, 79, 80, 81, 82, 5] (by kernel_rfl) [12, 6, 12, 6, 4] (by kernel_rfl) ?h0 (hI.drew hR) ?hs ?hQ
                              case h0 => simp
                              case hs => exact ⟨F_load g12 h12 (fun G v hv => hv) (fun G v hv => hv),
                                F_load g6 h6 (fun G v hv => hv) (fun G v hv => hv),
                                F_call1 hR (· = .int .i64 1) IsF call53 (fun a w h => by subst h; exact lSmall_call _ w) (fun G => rfl) (fun G v hv => hv),
                                F_load g12 h12 (fun G v hv => hv) (fun G v hv => hv),
                                F_load g6 h6 (fun G v hv => hv) (fun G v hv => hv),
                                F_call2 hR call51 lTimes_any (fun G v hv => hv) (fun G v hv => hv) (fun G v hv => hv),
                                SafeOpG.of fun G => safe_build4 IsF IsPt (fun v hv => hv) (fun v hv => hv) (fun v hv => hv) (fun v hv => hv) (fun a b c e W ⟨ca, ha, ka⟩ ⟨cb, hb, kb⟩ ⟨cc, hc, kc⟩ ⟨ce, he, ke⟩ => by subst ha hb hc he; obtain ⟨x, h1, h2⟩ := build_pt ca cb cc ce ka kb kc ke W; exact ⟨_, h1, x, rfl, h2⟩) (fun v hv => hv),
                                F_storePt hR (fun G v hv => hv) (fun G v hv => hv),
                                SafeOpG.of fun G => safe_assign fun d hd => by cases hd; exact rfl, trivial⟩
                              case hQ =>
                                rintro f w15 G hI' hT
                                have e5 : f 5 = .bool true := hT 5 (by simp)
                                simp only [putAll, List.setIfInBounds_toArray, List.set_cons_zero, List.set_cons_succ, e5]
                                go_wp2
                                exact ret_found (w.heap.size + 1) true rfl rfl hI'.rest.2 rfl fun cs2 hcs2 => ⟨⟨cs2, true, rfl, hcs2⟩, hI'.below⟩
                      · go_upto_region 10 with (fail)
                        refine wp_region_typedP (by kernel_rfl) (fun u _ v => match u with | 4 => v = .pointer (some ⟨w.heap.size + 1, 0, none⟩) | 5 => v = .bool false | 64 => IsPt v | _ => True)
                          (fun G => FInv w (fun W => Row curveP 169 82 w.heap.size W ∧ IRow .i64 64 75 (w.heap.size + 1) W) (G ++ L)) (fun u G g v hv => hv) (by kernel_rfl) [64, 5] (by kernel_rfl) [4] (by kernel_rfl) ?h0 (hI) ?hs ?hQ
                        case h0 => simp
                        case hs => exact ⟨SafeOpG.of fun G => safe_build0 IsPt (fun W => ⟨_, build75 W, z64, rfl, z64_ints⟩) (fun v hv => hv),
                          F_storePt hR (fun G v hv => hv) (fun G v hv => hv),
                          SafeOpG.of fun G => safe_assign fun d hd => by cases hd; exact rfl, trivial⟩
                        case hQ =>
                          rintro f w15 G hI' hT
                          have e5 : f 5 = .bool false := hT 5 (by simp)
                          simp only [putAll, List.setIfInBounds_toArray, List.set_cons_zero, List.set_cons_succ, e5]
                          go_wp2
                          exact ret_found (w.heap.size + 1) false rfl rfl hI'.rest.2 rfl fun cs2 hcs2 => ⟨⟨cs2, false, rfl, hcs2⟩, hI'.below⟩
end Go.Proofs.YtcebfkhfnjbfjaaGreatDoor
