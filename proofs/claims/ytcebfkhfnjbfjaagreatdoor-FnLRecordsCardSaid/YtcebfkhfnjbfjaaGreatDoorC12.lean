/- Contract of shape: is a root below a prime. Contract of shape of the words of SHA-512. Contracts of shape: the sum and the product of numbers, a number of decimal digits. -/
import Derived.Test.YtcebfkhfnjbfjaaGreatDoorC11
import Derived.Test.YtcebfkhfnjbfjaaGreatDoorC10
namespace Go.Proofs.YtcebfkhfnjbfjaaGreatDoor
open Go.RowKit
set_option linter.unusedVariables false
set_option linter.unusedSimpArgs false
section
variable {P : Program}
theorem AllSafe.toG {T : Tmp → Value → Prop} {I : World → Prop} : ∀ {l : List Oper}, AllSafe P T I l → AllSafeG P (fun u _ v => T u v) (fun _ => I) l
  | [], _ => trivial
  | _ :: _, h => ⟨SafeOpG.of fun _ => h.1, AllSafe.toG h.2⟩
/-- A region that keeps the text's order, by kinds. -/
theorem wp_region_text {id : Nat} {ops : Array Oper} {Q : Exit → Act → World → Prop} {a : Act} {w : World} (hv : validB ops (Array.replicate ops.size false) (List.range ops.size) = true) (T : Tmp → Value → Prop) (I : World → Prop)
    (hok : regionOk ops a.tmps.size = true) (D : List Tmp) (hD : dstsOf ops = D) (U : List Tmp) (hU : outReads ops = U)
    (h0 : ∀ u, u ∈ U → T u (a.tmps.getD u undef)) (hI : I w) (hs : AllSafe P T I ops.toList)
    (hQ : ∀ (f : Tmp → Value) (w' : World), I w' → (∀ d, d ∈ D → T d (f d)) → Q .normal ⟨putAll a.tmps D f, a.defers⟩ w') : (Code.region id ops false).wp P Q a w :=
  wp_region_typedP hv (fun u _ v => T u v) (fun _ => I) (fun _ _ _ _ h => h) hok D hD U hU (fun u hu _ => h0 u hu) hI hs.toG fun f w' _ h1 h2 => hQ f w' h1 h2
end
theorem size155 : (Tryz.prog.info? 155).map (·.size) = some 9 := by kernel_rfl
theorem size140 : (Tryz.prog.info? 140).map (·.size) = some 3 := by kernel_rfl
abbrev z9a : Array Value := #[.int .u64 0, .int .u64 0, .int .u64 0, .int .u64 0, .int .u64 0, .int .u64 0, .int .u64 0, .int .u64 0, .int .u64 0]
abbrev n9a : Array Value := #[.int .u64 1, .int .u64 0, .int .u64 0, .int .u64 0, .int .u64 0, .int .u64 0, .int .u64 0, .int .u64 0, .int .u64 0]
theorem z9a_ints : Ints .u64 9 z9a := ints_of_arr (by decide) (by decide)
theorem n9a_ints : Ints .u64 9 n9a := ints_of_arr (by decide) (by decide)
theorem build155 (W : World) : Sem.run Tryz.prog (buildA 155 #[(0, .int .u64 1)]) W = .ok (.agg n9a) W := by kernel_rfl
structure BInv (w : World) (N : Nat) (W : World) : Prop where
  below : Below w.heap.size w W
  x : IRow .u64 3 140 w.heap.size W
  n : IRow .u64 9 155 N W
theorem BInv.drew {w : World} {N : Nat} {W : World} (h : BInv w N W) : BInv w N W.drew :=
  ⟨h.below.trans ⟨rfl, rfl, rfl, Nat.le_refl _, fun _ _ => rfl⟩, h.x.drew, h.n.drew⟩
theorem BInv.alloc {w : World} {N : Nat} {W : World} (h : BInv w N W) (o : Obj) : BInv w N (W.alloc o) := ⟨h.below.alloc h.below.size o, h.x.alloc o, h.n.alloc o⟩
theorem BInv.setM {w : World} {N M : Nat} {W : World} (h : BInv w N W) (hm : IRow .u64 9 155 M W) (hNM : N ≠ M) (hBM : w.heap.size ≤ M) (i : Nat) (u : Value) : BInv w N (W.setCell ⟨M, i, none⟩ u) :=
  ⟨h.below.setCell hBM _, h.x.setOther (h.x.ne hm (by decide)) _, h.n.setOther hNM _⟩
set_option maxHeartbeats 4000000 in
set_option maxRecDepth 100000 in
theorem lBelow_any (cs : Array Value) (deg p : Int) (w : World) (h : Ints .u64 3 cs) (hd0 : 0 ≤ deg) (hd1 : deg ≤ 3) :
    Calls Tryz.prog 73 #[.agg cs, .int .i64 deg, .int .u64 p] w fun e w' => (∃ b, e = .returned (.bool b)) ∧ Below w.heap.size w w' := by
  obtain ⟨dg, rfl⟩ : ∃ dg : Nat, deg = dg := ⟨deg.toNat, by omega⟩
  have hbd := build155
  have hn9 := row_new2 (E := 155) z9a_ints w (.cells cs 140)
  have hst := hn9.store 0 9 (by omega) n9a_ints (fun _ _ => IsInt.one) size155 ((w.alloc (.cells cs 140)).alloc (.cells z9a 155)) rfl
  have hx := (Row.new h w 140).alloc (.cells z9a 155)
  have hb : Below w.heap.size w ((w.alloc (.cells cs 140)).alloc (.cells z9a 155)) := ((Below.refl _ _).alloc (by simp <;> omega) _).alloc (by simp <;> omega) _
  go_enter Tryz.func73, Tryz.ntmps73
  go_upto_region 2 with (fail)
  have h0 : BInv w (w.heap.size + 1) (((w.alloc (.cells cs 140)).alloc (.cells z9a 155)).setCells (w.heap.size + 1) 0 n9a.toList) :=
    ⟨below_setCells (by omega) _ _ hb, hx.setCellsOther (by omega) _ _, hn9.setCells _ _ fun j v hv _ => n9a_ints.list j v hv⟩
  clear hst hx hb hn9 hbd
  obtain ⟨N, hN⟩ : ∃ N, N = w.heap.size + 1 := ⟨_, rfl⟩
  rw [← hN] at h0 ⊢
  have hBN : w.heap.size ≤ N := by omega
  generalize ((w.alloc (.cells cs 140)).alloc (.cells z9a 155)).setCells N 0 _ = wy at h0 ⊢
  clear hN
  go_wp2
  go_loopw [8] (fun i W => ∃ i' : Nat, i = .int .i64 i' ∧ i' ≤ dg ∧ BInv w N W) (fun i _ => (dg - intOf i).toNat)
  case atStart => exact ⟨0, rfl, by omega, h0⟩
  case round =>
    clear h0
    obtain ⟨i, rfl, hi, h0⟩ := hrel
    by_cases hi2 : i < dg
    · have hd : decide ((i : Int) < (dg : Int)) = true := by simp; omega
      rename_i wr
      have hm := Row.new z9a_ints wr 155
      have hNlt := h0.n.lt
      have hBM0 := h0.below.size
      replace h0 := h0.alloc (.cells z9a 155)
      go_upto_region 6 with (fail)
      have hNM : N ≠ wr.heap.size := by omega
      obtain ⟨M, hM⟩ : ∃ M, M = wr.heap.size := ⟨_, rfl⟩
      generalize wr.alloc (.cells z9a 155) = wy at h0 hm ⊢
      rw [← hM] at hm hNM hBM0 ⊢
      have hBM : w.heap.size ≤ M := hBM0
      clear hM hNlt hBM0
      go_wp2
      go_loopw [10] (fun i W => ∃ a : Nat, i = .int .i64 a ∧ a ≤ 9 ∧ BInv w N W ∧ IRow .u64 9 155 M W) (fun i _ => (9 - intOf i).toNat)
      case atStart => exact ⟨0, rfl, by omega, h0, hm⟩
      case round =>
        clear h0 hm
        obtain ⟨a, rfl, ha, h0, hm⟩ := hrel
        by_cases ha2 : a < 9
        · have hd : decide ((a : Int) < 9) = true := by simp; omega
          go_wp2
          go_loopw [11] (fun i W => ∃ b : Nat, i = .int .i64 b ∧ b ≤ 3 ∧ BInv w N W ∧ IRow .u64 9 155 M W) (fun i _ => (3 - intOf i).toNat)
          case atStart => exact ⟨0, rfl, by omega, h0, hm⟩
          case round =>
            clear h0 hm
            obtain ⟨b, rfl, hb, h0, hm⟩ := hrel
            have e1 : IntKind.i64.wrap ((a : Int) + b) = (a : Int) + b := IntWalk.i64_in _ (by omega)
            have e2 : IntKind.i64.wrap ((a : Int) + b + 1) = (a : Int) + b + 1 := IntWalk.i64_in _ (by omega)
            by_cases hb2 : b < 3 ∧ a + b < 9
            · have hd2 : decide ((b : Int) < 3) = true := by simp; omega
              have hd3 : decide ((a : Int) + b < 9) = true := by simp; omega
              go_wp2
              refine wp_region_typed (by kernel_rfl) (fun u v => match u with | 3 => v = .pointer (some ⟨w.heap.size, 0, none⟩) | 7 => v = .pointer (some ⟨N, 0, none⟩) | 10 => v = .int .i64 ((a : Int)) | 11 => v = .int .i64 ((b : Int)) | 12 => IsInt .u64 v | 36 => v = .int .i64 ((a : Int)) | 37 => v = .pointer (some ⟨N, ((a : Int)).toNat, none⟩) | 38 => IsInt .u64 v | 39 => v = .int .i64 ((b : Int)) | 40 => v = .pointer (some ⟨w.heap.size, ((b : Int)).toNat, none⟩) | 41 => IsInt .u64 v | 42 => IsInt .u64 v | _ => True)
                (fun W => BInv w N W ∧ IRow .u64 9 155 M W) (by kernel_rfl) [36, 37, 38, 39, 40, 41, 42, 12] (by kernel_rfl) [10, 7, 11, 3] (by kernel_rfl) ?h0 ⟨h0.drew, hm.drew⟩ ?hs ?hQ
              case h0 => simp [IsInt]
              case hs => exact ⟨safe_move fun d hd => by cases hd; exact fun v hv => hv,
                safe_place Tryz.underlying155 size76 (N) 0 ((a : Int)) (fun v hv => hv) (fun v hv => hv) (by omega) (by omega) (by simp),
                safe_loadInt (n := 9) Tryz.underlying76 (N) (((a : Int)).toNat) (fun v hv => hv) (by omega) (fun W hW => hW.1.n) (fun v hv => hv),
                safe_move fun d hd => by cases hd; exact fun v hv => hv,
                safe_place Tryz.underlying140 size76 (w.heap.size) 0 ((b : Int)) (fun v hv => hv) (fun v hv => hv) (by omega) (by omega) (by simp),
                safe_loadInt (n := 3) Tryz.underlying76 (w.heap.size) (((b : Int)).toNat) (fun v hv => hv) (by omega) (fun W hW => hW.1.x) (fun v hv => hv),
                safe_arith (k := .u64) (by simp) (fun v hv => hv) (fun v hv => hv) (fun v hv => hv),
                safe_assign fun d hd => by cases hd; exact fun v hv => hv, trivial⟩
              case hQ =>
                rintro f w1 ⟨h0, hm⟩ hT
                obtain ⟨x12, e12⟩ : IsInt .u64 (f 12) := hT 12 (by simp)
                simp only [putAll, List.setIfInBounds_toArray, List.set_cons_zero, List.set_cons_succ, e12]
                go_upto_region 13 with (fail)
                refine wp_region_text (by kernel_rfl) (fun u v => match u with | 9 => v = .pointer (some ⟨M, 0, none⟩) | 10 => v = .int .i64 ((a : Int)) | 11 => v = .int .i64 ((b : Int)) | 12 => IsInt .u64 v | 43 => v = .int .i64 ((a : Int)) | 44 => v = .int .i64 ((b : Int)) | 45 => v = .int .i64 (((a : Int)) + ((b : Int))) | 46 => v = .pointer (some ⟨M, (((a : Int)) + ((b : Int))).toNat, none⟩) | 47 => IsInt .u64 v | 48 => IsInt .u64 v | 49 => IsInt .u64 v | 50 => IsInt .u64 v | 51 => v = .pointer (some ⟨M, (((a : Int)) + ((b : Int))).toNat, none⟩) | _ => True)
                  (fun W => BInv w N W ∧ IRow .u64 9 155 M W) (by kernel_rfl) [43, 44, 45, 46, 47, 48, 49, 50, 51] (by kernel_rfl) [10, 11, 9, 12, 9] (by kernel_rfl) ?h0 ⟨h0, hm⟩ ?hs ?hQ
                case h0 => simp [IsInt]
                case hs => exact ⟨safe_move fun d hd => by cases hd; exact fun v hv => hv,
                  safe_move fun d hd => by cases hd; exact fun v hv => hv,
                  safe_add ((a : Int)) ((b : Int)) (fun v hv => hv) (fun v hv => hv) (congrArg (Value.int .i64) (IntWalk.i64_in _ (by omega))),
                  safe_place Tryz.underlying155 size76 (M) 0 (((a : Int)) + ((b : Int))) (fun v hv => hv) (fun v hv => hv) (by omega) (by omega) (by simp),
                  safe_loadInt (n := 9) Tryz.underlying76 (M) ((((a : Int)) + ((b : Int))).toNat) (fun v hv => hv) (by omega) (fun W hW => hW.2) (fun v hv => hv),
                  safe_move fun d hd => by cases hd; exact fun v hv => hv,
                  safe_arith (k := .u64) (by simp) (fun v hv => hv) ⟨4294967295, rfl⟩ (fun v hv => hv),
                  safe_arith (k := .u64) (by simp) (fun v hv => hv) (fun v hv => hv) (fun v hv => hv),
                  safe_place Tryz.underlying155 size76 (M) 0 (((a : Int)) + ((b : Int))) (fun v hv => hv) (fun v hv => hv) (by omega) (by omega) (by simp),
                  safe_storeInt size76 M (((a : Int)) + ((b : Int))).toNat (fun v hv => hv) (fun v hv => hv) (by omega) (fun W hW => hW.2) (fun W z hW => ⟨hW.1.setM hW.2 hNM hBM _ _, hW.2.set fun _ => ⟨z, rfl⟩⟩), trivial⟩
                case hQ =>
                  rintro f w1 ⟨h0, hm⟩ hT
                  simp only [putAll, List.setIfInBounds_toArray, List.set_cons_zero, List.set_cons_succ]
                  by_cases hab : a + b + 1 < 9
                  · have hd4 : decide ((a : Int) + b + 1 < 9) = true := by simp; omega
                    go_upto_region 15 with (fail)
                    refine wp_region_text (by kernel_rfl) (fun u v => match u with | 9 => v = .pointer (some ⟨M, 0, none⟩) | 10 => v = .int .i64 ((a : Int)) | 11 => v = .int .i64 ((b : Int)) | 12 => IsInt .u64 v | 57 => v = .int .i64 ((a : Int)) | 58 => v = .int .i64 ((b : Int)) | 59 => v = .int .i64 (((a : Int)) + ((b : Int))) | 60 => v = .int .i64 ((((a : Int)) + ((b : Int))) + (1)) | 61 => v = .pointer (some ⟨M, ((((a : Int)) + ((b : Int))) + (1)).toNat, none⟩) | 62 => IsInt .u64 v | 63 => IsInt .u64 v | 64 => IsInt .u64 v | 65 => IsInt .u64 v | 66 => v = .pointer (some ⟨M, ((((a : Int)) + ((b : Int))) + (1)).toNat, none⟩) | _ => True)
                      (fun W => BInv w N W ∧ IRow .u64 9 155 M W) (by kernel_rfl) [57, 58, 59, 60, 61, 62, 63, 64, 65, 66] (by kernel_rfl) [10, 11, 9, 12, 9] (by kernel_rfl) ?h0 ⟨h0, hm⟩ ?hs ?hQ
                    case h0 => simp [IsInt]
                    case hs => exact ⟨safe_move fun d hd => by cases hd; exact fun v hv => hv,
                      safe_move fun d hd => by cases hd; exact fun v hv => hv,
                      safe_add ((a : Int)) ((b : Int)) (fun v hv => hv) (fun v hv => hv) (congrArg (Value.int .i64) (IntWalk.i64_in _ (by omega))),
                      safe_add (((a : Int)) + ((b : Int))) (1) (fun v hv => hv) rfl (congrArg (Value.int .i64) (IntWalk.i64_in _ (by omega))),
                      safe_place Tryz.underlying155 size76 (M) 0 ((((a : Int)) + ((b : Int))) + (1)) (fun v hv => hv) (fun v hv => hv) (by omega) (by omega) (by simp),
                      safe_loadInt (n := 9) Tryz.underlying76 (M) (((((a : Int)) + ((b : Int))) + (1)).toNat) (fun v hv => hv) (by omega) (fun W hW => hW.2) (fun v hv => hv),
                      safe_move fun d hd => by cases hd; exact fun v hv => hv,
                      safe_shift (k := .u64) (.inr rfl) 32 (by omega) (fun v hv => hv) rfl (fun v hv => hv),
                      safe_arith (k := .u64) (by simp) (fun v hv => hv) (fun v hv => hv) (fun v hv => hv),
                      safe_place Tryz.underlying155 size76 (M) 0 ((((a : Int)) + ((b : Int))) + (1)) (fun v hv => hv) (fun v hv => hv) (by omega) (by omega) (by simp),
                      safe_storeInt size76 M ((((a : Int)) + ((b : Int))) + (1)).toNat (fun v hv => hv) (fun v hv => hv) (by omega) (fun W hW => hW.2) (fun W z hW => ⟨hW.1.setM hW.2 hNM hBM _ _, hW.2.set fun _ => ⟨z, rfl⟩⟩), trivial⟩
                    case hQ =>
                      rintro f w1 ⟨h0, hm⟩ hT
                      simp only [putAll, List.setIfInBounds_toArray, List.set_cons_zero, List.set_cons_succ]
                      go_wp2
                      go_roundw
                      case rel => exact ⟨b + 1, by go_num, by omega, h0, hm⟩
                      case measure => simp [intOf] <;> omega
                  · have hd4 : decide ((a : Int) + b + 1 < 9) = false := by simp; omega
                    go_wp2
                    go_roundw
                    case rel => exact ⟨b + 1, by go_num, by omega, h0, hm⟩
                    case measure => simp [intOf] <;> omega
            · by_cases hb3 : b < 3
              · have hd2 : decide ((b : Int) < 3) = true := by simp; omega
                have hd3 : decide ((a : Int) + b < 9) = false := by simp; omega
                go_wp2
                go_roundw
                case rel => exact ⟨a + 1, by go_num, by omega, h0, hm⟩
                case measure => simp [intOf] <;> omega
              · have hd2 : decide ((b : Int) < 3) = false := by simp; omega
                go_wp2
                go_roundw
                case rel => exact ⟨a + 1, by go_num, by omega, h0, hm⟩
                case measure => simp [intOf] <;> omega
        · have hd : decide ((a : Int) < 9) = false := by simp; omega
          go_wp2
          go_loopw [13] (fun i W => ∃ a : Nat, i = .int .i64 a ∧ a ≤ 8 ∧ BInv w N W ∧ IRow .u64 9 155 M W) (fun i _ => (8 - intOf i).toNat)
          case atStart => exact ⟨0, rfl, by omega, h0, hm⟩
          case round =>
            clear h0 hm hd ha2 ha
            obtain ⟨a, rfl, ha, h0, hm⟩ := hrel
            by_cases ha2 : a < 8
            · have hd : decide ((a : Int) < 8) = true := by simp; omega
              go_wp2
              refine wp_region_typed (by kernel_rfl) (fun u v => match u with | 9 => v = .pointer (some ⟨M, 0, none⟩) | 13 => v = .int .i64 ((a : Int)) | 71 => v = .int .i64 ((a : Int)) | 72 => v = .int .i64 (((a : Int)) + (1)) | 73 => v = .pointer (some ⟨M, (((a : Int)) + (1)).toNat, none⟩) | 74 => IsInt .u64 v | 75 => v = .int .i64 ((a : Int)) | 76 => v = .pointer (some ⟨M, ((a : Int)).toNat, none⟩) | 77 => IsInt .u64 v | 78 => IsInt .u64 v | 79 => IsInt .u64 v | 80 => v = .pointer (some ⟨M, (((a : Int)) + (1)).toNat, none⟩) | _ => True)
                (fun W => BInv w N W ∧ IRow .u64 9 155 M W) (by kernel_rfl) [71, 72, 73, 74, 75, 76, 77, 78, 79, 80] (by kernel_rfl) [13, 9, 13, 9, 9] (by kernel_rfl) ?h0 ⟨h0.drew, hm.drew⟩ ?hs ?hQ
              case h0 => simp [IsInt]
              case hs => exact ⟨safe_move fun d hd => by cases hd; exact fun v hv => hv,
                safe_add ((a : Int)) (1) (fun v hv => hv) rfl (congrArg (Value.int .i64) (IntWalk.i64_in _ (by omega))),
                safe_place Tryz.underlying155 size76 (M) 0 (((a : Int)) + (1)) (fun v hv => hv) (fun v hv => hv) (by omega) (by omega) (by simp),
                safe_loadInt (n := 9) Tryz.underlying76 (M) ((((a : Int)) + (1)).toNat) (fun v hv => hv) (by omega) (fun W hW => hW.2) (fun v hv => hv),
                safe_move fun d hd => by cases hd; exact fun v hv => hv,
                safe_place Tryz.underlying155 size76 (M) 0 ((a : Int)) (fun v hv => hv) (fun v hv => hv) (by omega) (by omega) (by simp),
                safe_loadInt (n := 9) Tryz.underlying76 (M) (((a : Int)).toNat) (fun v hv => hv) (by omega) (fun W hW => hW.2) (fun v hv => hv),
                safe_shift (k := .u64) (.inr rfl) 32 (by omega) (fun v hv => hv) rfl (fun v hv => hv),
                safe_arith (k := .u64) (by simp) (fun v hv => hv) (fun v hv => hv) (fun v hv => hv),
                safe_place Tryz.underlying155 size76 (M) 0 (((a : Int)) + (1)) (fun v hv => hv) (fun v hv => hv) (by omega) (by omega) (by simp),
                safe_storeInt size76 M (((a : Int)) + (1)).toNat (fun v hv => hv) (fun v hv => hv) (by omega) (fun W hW => hW.2) (fun W z hW => ⟨hW.1.setM hW.2 hNM hBM _ _, hW.2.set fun _ => ⟨z, rfl⟩⟩), trivial⟩
              case hQ =>
                rintro f w1 ⟨h0, hm⟩ hT
                simp only [putAll, List.setIfInBounds_toArray, List.set_cons_zero, List.set_cons_succ]
                go_upto_region 20 with (fail)
                refine wp_region_text (by kernel_rfl) (fun u v => match u with | 9 => v = .pointer (some ⟨M, 0, none⟩) | 13 => v = .int .i64 ((a : Int)) | 81 => v = .int .i64 ((a : Int)) | 82 => v = .pointer (some ⟨M, ((a : Int)).toNat, none⟩) | 83 => IsInt .u64 v | 84 => IsInt .u64 v | 85 => v = .pointer (some ⟨M, ((a : Int)).toNat, none⟩) | _ => True)
                  (fun W => BInv w N W ∧ IRow .u64 9 155 M W) (by kernel_rfl) [81, 82, 83, 84, 85] (by kernel_rfl) [13, 9, 9] (by kernel_rfl) ?h0 ⟨h0, hm⟩ ?hs ?hQ
                case h0 => simp [IsInt]
                case hs => exact ⟨safe_move fun d hd => by cases hd; exact fun v hv => hv,
                  safe_place Tryz.underlying155 size76 (M) 0 ((a : Int)) (fun v hv => hv) (fun v hv => hv) (by omega) (by omega) (by simp),
                  safe_loadInt (n := 9) Tryz.underlying76 (M) (((a : Int)).toNat) (fun v hv => hv) (by omega) (fun W hW => hW.2) (fun v hv => hv),
                  safe_arith (k := .u64) (by simp) (fun v hv => hv) ⟨4294967295, rfl⟩ (fun v hv => hv),
                  safe_place Tryz.underlying155 size76 (M) 0 ((a : Int)) (fun v hv => hv) (fun v hv => hv) (by omega) (by omega) (by simp),
                  safe_storeInt size76 M ((a : Int)).toNat (fun v hv => hv) (fun v hv => hv) (by omega) (fun W hW => hW.2) (fun W z hW => ⟨hW.1.setM hW.2 hNM hBM _ _, hW.2.set fun _ => ⟨z, rfl⟩⟩), trivial⟩
                case hQ =>
                  rintro f w1 ⟨h0, hm⟩ hT
                  simp only [putAll, List.setIfInBounds_toArray, List.set_cons_zero, List.set_cons_succ]
                  go_wp2
                  go_roundw
                  case rel => exact ⟨a + 1, by go_num, by omega, h0, hm⟩
                  case measure => simp [intOf] <;> omega
            · have hd : decide ((a : Int) < 8) = false := by simp; omega
              obtain ⟨cm, hcm, hlm⟩ := hm.load 0 9 (by omega) Tryz.underlying155 rfl size155
              rename_i wr
              have hst := h0.n.store 0 9 (by omega) hcm (fun _ _ => IsInt.one) size155 wr rfl
              go_wp2
              go_roundw
              case rel => exact ⟨i + 1, by go_num, by omega, ⟨below_setCells hBN _ _ h0.below, h0.x.setCellsOther (h0.x.ne h0.n (by decide)) _ _, h0.n.setCells _ _ fun j v hv _ => hcm.list j v hv⟩⟩
              case measure => simp [intOf] <;> omega
    · have hd : decide ((i : Int) < (dg : Int)) = false := by simp; omega
      have e1 : IntKind.i64.wrap (2 * (dg : Int)) = 2 * (dg : Int) := IntWalk.i64_in _ (by omega)
      rename_i wr
      have hm0 := Row.new z9a_ints wr 155
      have hNlt := h0.n.lt
      have hBM0 := h0.below.size
      obtain ⟨q0, hq0⟩ := hm0.int (i := 2 * dg) (by omega)
      have hf0 := hm0.free (2 * dg)
      go_upto_region 24 with (fail)
      have hNM : N ≠ wr.heap.size := by omega
      have hm := Row.new (ints_set (l := z9a.toList) (n := 9) z9a_ints (2 * dg) p) wr 155
      replace h0 := h0.alloc (.cells (z9a.toList.set (2 * dg) (.int .u64 p)).toArray 155)
      clear hq0 hf0 hm0
      obtain ⟨M, hM⟩ : ∃ M, M = wr.heap.size := ⟨_, rfl⟩
      generalize wr.alloc (.cells (z9a.toList.set (2 * dg) (.int .u64 p)).toArray 155) = wy at h0 hm ⊢
      rw [← hM] at hm hNM hBM0 ⊢
      have hBM : w.heap.size ≤ M := hBM0
      clear hM hNlt hBM0 e1 hd
      go_wp2
      go_loopw [15] (fun i W => ∃ x : Int, i = .int .i64 x ∧ -1 ≤ x ∧ x ≤ 8 ∧ BInv w N W ∧ IRow .u64 9 155 M W) (fun i _ => (intOf i + 1).toNat)
      case atStart => exact ⟨8, rfl, by omega, by omega, h0, hm⟩
      case round =>
        clear h0 hm
        obtain ⟨x, rfl, hx0, hx1, h0, hm⟩ := hrel
        by_cases hx2 : 0 ≤ x
        · obtain ⟨a, rfl⟩ : ∃ a : Nat, x = a := ⟨x.toNat, by omega⟩
          go_wp2
          refine wp_region_typed (by kernel_rfl) (fun u v => match u with | 7 => v = .pointer (some ⟨N, 0, none⟩) | 14 => v = .pointer (some ⟨M, 0, none⟩) | 15 => v = .int .i64 ((a : Int)) | 95 => v = .int .i64 ((a : Int)) | 96 => v = .pointer (some ⟨N, ((a : Int)).toNat, none⟩) | 97 => IsInt .u64 v | 98 => v = .int .i64 ((a : Int)) | 99 => v = .pointer (some ⟨M, ((a : Int)).toNat, none⟩) | 100 => IsInt .u64 v | 101 => IsBool v | _ => True)
            (fun W => BInv w N W ∧ IRow .u64 9 155 M W) (by kernel_rfl) [95, 96, 97, 98, 99, 100, 101] (by kernel_rfl) [15, 7, 15, 14] (by kernel_rfl) ?h0 ⟨h0.drew, hm.drew⟩ ?hs ?hQ
          case h0 => simp [IsInt]
          case hs => exact ⟨safe_move fun d hd => by cases hd; exact fun v hv => hv,
            safe_place Tryz.underlying155 size76 (N) 0 ((a : Int)) (fun v hv => hv) (fun v hv => hv) (by omega) (by omega) (by simp),
            safe_loadInt (n := 9) Tryz.underlying76 (N) (((a : Int)).toNat) (fun v hv => hv) (by omega) (fun W hW => hW.1.n) (fun v hv => hv),
            safe_move fun d hd => by cases hd; exact fun v hv => hv,
            safe_place Tryz.underlying155 size76 (M) 0 ((a : Int)) (fun v hv => hv) (fun v hv => hv) (by omega) (by omega) (by simp),
            safe_loadInt (n := 9) Tryz.underlying76 (M) (((a : Int)).toNat) (fun v hv => hv) (by omega) (fun W hW => hW.2) (fun v hv => hv),
            safe_cmp (k := .u64) (by simp) (fun v hv => hv) (fun v hv => hv) (fun v hv => hv), trivial⟩
          case hQ =>
            rintro f w1 ⟨h0, hm⟩ hT
            obtain ⟨b1, e1⟩ : IsBool (f 101) := hT 101 (by simp)
            simp only [putAll, List.setIfInBounds_toArray, List.set_cons_zero, List.set_cons_succ, e1]
            cases b1
            · go_wp2
              go_roundw
              case rel => exact ⟨(a : Int) - 1, by go_num, by omega, by omega, h0, hm⟩
              case measure => simp [intOf] <;> omega
            · go_wp2
              refine wp_region_typed (by kernel_rfl) (fun u v => match u with | 6 => IsBool v | 7 => v = .pointer (some ⟨N, 0, none⟩) | 14 => v = .pointer (some ⟨M, 0, none⟩) | 15 => v = .int .i64 ((a : Int)) | 102 => v = .int .i64 ((a : Int)) | 103 => v = .pointer (some ⟨N, ((a : Int)).toNat, none⟩) | 104 => IsInt .u64 v | 105 => v = .int .i64 ((a : Int)) | 106 => v = .pointer (some ⟨M, ((a : Int)).toNat, none⟩) | 107 => IsInt .u64 v | 108 => IsBool v | _ => True)
                (fun W => BInv w N W ∧ IRow .u64 9 155 M W) (by kernel_rfl) [102, 103, 104, 105, 106, 107, 108, 6] (by kernel_rfl) [15, 7, 15, 14] (by kernel_rfl) ?h0 ⟨h0.drew, hm.drew⟩ ?hs ?hQ
              case h0 => simp [IsInt]
              case hs => exact ⟨safe_move fun d hd => by cases hd; exact fun v hv => hv,
                safe_place Tryz.underlying155 size76 (N) 0 ((a : Int)) (fun v hv => hv) (fun v hv => hv) (by omega) (by omega) (by simp),
                safe_loadInt (n := 9) Tryz.underlying76 (N) (((a : Int)).toNat) (fun v hv => hv) (by omega) (fun W hW => hW.1.n) (fun v hv => hv),
                safe_move fun d hd => by cases hd; exact fun v hv => hv,
                safe_place Tryz.underlying155 size76 (M) 0 ((a : Int)) (fun v hv => hv) (fun v hv => hv) (by omega) (by omega) (by simp),
                safe_loadInt (n := 9) Tryz.underlying76 (M) (((a : Int)).toNat) (fun v hv => hv) (by omega) (fun W hW => hW.2) (fun v hv => hv),
                safe_cmp (k := .u64) (by simp) (fun v hv => hv) (fun v hv => hv) (fun v hv => hv),
                safe_assign fun d hd => by cases hd; exact fun v hv => hv, trivial⟩
              case hQ =>
                rintro f w1 ⟨h0, hm⟩ hT
                obtain ⟨b2, e2⟩ : IsBool (f 6) := hT 6 (by simp)
                simp only [putAll, List.setIfInBounds_toArray, List.set_cons_zero, List.set_cons_succ, e2]
                go_wp2
                go_ret
                exact ⟨⟨_, rfl⟩, h0.below⟩
        · have hd : decide (0 ≤ x) = false := by simp; omega
          go_wp2
          go_ret
          exact ⟨.inr rfl, h0.below⟩
end Go.Proofs.YtcebfkhfnjbfjaaGreatDoor
namespace Go.Proofs.YtcebfkhfnjbfjaaGreatDoor
open Go.RowKit
set_option linter.unusedVariables false
set_option linter.unusedSimpArgs false
/-- No number from 2 on below q goes into p. -/
def noneBelow (p q : Nat) : Bool := (List.range q).all fun r => decide (r < 2) || decide (p % r ≠ 0)
def isP (p : Nat) : Bool := (List.range 30).all fun r => decide (r < 2) || decide (p < r * r) || decide (p % r ≠ 0)
def cntP (p : Nat) : Nat := ((List.range p).filter fun k => decide (2 ≤ k) && isP k).length
theorem noneBelow_succ (p q : Nat) (hq : 2 ≤ q) : noneBelow p (q + 1) = (noneBelow p q && decide (p % q ≠ 0)) := by
  simp only [noneBelow, List.range_succ, List.all_append, List.all_cons, List.all_nil, Bool.and_true]
  have : decide (q < 2) = false := by simp; omega
  rw [this, Bool.false_or]
theorem noneBelow_isP (p q : Nat) (hp : p < 900) (h2 : 2 ≤ q) (h : p < q * q) (h' : q = 2 ∨ (q - 1) * (q - 1) ≤ p) : noneBelow p q = isP p := by
  have hq : q ≤ 30 := by
    rcases h' with h' | h'
    · omega
    · by_cases hq : q ≤ 30
      · exact hq
      · have : 30 * 30 ≤ (q - 1) * (q - 1) := Nat.mul_le_mul (by omega) (by omega)
        omega
  rw [Bool.eq_iff_iff]
  simp only [noneBelow, isP, List.all_eq_true, List.mem_range, Bool.or_eq_true, decide_eq_true_eq]
  constructor
  · intro hh r hr
    by_cases hrq : r < q
    · rcases hh r hrq with h1 | h1
      · exact .inl (.inl h1)
      · exact .inr h1
    · have : q * q ≤ r * r := Nat.mul_le_mul (by omega) (by omega)
      exact .inl (.inr (by omega))
  · intro hh r hr
    rcases hh r (by omega) with (h1 | h1) | h1
    · exact .inl h1
    · by_cases hr2 : r < 2
      · exact .inl hr2
      · exfalso
        rcases h' with h' | h'
        · omega
        · have : r * r ≤ (q - 1) * (q - 1) := Nat.mul_le_mul (by omega) (by omega)
          omega
    · exact .inr h1
theorem cntP_succ (p : Nat) (hp : 2 ≤ p) : cntP (p + 1) = cntP p + if isP p then 1 else 0 := by
  simp only [cntP, List.range_succ, List.filter_append, List.length_append]
  congr 1
  have : decide (2 ≤ p) = true := by simpa using hp
  simp only [List.filter_cons, this, Bool.true_and, List.filter_nil]
  split <;> simp_all
theorem cntP_mono (p : Nat) (hp : 2 ≤ p) : ∀ k, cntP p ≤ cntP (p + k)
  | 0 => Nat.le_refl _
  | k + 1 => by
    have := cntP_succ (p + k) (by omega)
    have h2 := cntP_mono p hp k
    rw [show p + (k + 1) = p + k + 1 by omega, this]
    omega
theorem cntP_410 : cntP 410 = 80 := by decide +kernel
theorem run_quo32 (b : Nat) (hb : b ≤ 1000) (W : World) : Sem.run Tryz.prog (binOp .quo 3 (.int .i64 (b : Int)) (.int .i64 32)) W = .ok (.int .i64 ((b / 32 : Nat) : Int)) W := by
  have e : Int.tdiv (b : Int) 32 = ((b / 32 : Nat) : Int) := by rw [Int.tdiv_eq_ediv_of_nonneg (by omega)]; omega
  simp [binOp, Op.intDiv, e]
  exact IntWalk.i64_in _ (by omega)
theorem run_rem32 (b : Nat) (W : World) : Sem.run Tryz.prog (binOp .rem 3 (.int .i64 (b : Int)) (.int .i64 32)) W = .ok (.int .i64 ((b % 32 : Nat) : Int)) W := by
  have e : Int.tmod (b : Int) 32 = ((b % 32 : Nat) : Int) := by rw [Int.tmod_eq_emod_of_nonneg (by omega)]; omega
  simp [binOp, Op.intDiv, e]
theorem cntP_le (p : Nat) (hp : 2 ≤ p) (h : p ≤ 410) : cntP p ≤ 80 := by
  have := cntP_mono p hp (410 - p)
  rw [show p + (410 - p) = 410 by omega, cntP_410] at this
  exact this
structure AInv (w : World) (W : World) : Prop where
  below : Below w.heap.size w W
  r : IRow .u64 88 80 w.heap.size W
  o : IRow .u64 88 80 (w.heap.size + 1) W
theorem AInv.drew {w W : World} (h : AInv w W) : AInv w W.drew := ⟨h.below.trans ⟨rfl, rfl, rfl, Nat.le_refl _, fun _ _ => rfl⟩, h.r.drew, h.o.drew⟩
theorem AInv.alloc {w W : World} (h : AInv w W) (o : Obj) : AInv w (W.alloc o) := ⟨h.below.alloc h.below.size o, h.r.alloc o, h.o.alloc o⟩
theorem AInv.call {w W W' : World} (h : AInv w W) (hb : Below W.heap.size W W') : AInv w W' := ⟨h.below.trans (hb.mono h.below.size), h.r.below hb h.r.lt, h.o.below hb h.o.lt⟩
theorem AInv.setY {w W : World} {Y : Nat} (h : AInv w W) (hy : IRow .u64 3 140 Y W) (hBY : w.heap.size ≤ Y) (i : Nat) (u : Value) : AInv w (W.setCell ⟨Y, i, none⟩ u) :=
  ⟨h.below.setCell hBY _, h.r.setOther (h.r.ne hy (by decide)) _, h.o.setOther (h.o.ne hy (by decide)) _⟩
theorem AInv.setYs {w W : World} {Y : Nat} (h : AInv w W) (hy : IRow .u64 3 140 Y W) (hBY : w.heap.size ≤ Y) (i : Nat) (us : List Value) : AInv w (W.setCells Y i us) :=
  ⟨below_setCells hBY _ _ h.below, h.r.setCellsOther (h.r.ne hy (by decide)) _ _, h.o.setCellsOther (h.o.ne hy (by decide)) _ _⟩
theorem AInv.setO {w W : World} (h : AInv w W) (i : Nat) (z : Int) : AInv w (W.setCell ⟨w.heap.size + 1, i, none⟩ (.int .u64 z)) :=
  ⟨h.below.setCell (by simp) _, h.r.setOther (by simp) _, h.o.set fun _ => ⟨z, rfl⟩⟩
abbrev z3a : Array Value := #[.int .u64 0, .int .u64 0, .int .u64 0]
theorem z3a_ints : Ints .u64 3 z3a := ints_of_arr (by decide) (by decide)
theorem z88_ints : Ints .u64 88 Tryz.zeroCells80 := ints_of_arr (by kernel_rfl) (by kernel_rfl)
set_option maxHeartbeats 4000000 in
set_option maxRecDepth 100000 in
theorem lAllWords_any (w : World) :
    Calls Tryz.prog 55 #[] w fun e w' => (∃ cs, e = .returned (.agg cs) ∧ Ints .u64 88 cs) ∧ Below w.heap.size w w' := by
  have hr0 := (Row.new z88_ints w 80).alloc (.cells Tryz.zeroCells80 80)
  have ho0 := row_new2 (E := 80) z88_ints w (.cells Tryz.zeroCells80 80)
  have hb0 : Below w.heap.size w ((w.alloc (.cells Tryz.zeroCells80 80)).alloc (.cells Tryz.zeroCells80 80)) := ((Below.refl _ _).alloc (by simp <;> omega) _).alloc (by simp <;> omega) _
  have h0 : AInv w _ := ⟨hb0, hr0, ho0⟩
  clear hr0 ho0 hb0
  go_enter Tryz.func55, Tryz.ntmps55
  go_wp2
  obtain ⟨W0, hW0⟩ : ∃ W0, W0 = (w.alloc (.cells Tryz.zeroCells80 80)).alloc (.cells Tryz.zeroCells80 80) := ⟨_, rfl⟩
  rw [← hW0] at h0 ⊢
  clear hW0
  go_loopw [2, 3] (fun v2 v3 W => ∃ m p : Nat, v2 = .int .i64 m ∧ v3 = .int .u64 p ∧ cntP p = m ∧ 2 ≤ p ∧ p ≤ 410 ∧ AInv w W) (fun _ v3 _ => (410 - intOf v3).toNat)
  case atStart => exact ⟨0, 2, rfl, rfl, by decide, by omega, by omega, h0⟩
  case round =>
    clear h0
    obtain ⟨m, p, rfl, rfl, hm, hp0, hp1, h0⟩ := hrel
    have hm80 : m ≤ 80 := by rw [← hm]; exact cntP_le p hp0 hp1
    by_cases hm2 : m < 80
    · have hp2 : p < 410 := by
        by_cases e : p = 410
        · rw [e, cntP_410] at hm; omega
        · omega
      have hms := cntP_succ p hp0
      rw [hm] at hms
      have hd : decide ((m : Int) < 80) = true := by simp; omega
      go_wp2
      go_loopw [4, 5] (fun v4 v5 W => ∃ (q : Nat) (b : Bool), v4 = .bool b ∧ v5 = .int .u64 q ∧ noneBelow p q = b ∧ 2 ≤ q ∧ (q = 2 ∨ (q - 1) * (q - 1) ≤ p) ∧ AInv w W) (fun _ v5 _ => (100 - intOf v5).toNat)
      case atStart =>
        refine ⟨2, true, rfl, rfl, ?_, by omega, .inl rfl, h0⟩
        simp [noneBelow]
        intro x hx
        exact .inl hx
      case round =>
        clear h0
        obtain ⟨q, b, rfl, rfl, hb, hq0, hq1, h0⟩ := hrel
        have hq30 : q ≤ 30 := by
          rcases hq1 with hq1 | hq1
          · omega
          · by_cases hq : q ≤ 30
            · exact hq
            · have : 30 * 30 ≤ (q - 1) * (q - 1) := Nat.mul_le_mul (by omega) (by omega)
              omega
        have hqq : q * q ≤ 900 := Nat.mul_le_mul hq30 hq30
        have e1 : ((q : Int) * (q : Int)) % 18446744073709551616 = ((q * q : Nat) : Int) := by
          rw [← Int.natCast_mul]; omega
        by_cases hq2 : q * q ≤ p
        · have hd2 : decide ((q : Int) * (q : Int) ≤ (p : Int)) = true := by rw [← Int.natCast_mul]; simp; omega
          have hs := noneBelow_succ p q hq0
          rw [hb] at hs
          have hqd : decide ((q : Int) = 0) = false := by simp; omega
          cases b
          · go_wp2
            go_roundw
            case rel => exact ⟨q + 1, false, rfl, by go_num, by simpa using hs, by omega, .inr (by simpa using hq2), h0⟩
            case measure => simp [intOf] <;> omega
          · go_wp2
            go_roundw
            case rel =>
              refine ⟨q + 1, _, rfl, by go_num, ?_, by omega, .inr (by simpa using hq2), h0⟩
              have hc : ((p : Int) % (q : Int)) = ((p % q : Nat) : Int) := (Int.natCast_emod p q).symm
              rw [hs, hc, Bool.true_and, Bool.eq_iff_iff]
              simp
              omega
            case measure => simp [intOf] <;> omega
        · have hpr := noneBelow_isP p q (by omega) hq0 (by omega) hq1
          rw [hb] at hpr
          have hd2 : decide ((q : Int) * (q : Int) ≤ (p : Int)) = false := by rw [← Int.natCast_mul]; simp; omega
          cases b
          · rw [← hpr, if_neg (by decide)] at hms
            clear hpr hb
            go_wp2
            go_roundw
            case rel => exact ⟨m, p + 1, by go_num, by go_num, by omega, by omega, by omega, h0⟩
            case measure => simp [intOf] <;> omega
          · rw [← hpr, if_pos rfl] at hms
            clear hpr hb
            go_wp2
            go_loopw [6] (fun i W => ∃ d : Int, i = .int .i64 d ∧ (d = 2 ∨ d = 3 ∨ d = 4) ∧ AInv w W) (fun i _ => (4 - intOf i).toNat)
            case atStart => exact ⟨2, rfl, .inl rfl, h0⟩
            case round =>
              clear h0
              obtain ⟨d, rfl, hd3, h0⟩ := hrel
              rcases hd3 with rfl | rfl | rfl
              · by_cases hm8 : m < 8
                · have hdm : decide (8 ≤ (m : Int)) = false := by simp; omega
                  rename_i wr
                  have hx := Row.new z3a_ints wr 140
                  have hBX := h0.below.size
                  replace h0 := h0.alloc (.cells z3a 140)
                  go_wp2
                  obtain ⟨X, hX⟩ : ∃ X, X = wr.heap.size := ⟨_, rfl⟩
                  generalize wr.alloc (.cells z3a 140) = wy at h0 hx ⊢
                  rw [← hX] at hx hBX ⊢
                  clear hX
                  go_loopw [8] (fun i W => ∃ x : Int, i = .int .i64 x ∧ -1 ≤ x ∧ x ≤ 67 ∧ AInv w W ∧ IRow .u64 3 140 X W) (fun i _ => (intOf i + 1).toNat)
                  case atStart => exact ⟨67, rfl, by omega, by omega, h0, hx⟩
                  case round =>
                    clear h0 hx
                    obtain ⟨x, rfl, hx0, hx1, h0, hx⟩ := hrel
                    by_cases hx2 : 0 ≤ x
                    · obtain ⟨b, rfl⟩ : ∃ b : Nat, x = b := ⟨x.toNat, by omega⟩
                      rename_i wr
                      obtain ⟨cx, hcx, hlx⟩ := hx.load 0 3 (by omega) Tryz.underlying140 rfl size140
                      have hy := Row.new z3a_ints wr 140
                      have hst := hy.store 0 3 (by omega) hcx (fun _ _ => IsInt.one) size140 (wr.alloc (.cells z3a 140)) rfl
                      have hBY0 := h0.below.size
                      have hXlt := hx.lt
                      go_upto_region 21 with (fail)
                      have hXY : X ≠ wr.heap.size := by omega
                      replace h0 := (h0.alloc (.cells z3a 140)).setYs hy hBY0 0 cx.toList
                      replace hx := (hx.alloc (.cells z3a 140)).setCellsOther hXY cx.toList 0
                      replace hy := hy.setCells cx.toList 0 fun j v hv _ => hcx.list j v hv
                      clear hst hlx
                      obtain ⟨Y, hY⟩ : ∃ Y, Y = wr.heap.size := ⟨_, rfl⟩
                      generalize (wr.alloc (.cells z3a 140)).setCells wr.heap.size 0 cx.toList = wy at h0 hx hy ⊢
                      rw [← hY] at hy hXY hBY0 ⊢
                      have hBY : w.heap.size ≤ Y := hBY0
                      clear hY hXlt hBY0
                      refine wp_region_typed (by kernel_rfl) (fun u v => match u with | 8 => v = .int .i64 ((b : Int)) | 9 => v = .pointer (some ⟨Y, 0, none⟩) | 46 => v = .int .i64 ((b : Int)) | 47 => v = .int .i64 (((b / 32 : Nat) : Int)) | 48 => v = .pointer (some ⟨Y, (((b / 32 : Nat) : Int)).toNat, none⟩) | 49 => IsInt .u64 v | 50 => v = .int .i64 ((b : Int)) | 51 => v = .int .i64 (((b % 32 : Nat) : Int)) | 52 => IsInt .u64 v | 53 => IsInt .u64 v | 54 => v = .pointer (some ⟨Y, (((b / 32 : Nat) : Int)).toNat, none⟩) | _ => True)
                        (fun W => AInv w W ∧ IRow .u64 3 140 X W ∧ IRow .u64 3 140 Y W) (by kernel_rfl) [46, 47, 48, 49, 50, 51, 52, 53, 54] (by kernel_rfl) [8, 9, 8, 9] (by kernel_rfl) ?h0 ⟨h0.drew, hx.drew, hy.drew⟩ ?hs ?hQ
                      case h0 => simp [IsInt]
                      case hs => exact ⟨safe_move fun d hd => by cases hd; exact fun v hv => hv,
                        safe_bin (· = .int .i64 (b : Int)) (· = .int .i64 32) (fun v hv => hv) rfl fun u v W hu hv => by
                          subst hu hv
                          exact ⟨_, run_quo32 b (by omega) W, guard_other _ _ _ _ _ ⟨by simp, by simp⟩ _ _, fun d hd => by cases hd; rfl⟩,
                        safe_place Tryz.underlying140 size76 (Y) 0 (((b / 32 : Nat) : Int)) (fun v hv => hv) (fun v hv => hv) (by omega) (by omega) (by simp),
                        safe_loadInt (n := 3) Tryz.underlying76 (Y) ((((b / 32 : Nat) : Int)).toNat) (fun v hv => hv) (by omega) (fun W hW => hW.2.2) (fun v hv => hv),
                        safe_move fun d hd => by cases hd; exact fun v hv => hv,
                        safe_bin (· = .int .i64 (b : Int)) (· = .int .i64 32) (fun v hv => hv) rfl fun u v W hu hv => by
                          subst hu hv
                          exact ⟨_, run_rem32 b W, guard_other _ _ _ _ _ ⟨by simp, by simp⟩ _ _, fun d hd => by cases hd; rfl⟩,
                        safe_shift (k := .u64) (.inl rfl) ((b % 32 : Nat) : Int) (by omega) ⟨1, rfl⟩ (fun v hv => hv) (fun v hv => hv),
                        safe_arith (k := .u64) (by simp) (fun v hv => hv) (fun v hv => hv) (fun v hv => hv),
                        safe_place Tryz.underlying140 size76 (Y) 0 (((b / 32 : Nat) : Int)) (fun v hv => hv) (fun v hv => hv) (by omega) (by omega) (by simp),
                        safe_storeInt size76 Y (((b / 32 : Nat) : Int)).toNat (fun v hv => hv) (fun v hv => hv) (by omega) (fun W hW => hW.2.2) (fun W z hW => ⟨hW.1.setY hW.2.2 hBY _ _, hW.2.1.setOther hXY _, hW.2.2.set fun _ => ⟨z, rfl⟩⟩), trivial⟩
                      case hQ =>
                        rintro f w1 ⟨h0, hx, hy⟩ hT
                        simp only [putAll, List.setIfInBounds_toArray, List.set_cons_zero, List.set_cons_succ]
                        obtain ⟨cy, hcy, hly⟩ := hy.load 0 3 (by omega) Tryz.underlying140 rfl size140
                        go_wp2_with fail
                        refine (lBelow_any cy 2 (p : Int) w1 hcy (by omega) (by omega)).mono ?_
                        rintro e w2 ⟨⟨bb, rfl⟩, hb2⟩
                        replace h0 := h0.call hb2
                        replace hx := hx.below hb2 hx.lt
                        replace hy := hy.below hb2 hy.lt
                        clear hly hb2
                        obtain ⟨cz, hcz, hlz⟩ := hy.load 0 3 (by omega) Tryz.underlying140 rfl size140
                        have hst := hx.store 0 3 (by omega) hcz (fun _ _ => IsInt.one) size140 w2 rfl
                        cases bb
                        · go_wp2
                          go_roundw
                          case rel => exact ⟨(b : Int) - 1, by go_num, by omega, by omega, h0, hx⟩
                          case measure => simp [intOf] <;> omega
                        · go_wp2
                          go_roundw
                          case rel => exact ⟨(b : Int) - 1, by go_num, by omega, by omega, h0.setYs hx hBX 0 cz.toList, hx.setCells cz.toList 0 fun j v hv _ => hcz.list j v hv⟩
                          case measure => simp [intOf] <;> omega
                    · have hdx : decide (0 ≤ x) = false := by simp; omega
                      obtain ⟨a0, ha0⟩ := hx.int (i := 0) (by omega)
                      obtain ⟨a1, ha1⟩ := hx.int (i := 1) (by omega)
                      obtain ⟨a2, ha2⟩ := h0.o.int (i := m) (by omega)
                      have hf2 := h0.o.free (m)
                      go_wp2
                      go_roundw
                      case rel => exact ⟨2 + 1, by go_num, by omega, h0.setO _ _⟩
                      case measure => simp [intOf] <;> omega
                · have hdm : decide (8 ≤ (m : Int)) = true := by simp; omega
                  go_wp2
                  go_roundw
                  case rel => exact ⟨3, by go_num, by omega, h0⟩
                  case measure => simp [intOf] <;> omega
              · skip
                rename_i wr
                have hx := Row.new z3a_ints wr 140
                have hBX := h0.below.size
                replace h0 := h0.alloc (.cells z3a 140)
                go_wp2
                obtain ⟨X, hX⟩ : ∃ X, X = wr.heap.size := ⟨_, rfl⟩
                generalize wr.alloc (.cells z3a 140) = wy at h0 hx ⊢
                rw [← hX] at hx hBX ⊢
                clear hX
                go_loopw [8] (fun i W => ∃ x : Int, i = .int .i64 x ∧ -1 ≤ x ∧ x ≤ 67 ∧ AInv w W ∧ IRow .u64 3 140 X W) (fun i _ => (intOf i + 1).toNat)
                case atStart => exact ⟨67, rfl, by omega, by omega, h0, hx⟩
                case round =>
                  clear h0 hx
                  obtain ⟨x, rfl, hx0, hx1, h0, hx⟩ := hrel
                  by_cases hx2 : 0 ≤ x
                  · obtain ⟨b, rfl⟩ : ∃ b : Nat, x = b := ⟨x.toNat, by omega⟩
                    rename_i wr
                    obtain ⟨cx, hcx, hlx⟩ := hx.load 0 3 (by omega) Tryz.underlying140 rfl size140
                    have hy := Row.new z3a_ints wr 140
                    have hst := hy.store 0 3 (by omega) hcx (fun _ _ => IsInt.one) size140 (wr.alloc (.cells z3a 140)) rfl
                    have hBY0 := h0.below.size
                    have hXlt := hx.lt
                    go_upto_region 21 with (fail)
                    have hXY : X ≠ wr.heap.size := by omega
                    replace h0 := (h0.alloc (.cells z3a 140)).setYs hy hBY0 0 cx.toList
                    replace hx := (hx.alloc (.cells z3a 140)).setCellsOther hXY cx.toList 0
                    replace hy := hy.setCells cx.toList 0 fun j v hv _ => hcx.list j v hv
                    clear hst hlx
                    obtain ⟨Y, hY⟩ : ∃ Y, Y = wr.heap.size := ⟨_, rfl⟩
                    generalize (wr.alloc (.cells z3a 140)).setCells wr.heap.size 0 cx.toList = wy at h0 hx hy ⊢
                    rw [← hY] at hy hXY hBY0 ⊢
                    have hBY : w.heap.size ≤ Y := hBY0
                    clear hY hXlt hBY0
                    refine wp_region_typed (by kernel_rfl) (fun u v => match u with | 8 => v = .int .i64 ((b : Int)) | 9 => v = .pointer (some ⟨Y, 0, none⟩) | 46 => v = .int .i64 ((b : Int)) | 47 => v = .int .i64 (((b / 32 : Nat) : Int)) | 48 => v = .pointer (some ⟨Y, (((b / 32 : Nat) : Int)).toNat, none⟩) | 49 => IsInt .u64 v | 50 => v = .int .i64 ((b : Int)) | 51 => v = .int .i64 (((b % 32 : Nat) : Int)) | 52 => IsInt .u64 v | 53 => IsInt .u64 v | 54 => v = .pointer (some ⟨Y, (((b / 32 : Nat) : Int)).toNat, none⟩) | _ => True)
                      (fun W => AInv w W ∧ IRow .u64 3 140 X W ∧ IRow .u64 3 140 Y W) (by kernel_rfl) [46, 47, 48, 49, 50, 51, 52, 53, 54] (by kernel_rfl) [8, 9, 8, 9] (by kernel_rfl) ?h0 ⟨h0.drew, hx.drew, hy.drew⟩ ?hs ?hQ
                    case h0 => simp [IsInt]
                    case hs => exact ⟨safe_move fun d hd => by cases hd; exact fun v hv => hv,
                      safe_bin (· = .int .i64 (b : Int)) (· = .int .i64 32) (fun v hv => hv) rfl fun u v W hu hv => by
                        subst hu hv
                        exact ⟨_, run_quo32 b (by omega) W, guard_other _ _ _ _ _ ⟨by simp, by simp⟩ _ _, fun d hd => by cases hd; rfl⟩,
                      safe_place Tryz.underlying140 size76 (Y) 0 (((b / 32 : Nat) : Int)) (fun v hv => hv) (fun v hv => hv) (by omega) (by omega) (by simp),
                      safe_loadInt (n := 3) Tryz.underlying76 (Y) ((((b / 32 : Nat) : Int)).toNat) (fun v hv => hv) (by omega) (fun W hW => hW.2.2) (fun v hv => hv),
                      safe_move fun d hd => by cases hd; exact fun v hv => hv,
                      safe_bin (· = .int .i64 (b : Int)) (· = .int .i64 32) (fun v hv => hv) rfl fun u v W hu hv => by
                        subst hu hv
                        exact ⟨_, run_rem32 b W, guard_other _ _ _ _ _ ⟨by simp, by simp⟩ _ _, fun d hd => by cases hd; rfl⟩,
                      safe_shift (k := .u64) (.inl rfl) ((b % 32 : Nat) : Int) (by omega) ⟨1, rfl⟩ (fun v hv => hv) (fun v hv => hv),
                      safe_arith (k := .u64) (by simp) (fun v hv => hv) (fun v hv => hv) (fun v hv => hv),
                      safe_place Tryz.underlying140 size76 (Y) 0 (((b / 32 : Nat) : Int)) (fun v hv => hv) (fun v hv => hv) (by omega) (by omega) (by simp),
                      safe_storeInt size76 Y (((b / 32 : Nat) : Int)).toNat (fun v hv => hv) (fun v hv => hv) (by omega) (fun W hW => hW.2.2) (fun W z hW => ⟨hW.1.setY hW.2.2 hBY _ _, hW.2.1.setOther hXY _, hW.2.2.set fun _ => ⟨z, rfl⟩⟩), trivial⟩
                    case hQ =>
                      rintro f w1 ⟨h0, hx, hy⟩ hT
                      simp only [putAll, List.setIfInBounds_toArray, List.set_cons_zero, List.set_cons_succ]
                      obtain ⟨cy, hcy, hly⟩ := hy.load 0 3 (by omega) Tryz.underlying140 rfl size140
                      go_wp2_with fail
                      refine (lBelow_any cy 3 (p : Int) w1 hcy (by omega) (by omega)).mono ?_
                      rintro e w2 ⟨⟨bb, rfl⟩, hb2⟩
                      replace h0 := h0.call hb2
                      replace hx := hx.below hb2 hx.lt
                      replace hy := hy.below hb2 hy.lt
                      clear hly hb2
                      obtain ⟨cz, hcz, hlz⟩ := hy.load 0 3 (by omega) Tryz.underlying140 rfl size140
                      have hst := hx.store 0 3 (by omega) hcz (fun _ _ => IsInt.one) size140 w2 rfl
                      cases bb
                      · go_wp2
                        go_roundw
                        case rel => exact ⟨(b : Int) - 1, by go_num, by omega, by omega, h0, hx⟩
                        case measure => simp [intOf] <;> omega
                      · go_wp2
                        go_roundw
                        case rel => exact ⟨(b : Int) - 1, by go_num, by omega, by omega, h0.setYs hx hBX 0 cz.toList, hx.setCells cz.toList 0 fun j v hv _ => hcz.list j v hv⟩
                        case measure => simp [intOf] <;> omega
                  · have hdx : decide (0 ≤ x) = false := by simp; omega
                    obtain ⟨a0, ha0⟩ := hx.int (i := 0) (by omega)
                    obtain ⟨a1, ha1⟩ := hx.int (i := 1) (by omega)
                    obtain ⟨a2, ha2⟩ := h0.o.int (i := 8 + m) (by omega)
                    have hf2 := h0.o.free (8 + m)
                    go_wp2
                    go_roundw
                    case rel => exact ⟨3 + 1, by go_num, by omega, h0.setO _ _⟩
                    case measure => simp [intOf] <;> omega
              · go_wp2
                go_roundw
                case rel => exact ⟨m + 1, p + 1, by go_num, by go_num, by omega, by omega, by omega, h0⟩
                case measure => simp [intOf] <;> omega
    · have hd : decide ((m : Int) < 80) = false := by simp; omega
      rename_i wr
      obtain ⟨co, hco, hlo⟩ := h0.o.load 0 88 (by omega) Tryz.underlying80 rfl size80
      have hst := h0.r.store 0 88 (by omega) hco (fun _ _ => IsInt.one) size80 wr rfl
      go_wp2
      refine ret_Row Tryz.results55 w.heap.size rfl (h0.r.setCells (Pp := fun _ => IsInt .u64) co.toList 0 fun j v hv _ => hco.list j v hv) _ Tryz.underlying80 rfl size80 rfl fun cs2 hcs2 => ⟨⟨cs2, rfl, hcs2⟩, below_setCells (Nat.le_refl _) _ _ h0.below⟩
end Go.Proofs.YtcebfkhfnjbfjaaGreatDoor
namespace Go.Proofs.YtcebfkhfnjbfjaaGreatDoor
open Go.RowKit
set_option linter.unusedVariables false
set_option linter.unusedSimpArgs false
theorem Num.len {v : Value} {xs : List Nat} {w : World} (h : Num v xs w) : ∃ a cap, v = .slice a xs.length cap := by
  obtain ⟨a, cap, e, _⟩ := h.2
  exact ⟨a, cap, by rw [e]; simp⟩
theorem Num.cell {v : Value} {xs : List Nat} {w : World} (h : Num v xs w) {i : Nat} (hi : i < xs.length) : ∃ g o cap, ∃ x : Nat, v = .slice (some ⟨g, o, none⟩) xs.length cap ∧ w.cell? ⟨g, o + i, none⟩ = some (.int .u32 (x : Int)) ∧ x < 4294967296 ∧ xs[i]? = some x := by
  obtain ⟨g, o, cap, e, hc⟩ := h.2.cell (i := i) (x := .int .u32 ((xs[i] : Nat) : Int)) (by simp [words, hi])
  exact ⟨g, o, cap, xs[i], by rw [e]; simp, hc, h.1 _ (List.getElem_mem hi), by simp [hi]⟩
theorem Own.word {base : Nat} {v : Value} {xs : List Nat} {w : World} {z : Int} {x : Nat} (h : Own base 45 v (words xs ++ [.int .u32 z]) w) (e : z = (x : Int)) : Own base 45 v (words (xs ++ [x])) w := by
  subst e
  simpa [words] using h
theorem Own.num {base : Nat} {v : Value} {xs : List Nat} {w : World} (h : Own base 45 v (words xs) w) (hx : ∀ x ∈ xs, x < 4294967296) : Num v xs w := ⟨hx, h.sl⟩
theorem bareL_length (xs : List Nat) : (bareL xs).length ≤ xs.length := by
  have := (List.dropWhile_sublist (l := xs.reverse) (· == 0)).length_le
  simpa [bareL] using this
set_option maxHeartbeats 4000000 in
set_option maxRecDepth 100000 in
theorem LSum_any (va vb : Value) (xs ys : List Nat) (w : World) (ha : Num va xs w) (hb : Num vb ys w) (hxl : xs.length ≤ 1000000) (hyl : ys.length ≤ 1000000) :
    Calls Tryz.prog 58 #[va, vb] w fun e w' => (∃ v' zs, e = .returned v' ∧ Num v' zs w' ∧ zs.length ≤ max xs.length ys.length + 1) ∧ Below w.heap.size w w' := by
  have hbel := Below.refl w.heap.size w
  obtain ⟨aa, ca, rfl⟩ := ha.len
  obtain ⟨ab, cb, rfl⟩ := hb.len
  obtain ⟨n, hn⟩ : ∃ n, xs.length = n := ⟨_, rfl⟩
  obtain ⟨m, hm⟩ : ∃ m, ys.length = m := ⟨_, rfl⟩
  rw [hn] at ha hxl ⊢
  rw [hm] at hb hyl ⊢
  go_enter Tryz.func58, Tryz.ntmps58
  go_wp2
  go_loopw [5, 6, 7] (fun v5 v6 v7 W => ∃ (i c : Nat) (zs : List Nat), v7 = .int .i64 i ∧ v6 = .int .u64 c ∧ c ≤ 1 ∧ zs.length = i ∧ (∀ x ∈ zs, x < 4294967296) ∧ (i ≤ max n m ∨ (i = max n m + 1 ∧ c = 0)) ∧ Own w.heap.size 45 v5 (words zs) W ∧ Below w.heap.size w W) (fun _ _ v7 _ => (3000000 - intOf v7).toNat)
  case atStart => exact ⟨0, 0, [], rfl, rfl, by omega, rfl, by simp, .inl (by omega), Own.nil _ _ _, hbel⟩
  case round =>
    clear hbel
    obtain ⟨i, c, zs, rfl, rfl, hc, hzl, hzb, hi, hown, hbel⟩ := hrel
    rename_i wr
    have ha' := ha.below hbel (Nat.le_refl _)
    have hb' := hb.below hbel (Nat.le_refl _)
    by_cases h1 : i < n
    · have hd1 : decide ((i : Int) < (n : Int)) = true := by simp; omega
      obtain ⟨ga, oa, ca', xa, e, hca, hxa, _⟩ := ha'.cell (i := i) (by omega)
      simp only [Value.slice.injEq] at e
      obtain ⟨rfl, -, rfl⟩ := e
      by_cases h2 : i < m
      · have hd2 : decide ((i : Int) < (m : Int)) = true := by simp; omega
        obtain ⟨gb, ob, cb', xb, e, hcb, hxb, _⟩ := hb'.cell (i := i) (by omega)
        simp only [Value.slice.injEq] at e
        obtain ⟨rfl, -, rfl⟩ := e
        go_wp2_with (at_builtin; go_loud (refine wpList_app rfl (.tmp 46) (.tmp 49) 30 30 rfl _ _ rfl rfl (app_word _ _ hown (by simp only [words, List.length_map]; omega) hbel.size) ?_; intro v2 w2 ho1 hg1))
        replace hbel := (hown.alloc _).belowGrown (hbel.alloc hbel.size _) hg1 (Nat.le_refl _) (by have := hbel.size; simp; omega)
        go_roundw
        case rel =>
          refine ⟨i + 1, (c + xa + xb) / 4294967296, zs ++ [(c + xa + xb) % 4294967296], by go_num, congrArg (Value.int .u64) (by omega), by omega, by simp [hzl], ?_, by omega, ho1.word (by omega), hbel⟩
          intro x hx
          rcases List.mem_append.1 hx with hx | hx
          · exact hzb x hx
          · simp at hx; omega
        case measure => simp [intOf] <;> omega
      · have hd2 : decide ((i : Int) < (m : Int)) = false := by simp; omega
        go_wp2_with (at_builtin; go_loud (refine wpList_app rfl (.tmp 46) (.tmp 49) 30 30 rfl _ _ rfl rfl (app_word _ _ hown (by simp only [words, List.length_map]; omega) hbel.size) ?_; intro v2 w2 ho1 hg1))
        replace hbel := (hown.alloc _).belowGrown (hbel.alloc hbel.size _) hg1 (Nat.le_refl _) (by have := hbel.size; simp; omega)
        go_roundw
        case rel =>
          refine ⟨i + 1, (c + xa) / 4294967296, zs ++ [(c + xa) % 4294967296], by go_num, congrArg (Value.int .u64) (by omega), by omega, by simp [hzl], ?_, by omega, ho1.word (by omega), hbel⟩
          intro x hx
          rcases List.mem_append.1 hx with hx | hx
          · exact hzb x hx
          · simp at hx; omega
        case measure => simp [intOf] <;> omega
    · have hd1 : decide ((i : Int) < (n : Int)) = false := by simp; omega
      by_cases h2 : i < m
      · have hd2 : decide ((i : Int) < (m : Int)) = true := by simp; omega
        obtain ⟨gb, ob, cb', xb, e, hcb, hxb, _⟩ := hb'.cell (i := i) (by omega)
        simp only [Value.slice.injEq] at e
        obtain ⟨rfl, -, rfl⟩ := e
        go_wp2_with (at_builtin; go_loud (refine wpList_app rfl (.tmp 46) (.tmp 49) 30 30 rfl _ _ rfl rfl (app_word _ _ hown (by simp only [words, List.length_map]; omega) hbel.size) ?_; intro v2 w2 ho1 hg1))
        replace hbel := (hown.alloc _).belowGrown (hbel.alloc hbel.size _) hg1 (Nat.le_refl _) (by have := hbel.size; simp; omega)
        go_roundw
        case rel =>
          refine ⟨i + 1, (c + xb) / 4294967296, zs ++ [(c + xb) % 4294967296], by go_num, congrArg (Value.int .u64) (by omega), by omega, by simp [hzl], ?_, by omega, ho1.word (by omega), hbel⟩
          intro x hx
          rcases List.mem_append.1 hx with hx | hx
          · exact hzb x hx
          · simp at hx; omega
        case measure => simp [intOf] <;> omega
      · have hd2 : decide ((i : Int) < (m : Int)) = false := by simp; omega
        by_cases hc0 : c = 0
        · subst hc0
          go_wp2_with fail
          refine (lBare_any _ _ _ (hown.num hzb)).mono ?_
          rintro e w1 ⟨⟨v', rfl, hv'⟩, hb1⟩
          go_wp2
          go_ret
          refine ⟨⟨v', bareL zs, rfl, hv', ?_⟩, hbel.trans (hb1.mono hbel.size)⟩
          have := bareL_length zs
          omega
        · obtain rfl : c = 1 := by omega
          go_wp2_with (at_builtin; go_loud (refine wpList_app rfl (.tmp 46) (.tmp 49) 30 30 rfl _ _ rfl rfl (app_word _ _ hown (by simp only [words, List.length_map]; omega) hbel.size) ?_; intro v2 w2 ho1 hg1))
          replace hbel := (hown.alloc _).belowGrown (hbel.alloc hbel.size _) hg1 (Nat.le_refl _) (by have := hbel.size; simp; omega)
          go_roundw
          case rel =>
            refine ⟨i + 1, (1) / 4294967296, zs ++ [(1) % 4294967296], by go_num, congrArg (Value.int .u64) (by omega), by omega, by simp [hzl], ?_, by omega, ho1.word (by omega), hbel⟩
            intro x hx
            rcases List.mem_append.1 hx with hx | hx
            · exact hzb x hx
            · simp at hx; omega
          case measure => simp [intOf] <;> omega
end Go.Proofs.YtcebfkhfnjbfjaaGreatDoor
