/- Contract of DRecord. -/
import Derived.Test.YtcebfkhfnjbfjaaGreatDoorC35
import Derived.Test.YtcebfkhfnjbfjaaGreatDoorC34
namespace Go.Proofs.YtcebfkhfnjbfjaaGreatDoor
open Go.RowKit
set_option linter.unusedVariables false
set_option linter.unusedSimpArgs false
/-- A record that is read, as the service shows it. -/
def DRecE (K B : List UInt8) (bits x : Int) (e : Ending) (w : World) : Prop :=
  ∃ hg hn hc sg sn sc fg fn fc bv, e = .returned (.tuple #[.agg #[.string (str K), bv, .int .i64 x, .int .i64 bits, .slice (some ⟨hg, 0, none⟩) hn hc, .slice (some ⟨sg, 0, none⟩) sn sc, .slice (some ⟨fg, 0, none⟩) fn fc, .string (str [110, 111, 116, 101]), .bool false, .bool false], .int .i64 0]) ∧ Sl bv (bs B) w
theorem size39 : (Tryz.prog.info? 39).map (·.size) = some 10 := by kernel_rfl
theorem call34 (args : Array Value) (W : World) : Sem.run Tryz.prog (callFunc 34 args) W = .ok (.enter 34 args) W := run_callGo (fn := Tryz.f34) (by kernel_rfl) (by kernel_rfl) (by kernel_rfl) args W
set_option maxHeartbeats 1000000 in
set_option maxRecDepth 100000 in
theorem clone_own (v : Value) (l : List UInt8) (w : World) (h : Sl v (bs l) w) (h0 : 0 < l.length) (hl : l.length ≤ 1000000) :
    Calls Tryz.prog 34 #[v] w fun e w' => (∃ v', e = .returned v' ∧ Own w.heap.size 5 v' (bs l) w') ∧ Below w.heap.size w w' := by
  obtain ⟨EE, hEE⟩ : ∃ EE : Ending → World → Prop, (fun e w' => ∃ v', e = .returned v' ∧ Own w.heap.size 5 v' (bs l) w') = EE := ⟨_, rfl⟩
  obtain ⟨g, o, c, rfl, -⟩ := h.byte (i := 0) h0
  have hlb : (bs l).length = l.length := by simp [bs]
  have hown : Own w.heap.size 5 (.slice (some ⟨w.heap.size, 0, none⟩) 0 0) (bs ([] : List UInt8)) (w.alloc (.cells #[] 5)) := Own.made w ([] : List Value) w.heap.size 0 5 (Nat.le_refl _) rfl (by simp [maxLen])
  have hb1 := (Below.refl w.heap.size w).alloc (Nat.le_refl _) (.cells #[] 5)
  have hs1 : Sl (.slice (some ⟨g, o, none⟩) l.length c) (bs l) (w.alloc (.cells #[] 5)) := h.below hb1 (Nat.le_refl _)
  have hroom : ([] : List UInt8).length + l.length ≤ 1000000 := by simp; omega
  have hsz : w.heap.size ≤ (w.alloc (.cells #[] 5)).heap.size := by simp
  have hgoal : (fun e w' => (∃ v', e = Ending.returned v' ∧ Own w.heap.size 5 v' (bs l) w') ∧ Below w.heap.size w w') = fun e w' => EE e w' ∧ Below w.heap.size w w' := by rw [← hEE]
  rw [hgoal]
  clear hgoal h hlb
  have hnn := not_nil22 ⟨g, o, none⟩ l.length c
  go_enter Tryz.func34, Tryz.ntmps34
  go_wp2_with (at_builtin; refine wpList_app rfl (.tmp 5) (.tmp 6) 22 22 rfl _ _ rfl rfl (app_sl _ hown hs1 h0 hroom hsz) ?_; intro v' w2 ho hg; replace hb1 := hown.belowGrown hb1 hg (Nat.le_refl _) hsz; rw [show bs [] ++ bs l = bs l from rfl] at ho; have hfin : EE (.returned v') w2 := (by rw [← hEE]; exact ⟨_, rfl, ho⟩); clear hown hs1 hg)
  go_ret
  exact ⟨hfin, hb1⟩
set_option maxHeartbeats 4000000 in
set_option maxRecDepth 100000 in
theorem drecord_any (l K B : List UInt8) (bits x : Int) (w : World) (h0 : 0 < B.length) (hB : B.length ≤ 100000) (hq : ∀ W, Calls Tryz.prog 32 #[.string (str l)] W fun e w' => RecE K B bits x e w' ∧ Below W.heap.size W w') :
    Calls Tryz.prog 12 #[.string (str l)] w fun e w' => DRecE K B bits x e w' ∧ Below w.heap.size w w' := by
  obtain ⟨EE, hEE⟩ : ∃ EE, DRecE K B bits x = EE := ⟨_, rfl⟩
  rw [hEE]
  go_enter Tryz.func12, Tryz.ntmps12
  go_wp2_with fail
  refine (hq _).mono ?_
  clear hq
  rintro e w2 ⟨⟨hg, hn, hc, sg, sn, sc, fg, fn, fc, bv, rfl, hv⟩, hb2⟩
  obtain ⟨a, c, rfl⟩ := hv.lenB
  have hR0 := heap_alloc_new w (.cells #[.string ⟨#[]⟩, .slice none 0 0, .int .i64 0, .int .i64 0, .slice none 0 0, .slice none 0 0, .slice none 0 0, .string ⟨#[]⟩, .bool false, .bool false] 39)
  have hK0 := heap_alloc_new (w.alloc (.cells #[.string ⟨#[]⟩, .slice none 0 0, .int .i64 0, .int .i64 0, .slice none 0 0, .slice none 0 0, .slice none 0 0, .string ⟨#[]⟩, .bool false, .bool false] 39)) (.cells #[.string ⟨#[]⟩, .slice none 0 0, .int .i64 0, .int .i64 0, .slice none 0 0, .slice none 0 0, .slice none 0 0, .string ⟨#[]⟩, .bool false, .bool false] 39)
  have hb0 := (Below.refl w.heap.size w).alloc (Nat.le_refl _) (.cells #[.string ⟨#[]⟩, .slice none 0 0, .int .i64 0, .int .i64 0, .slice none 0 0, .slice none 0 0, .slice none 0 0, .string ⟨#[]⟩, .bool false, .bool false] 39)
  replace hb0 := hb0.alloc hb0.size (.cells #[.string ⟨#[]⟩, .slice none 0 0, .int .i64 0, .int .i64 0, .slice none 0 0, .slice none 0 0, .slice none 0 0, .string ⟨#[]⟩, .bool false, .bool false] 39)
  have hgz := World.grownBy_alloc (w.alloc (.cells #[.string ⟨#[]⟩, .slice none 0 0, .int .i64 0, .int .i64 0, .slice none 0 0, .slice none 0 0, .slice none 0 0, .string ⟨#[]⟩, .bool false, .bool false] 39)) (.cells #[.string ⟨#[]⟩, .slice none 0 0, .int .i64 0, .int .i64 0, .slice none 0 0, .slice none 0 0, .slice none 0 0, .string ⟨#[]⟩, .bool false, .bool false] 39) none
  replace hR0 := (hgz.block w.heap.size (by simp) (by simp)).trans hR0
  have hs0 : ((w.alloc (.cells #[.string ⟨#[]⟩, .slice none 0 0, .int .i64 0, .int .i64 0, .slice none 0 0, .slice none 0 0, .slice none 0 0, .string ⟨#[]⟩, .bool false, .bool false] 39)).alloc (.cells #[.string ⟨#[]⟩, .slice none 0 0, .int .i64 0, .int .i64 0, .slice none 0 0, .slice none 0 0, .slice none 0 0, .string ⟨#[]⟩, .bool false, .bool false] 39)).heap.size = w.heap.size + 2 := by simp
  have hs1 : (w.alloc (.cells #[.string ⟨#[]⟩, .slice none 0 0, .int .i64 0, .int .i64 0, .slice none 0 0, .slice none 0 0, .slice none 0 0, .string ⟨#[]⟩, .bool false, .bool false] 39)).heap.size = w.heap.size + 1 := by simp
  rw [hs1] at hK0
  generalize (w.alloc (.cells #[.string ⟨#[]⟩, .slice none 0 0, .int .i64 0, .int .i64 0, .slice none 0 0, .slice none 0 0, .slice none 0 0, .string ⟨#[]⟩, .bool false, .bool false] 39)).alloc (.cells #[.string ⟨#[]⟩, .slice none 0 0, .int .i64 0, .int .i64 0, .slice none 0 0, .slice none 0 0, .slice none 0 0, .string ⟨#[]⟩, .bool false, .bool false] 39) = w1 at hR0 hK0 hb0 hs0 hb2
  replace hR0 := (hb2.block w.heap.size (by omega)).trans hR0
  replace hK0 := (hb2.block (w.heap.size + 1) (by omega)).trans hK0
  have hsz2 : w.heap.size + 2 ≤ w2.heap.size := by have := hb2.size; omega
  replace hb0 := hb0.trans (hb2.mono (by omega))
  clear hb2 hgz hs0 hs1
  have hg3 := World.grownBy_alloc w2 (.cells #[.string (str K), .slice (some ⟨hg, 0, none⟩) hn hc, .slice (some ⟨sg, 0, none⟩) sn sc, .slice (some ⟨fg, 0, none⟩) fn fc, .string (str [110, 111, 116, 101]), .int .i64 bits, .slice a B.length c, .int .i64 x] 58) none
  have hP3 := heap_alloc_new w2 (.cells #[.string (str K), .slice (some ⟨hg, 0, none⟩) hn hc, .slice (some ⟨sg, 0, none⟩) sn sc, .slice (some ⟨fg, 0, none⟩) fn fc, .string (str [110, 111, 116, 101]), .int .i64 bits, .slice a B.length c, .int .i64 x] 58)
  have hb3 := hb0.alloc (by omega) (.cells #[.string (str K), .slice (some ⟨hg, 0, none⟩) hn hc, .slice (some ⟨sg, 0, none⟩) sn sc, .slice (some ⟨fg, 0, none⟩) fn fc, .string (str [110, 111, 116, 101]), .int .i64 bits, .slice a B.length c, .int .i64 x] 58)
  replace hR0 := (hg3.block w.heap.size (by omega) (by simp)).trans hR0
  replace hK0 := (hg3.block (w.heap.size + 1) (by omega) (by simp)).trans hK0
  have hv3 := hv.alloc (.cells #[.string (str K), .slice (some ⟨hg, 0, none⟩) hn hc, .slice (some ⟨sg, 0, none⟩) sn sc, .slice (some ⟨fg, 0, none⟩) fn fc, .string (str [110, 111, 116, 101]), .int .i64 bits, .slice a B.length c, .int .i64 x] 58)
  go_upto_region 5 with (fail)
  obtain ⟨PB, hPB⟩ : ∃ PB, w2.heap.size = PB := ⟨_, rfl⟩
  obtain ⟨KB, hKB⟩ : ∃ KB, w.heap.size + 1 = KB := ⟨_, rfl⟩
  rw [hPB] at hP3 hsz2 ⊢
  rw [hKB] at hK0 ⊢
  generalize w2.alloc (.cells #[.string (str K), .slice (some ⟨hg, 0, none⟩) hn hc, .slice (some ⟨sg, 0, none⟩) sn sc, .slice (some ⟨fg, 0, none⟩) fn fc, .string (str [110, 111, 116, 101]), .int .i64 bits, .slice a B.length c, .int .i64 x] 58) = w3 at hP3 hb3 hR0 hK0 hv3 ⊢
  clear hg3 hb0 hv
  have hPne : PB ≠ KB := by omega
  have hKl := (Array.getElem?_eq_some_iff.1 hK0).1
  let p : Nat → World → Value → Prop := fun i W v => match i with | 0 => v = .string ⟨#[]⟩ | 1 => ∃ base, KB < base ∧ Own base 5 v (bs B) W | 2 => v = .int .i64 x | 3 => v = .int .i64 bits | 4 => v = .slice none 0 0 | 5 => v = .slice none 0 0 | 6 => v = .slice none 0 0 | 7 => v = .string ⟨#[]⟩ | 8 => v = .bool false | 9 => v = .bool false | _ => False
  have hp : KeptP KB p := by
    intro i W W' v hg h
    rcases i with _ | _ | _ | _ | _ | _ | _ | _ | _ | _ | i
    case succ.zero =>
      obtain ⟨base, h1, h2⟩ := h
      exact ⟨base, h1, h2.grown hg (.inr fun e => by have := (h2.lt KB e).1; omega)⟩
    all_goals exact h
  have hPW : ∀ W, FilI w3 KB 39 10 p [0, 4, 5, 6, 7, 8, 9] W → W.heap[PB]? = _ := fun W hI => (hI.grown.block PB (Array.getElem?_eq_some_iff.1 hP3).1 (by simpa using hPne)).trans hP3
  have hsW : ∀ W, FilI w3 KB 39 10 p [0, 4, 5, 6, 7, 8, 9] W → Sl (.slice a B.length c) (bs B) W := fun W hI => hv3.off h0 hI.grown hK0 (by simp)
  have hP5 : ∀ W, FilI w3 KB 39 10 p [0, 4, 5, 6, 7, 8, 9] W → W.cell? ⟨PB, 5, none⟩ = some (.int .i64 bits) := fun W hI => by rw [cell_of_row W _ 5 _ 58 (0, 0) (hPW W hI)]; rfl
  have hP6 : ∀ W, FilI w3 KB 39 10 p [0, 4, 5, 6, 7, 8, 9] W → W.cell? ⟨PB, 6, none⟩ = some (.slice a B.length c) := fun W hI => by rw [cell_of_row W _ 6 _ 58 (0, 0) (hPW W hI)]; rfl
  have hP7 : ∀ W, FilI w3 KB 39 10 p [0, 4, 5, 6, 7, 8, 9] W → W.cell? ⟨PB, 7, none⟩ = some (.int .i64 x) := fun W hI => by rw [cell_of_row W _ 7 _ 58 (0, 0) (hPW W hI)]; rfl
  refine wp_region_typedV (by kernel_rfl) [] [] (fun _ _ _ => True) (fun u W v => match u with | 4 => v = .pointer (some ⟨KB, 0, none⟩) | 5 => v = .pointer (some ⟨PB, 0, none⟩) | 17 => v = .pointer (some ⟨PB, 6, none⟩) | 18 => v = .slice a B.length c | 19 => ∃ base, KB < base ∧ Own base 5 v (bs B) W | 20 => v = .pointer (some ⟨PB, 5, none⟩) | 21 => v = .int .i64 bits | 22 => v = .pointer (some ⟨PB, 7, none⟩) | 23 => v = .int .i64 x | 24 => v = .pointer (some ⟨KB, 1, none⟩) | 25 => v = .pointer (some ⟨KB, 3, none⟩) | 26 => v = .pointer (some ⟨KB, 2, none⟩) | _ => True) (FilI w3 KB 39 10 p [0, 4, 5, 6, 7, 8, 9]) (FilR KB 39 10 p) (FilS [(8, 1), (10, 3), (12, 2)] KB 39 10 p) ?hmono ?hmonoS (by kernel_rfl) [17, 18, 19, 20, 21, 22, 23, 24, 25, 26] (by kernel_rfl) [5, 5, 5, 4, 4, 4] (by kernel_rfl) ?h0 [] (by kernel_rfl) ?hz ?hI [] (by kernel_rfl) ?hgs (fun W _ => FilR.refl W) ?hs ?hQ
  case hmono =>
    intro u W W' v _ _ hR hv
    by_cases hu : u = 19
    · subst hu
      exact hp 1 W W' v hR.1 hv
    · revert hv
      split <;> intro hv <;> first | exact hv | exact absurd rfl hu
  case hmonoS => exact fun i W W' _ _ hR h c hc => hR.2 c (h c hc)
  case h0 => simp
  case hz => simp
  case hgs => simp
  case hI =>
    refine FilI.start hK0 rfl hp (fun i hi => ?_) rfl rfl rfl rfl
    simp only [List.mem_cons, List.not_mem_nil, or_false] at hi
    rcases hi with rfl | rfl | rfl | rfl | rfl | rfl | rfl <;> exact ⟨_, rfl, rfl⟩
  case hs =>
    have hR : ∀ W, FilR KB 39 10 p W W := FilR.refl
    refine ⟨SafeOpW.v (SafeOpW.of hR fun W0 hI0 => safe_fieldAddr Tryz.underlying58 rfl size22 (by decide) PB 0 (fun v hv => hv) rfl) (FilS.none rfl),
      SafeOpW.v (SafeOpW.of hR fun W0 hI0 => safe_loadC Tryz.underlying22 rfl ⟨PB, 6, none⟩ (fun v hv => hv) (.slice a B.length c) (fun W hI => by subst hI; exact hP6 _ hI0) rfl) (FilS.none rfl),
      SafeOpW.v (safeW_call1 (fun _ v => v = .slice a B.length c) (fun W v hI hv => hv) call34 (fun a' W hI ha => by subst ha; exact (clone_own _ B W (hsW W hI) h0 (by omega)).mono fun e w' ⟨⟨v', h1, h2⟩, hb⟩ => ⟨v', h1, (hI.below hp hb).1, (hI.below hp hb).2, fun d hd => by cases hd; exact ⟨_, hI.lt, h2⟩⟩)) (FilS.none rfl),
      SafeOpW.v (SafeOpW.of hR fun W0 hI0 => safe_fieldAddr Tryz.underlying58 rfl size3 (by decide) PB 0 (fun v hv => hv) rfl) (FilS.none rfl),
      SafeOpW.v (SafeOpW.of hR fun W0 hI0 => safe_loadC Tryz.underlying3 rfl ⟨PB, 5, none⟩ (fun v hv => hv) (.int .i64 bits) (fun W hI => by subst hI; exact hP5 _ hI0) rfl) (FilS.none rfl),
      SafeOpW.v (SafeOpW.of hR fun W0 hI0 => safe_fieldAddr Tryz.underlying58 rfl size2 (by decide) PB 0 (fun v hv => hv) rfl) (FilS.none rfl),
      SafeOpW.v (SafeOpW.of hR fun W0 hI0 => safe_loadC Tryz.underlying2 rfl ⟨PB, 7, none⟩ (fun v hv => hv) (.int .i64 x) (fun W hI => by subst hI; exact hP7 _ hI0) rfl) (FilS.none rfl),
      SafeOpW.v (SafeOpW.of hR fun W0 hI0 => safe_fieldAddr Tryz.underlying39 rfl size22 (by decide) KB 0 (fun v hv => hv) rfl) (FilS.none rfl),
      safeV_fil _ 8 1 hp (by decide) size22 (fun W v hI hv => hv) (fun W v hI hv => ?_) rfl,
      SafeOpW.v (SafeOpW.of hR fun W0 hI0 => safe_fieldAddr Tryz.underlying39 rfl size3 (by decide) KB 0 (fun v hv => hv) rfl) (FilS.none rfl),
      safeV_fil _ 10 3 hp (by decide) size3 (fun W v hI hv => hv) (fun W v hI hv => by obtain rfl : v = .int .i64 bits := hv; exact ⟨rfl, rfl, rfl⟩) rfl,
      SafeOpW.v (SafeOpW.of hR fun W0 hI0 => safe_fieldAddr Tryz.underlying39 rfl size2 (by decide) KB 0 (fun v hv => hv) rfl) (FilS.none rfl),
      safeV_fil _ 12 2 hp (by decide) size2 (fun W v hI hv => hv) (fun W v hI hv => by obtain rfl : v = .int .i64 x := hv; exact ⟨rfl, rfl, rfl⟩) rfl, trivial⟩
    obtain ⟨base, h1, h2⟩ := hv
    refine ⟨⟨base, h1, h2⟩, ?_⟩
    obtain ⟨a', c', rfl⟩ := h2.len
    exact ⟨rfl, rfl⟩
  case hQ =>
    rintro f w5 hI hS hT
    obtain ⟨cs, hK5, hcs, hall⟩ := hI.done fun i hi => by
      rcases i with _ | _ | _ | _ | _ | _ | _ | _ | _ | _ | i
      · exact hI.kept _ (by simp)
      · exact hS 8 (by decide) 1 rfl
      · exact hS 12 (by decide) 2 rfl
      · exact hS 10 (by decide) 3 rfl
      · exact hI.kept _ (by simp)
      · exact hI.kept _ (by simp)
      · exact hI.kept _ (by simp)
      · exact hI.kept _ (by simp)
      · exact hI.kept _ (by simp)
      · exact hI.kept _ (by simp)
      · omega
    obtain ⟨v0, h0', rfl⟩ := hall 0 (by omega)
    obtain ⟨v1, h1', base, hbase, ho⟩ := hall 1 (by omega)
    obtain ⟨v2, h2', rfl⟩ := hall 2 (by omega)
    obtain ⟨v3, h3', rfl⟩ := hall 3 (by omega)
    obtain ⟨v4, h4', rfl⟩ := hall 4 (by omega)
    obtain ⟨v5, h5', rfl⟩ := hall 5 (by omega)
    obtain ⟨v6, h6', rfl⟩ := hall 6 (by omega)
    obtain ⟨v7, h7', rfl⟩ := hall 7 (by omega)
    obtain ⟨v8, h8', rfl⟩ := hall 8 (by omega)
    obtain ⟨v9, h9', rfl⟩ := hall 9 (by omega)
    obtain ⟨a1, c1, rfl⟩ := ho.len
    have hce : cs = #[.string ⟨#[]⟩, .slice a1 (bs B).length c1, .int .i64 x, .int .i64 bits, .slice none 0 0, .slice none 0 0, .slice none 0 0, .string ⟨#[]⟩, .bool false, .bool false] := by
      refine Array.ext_getElem? fun i => ?_
      rcases i with _ | _ | _ | _ | _ | _ | _ | _ | _ | _ | i
      · exact h0'
      · exact h1'
      · exact h2'
      · exact h3'
      · exact h4'
      · exact h5'
      · exact h6'
      · exact h7'
      · exact h8'
      · exact h9'
      · rw [Array.getElem?_eq_none (by omega), Array.getElem?_eq_none (by simp)]
    subst hce
    have hP5' := hPW _ hI
    have hR5 := (hI.grown.block w.heap.size (Array.getElem?_eq_some_iff.1 hR0).1 (by simp; omega)).trans hR0
    have hb5 : Below w.heap.size w w5 := below_grown hb3 hI.grown (by intro k hk; simp only [Option.some.injEq] at hk; omega) hb3.size
    simp only [putAll, List.setIfInBounds_toArray, List.set_cons_zero, List.set_cons_succ]
    clear hS hT hI hPW hsW hP5 hP6 hP7 hall h0' h1' h2' h3' h4' h5' h6' h7' h8' h9' hp hK0 hR0 hP3 hb3 hv3
    clear_value p
    clear p
    obtain ⟨sK, hsK⟩ : ∃ sK, str K = sK := ⟨_, rfl⟩
    obtain ⟨sN, hsN⟩ : ∃ sN, str [110, 111, 116, 101] = sN := ⟨_, rfl⟩
    rw [hsK, hsN] at hP5' ⊢
    have hsz6 : Tryz.prog.info? 39 = Tryz.prog.info? 39 := rfl
    obtain ⟨d0, -⟩ := rcells_at hP5' 0 _ rfl
    obtain ⟨d1, -⟩ := rcells_at hP5' 1 _ rfl
    obtain ⟨d2, -⟩ := rcells_at hP5' 2 _ rfl
    obtain ⟨d3, -⟩ := rcells_at hP5' 3 _ rfl
    obtain ⟨d4, -⟩ := rcells_at hP5' 4 _ rfl
    obtain ⟨k0, f0⟩ := rcells_at hK5 0 _ rfl
    obtain ⟨k4, f4⟩ := rcells_at hK5 4 _ rfl
    obtain ⟨k5, f5⟩ := rcells_at hK5 5 _ rfl
    obtain ⟨k6, f6⟩ := rcells_at hK5 6 _ rfl
    obtain ⟨k7, f7⟩ := rcells_at hK5 7 _ rfl
    simp only [List.getElem_toArray, List.getElem_cons_zero, List.getElem_cons_succ] at d0 d1 d2 d3 d4 k0 k4 k5 k6 k7
    generalize f 17 = z17
    generalize f 18 = z18
    generalize f 19 = z19
    generalize f 20 = z20
    generalize f 21 = z21
    generalize f 22 = z22
    generalize f 23 = z23
    generalize f 24 = z24
    generalize f 25 = z25
    generalize f 26 = z26
    clear f hsz6
    have hK6 := heap_setCell_same _ KB 7 _ 39 (.string sN) (heap_setCell_same _ KB 6 _ 39 (.slice (some ⟨fg, 0, none⟩) fn fc) (heap_setCell_same _ KB 5 _ 39 (.slice (some ⟨sg, 0, none⟩) sn sc) (heap_setCell_same _ KB 4 _ 39 (.slice (some ⟨hg, 0, none⟩) hn hc) (heap_setCell_same w5 KB 0 _ 39 (.string sK) hK5))))
    simp only [List.setIfInBounds_toArray, List.set_cons_zero, List.set_cons_succ] at hK6
    have hg6 : w5.grownBy (((((w5.setCell ⟨KB, 0, none⟩ (.string sK)).setCell ⟨KB, 4, none⟩ (.slice (some ⟨hg, 0, none⟩) hn hc)).setCell ⟨KB, 5, none⟩ (.slice (some ⟨sg, 0, none⟩) sn sc)).setCell ⟨KB, 6, none⟩ (.slice (some ⟨fg, 0, none⟩) fn fc)).setCell ⟨KB, 7, none⟩ (.string sN)) (some KB) := grownBy_trans (grownBy_trans (grownBy_trans (grownBy_trans (grownBy_setCell w5 ⟨KB, 0, none⟩ _) (grownBy_setCell _ ⟨KB, 4, none⟩ _)) (grownBy_setCell _ ⟨KB, 5, none⟩ _)) (grownBy_setCell _ ⟨KB, 6, none⟩ _)) (grownBy_setCell _ ⟨KB, 7, none⟩ _)
    go_upto_region 6 with (fail)
    go_region
    obtain ⟨w6, hw6⟩ : ∃ w6, (((((w5.setCell ⟨KB, 0, none⟩ (.string sK)).setCell ⟨KB, 4, none⟩ (.slice (some ⟨hg, 0, none⟩) hn hc)).setCell ⟨KB, 5, none⟩ (.slice (some ⟨sg, 0, none⟩) sn sc)).setCell ⟨KB, 6, none⟩ (.slice (some ⟨fg, 0, none⟩) fn fc)).setCell ⟨KB, 7, none⟩ (.string sN)).drew = w6 := ⟨_, rfl⟩
    have hg6' : w5.grownBy w6 (some KB) := by rw [← hw6]; exact ⟨hg6.os, hg6.tape, hg6.output, hg6.size, hg6.block⟩
    have e6 : w6.heap = (((((w5.setCell ⟨KB, 0, none⟩ (.string sK)).setCell ⟨KB, 4, none⟩ (.slice (some ⟨hg, 0, none⟩) hn hc)).setCell ⟨KB, 5, none⟩ (.slice (some ⟨sg, 0, none⟩) sn sc)).setCell ⟨KB, 6, none⟩ (.slice (some ⟨fg, 0, none⟩) fn fc)).setCell ⟨KB, 7, none⟩ (.string sN)).heap := by rw [← hw6]; rfl
    rw [← e6] at hK6
    rw [hw6]
    clear hw6 e6 hg6
    have hP6 := (hg6'.block PB (Array.getElem?_eq_some_iff.1 hP5').1 (by simpa using hPne)).trans hP5'
    have hR6 := (hg6'.block w.heap.size (Array.getElem?_eq_some_iff.1 hR5).1 (by simp; omega)).trans hR5
    have ho6 := ho.grown hg6' (.inr fun e => by have := (ho.lt KB e).1; omega)
    have hb6 : Below w.heap.size w w6 := below_grown hb5 hg6' (by intro k hk; simp only [Option.some.injEq] at hk; omega) hb5.size
    clear hg6' hP5' hR5 ho hb5 hK5 d0 d1 d2 d3 d4 k0 k4 k5 k6 k7 f0 f4 f5 f6 f7
    obtain ⟨d1, -⟩ := rcells_at hP6 1 _ rfl
    obtain ⟨d2, -⟩ := rcells_at hP6 2 _ rfl
    obtain ⟨k8, f8⟩ := rcells_at hK6 8 _ rfl
    obtain ⟨k9, f9⟩ := rcells_at hK6 9 _ rfl
    simp only [List.getElem_toArray, List.getElem_cons_zero, List.getElem_cons_succ] at d1 d2 k8 k9
    have n1 := not_nil23 ⟨hg, 0, none⟩ hn hc
    have n2 := not_nil23 ⟨sg, 0, none⟩ sn sc
    have hK7 := heap_setCell_same _ KB 9 _ 39 (.bool false) (heap_setCell_same w6 KB 8 _ 39 (.bool false) hK6)
    simp only [List.setIfInBounds_toArray, List.set_cons_zero, List.set_cons_succ] at hK7
    have hg7 : w6.grownBy ((w6.setCell ⟨KB, 8, none⟩ (.bool false)).setCell ⟨KB, 9, none⟩ (.bool false)) (some KB) := grownBy_trans (grownBy_setCell w6 ⟨KB, 8, none⟩ _) (grownBy_setCell _ ⟨KB, 9, none⟩ _)
    go_upto_region 7 with (fail)
    go_region
    obtain ⟨w7, hw7⟩ : ∃ w7, ((w6.setCell ⟨KB, 8, none⟩ (.bool false)).setCell ⟨KB, 9, none⟩ (.bool false)).drew = w7 := ⟨_, rfl⟩
    have hg7' : w6.grownBy w7 (some KB) := by rw [← hw7]; exact ⟨hg7.os, hg7.tape, hg7.output, hg7.size, hg7.block⟩
    have e7 : w7.heap = ((w6.setCell ⟨KB, 8, none⟩ (.bool false)).setCell ⟨KB, 9, none⟩ (.bool false)).heap := by rw [← hw7]; rfl
    rw [← e7] at hK7
    rw [hw7]
    clear hw7 e7 hg7
    have hR7 := (hg7'.block w.heap.size (Array.getElem?_eq_some_iff.1 hR6).1 (by simp; omega)).trans hR6
    have ho7 := ho6.grown hg7' (.inr fun e => by have := (ho6.lt KB e).1; omega)
    have hb7 : Below w.heap.size w w7 := below_grown hb6 hg7' (by intro k hk; simp only [Option.some.injEq] at hk; omega) hb6.size
    clear hg7' hP6 hR6 ho6 hb6 hK6 d1 d2 k8 k9 f8 f9 n1 n2
    obtain ⟨fin, hfe⟩ : ∃ fin : Array Value, #[.string sK, .slice a1 (bs B).length c1, .int .i64 x, .int .i64 bits, .slice (some ⟨hg, 0, none⟩) hn hc, .slice (some ⟨sg, 0, none⟩) sn sc, .slice (some ⟨fg, 0, none⟩) fn fc, .string sN, .bool false, .bool false] = fin := ⟨_, rfl⟩
    rw [hfe] at hK7
    have hfs : fin.size = 10 := by rw [← hfe]; rfl
    have hsf : (Tryz.prog.info? 39).map (·.size) = some fin.size := by rw [hfs]; exact size39
    have hof : fin.all (·.oneCell') = true := by rw [← hfe]; simp [Value.oneCell']
    have hR8 := setRow_heap _ w.heap.size _ fin 39 (0, 0) hR7
    have hb8 := hb7.setRowB fin (Nat.le_refl _)
    have hv8 : Sl (.slice a1 (bs B).length c1) (bs B) (w7.setRow w.heap.size fin) := by
      have hgr : w7.grownBy (w7.setRow w.heap.size fin) (some w.heap.size) := ⟨rfl, rfl, rfl, by simp [World.setRow], fun k hk hne => setRow_other _ _ k _ (fun e => hne (by rw [e]))⟩
      exact (ho7.grown hgr (.inr fun e => by have := (ho7.lt _ e).1; omega)).sl
    have hfin : EE (.returned (.tuple #[.agg fin, .int .i64 0])) (w7.setRow w.heap.size fin) := by
      rw [← hEE, ← hfe, ← hsK, ← hsN]
      rw [← hfe, ← hsK, ← hsN] at hv8
      exact ⟨_, _, _, _, _, _, _, _, _, _, rfl, hv8⟩
    clear hfe hEE hv8 ho7
    go_wp2_with (first | (refine wpList_load_row rfl 39 (.tmp 4) rfl KB rfl 39 fin (0, 0) _ hK7 Tryz.underlying39 rfl hsf ?_) | (refine wpList_store_row rfl 39 (.tmp 2) (.tmp 50) rfl w.heap.size fin rfl rfl 39 _ hR7 hsf (by rw [hfs]; rfl) hof ?_))
    refine ret_cell_tmp rfl w.heap.size 39 fin (0, 0) _ rfl hR8 Tryz.underlying39 rfl hsf rfl ?_
    exact ⟨hfin, hb8⟩
end Go.Proofs.YtcebfkhfnjbfjaaGreatDoor
