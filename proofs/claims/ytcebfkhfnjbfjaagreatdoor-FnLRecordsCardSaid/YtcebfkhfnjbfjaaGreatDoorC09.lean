/- Contract of shape of the 32 bytes of a point. -/
import Derived.Test.YtcebfkhfnjbfjaaGreatDoorC08
import Derived.Lib.ConvBytes
namespace Go.Proofs.YtcebfkhfnjbfjaaGreatDoor
open Go.RowKit
set_option linter.unusedVariables false
set_option linter.unusedSimpArgs false
/-- Block b begins with n numbers, which may be written. -/
def MRow (k : IntKind) (n E b : Nat) (w : World) : Prop := ∃ cs fr, w.heap[b]? = some (.cells cs E fr) ∧ n ≤ cs.size ∧ (∀ i, i < n → ∃ x, cs[i]? = some (.int k x)) ∧ ∀ i, i < n → ¬ (fr.1 ≤ i ∧ i < fr.2)
section
variable {k : IntKind} {n E b : Nat} {w : World}
theorem MRow.lt (h : MRow k n E b w) : b < w.heap.size := by
  obtain ⟨cs, fr, h1, _⟩ := h
  exact (Array.getElem?_eq_some_iff.1 h1).1
theorem MRow.int (h : MRow k n E b w) {i : Nat} (hi : i < n) : ∃ x, w.cell? ⟨b, i, none⟩ = some (.int k x) := by
  obtain ⟨cs, fr, h1, _, h3, _⟩ := h
  obtain ⟨x, hx⟩ := h3 i hi
  exact ⟨x, by rw [cell_of_row w b i cs E _ h1]; exact hx⟩
theorem MRow.free (h : MRow k n E b w) {i : Nat} (hi : i < n) : w.frozen? ⟨b, i, none⟩ = false := by
  obtain ⟨cs, fr, h1, _, _, h4⟩ := h
  obtain ⟨lo, hi'⟩ := fr
  have := h4 i hi
  simp only [World.frozen?, h1]
  simpa using this
theorem heap_setCell_mark (w : World) (g i : Nat) (cs : Array Value) (t : TypeId) (fr : Nat × Nat) (v : Value) (hg : w.heap[g]? = some (.cells cs t fr)) : (w.setCell ⟨g, i, none⟩ v).heap[g]? = some (.cells (cs.setIfInBounds i v) t fr) := by
  rw [setCell_eq_setRow w g i cs t fr v hg]
  exact setRow_heap w g cs _ t _ hg
theorem MRow.set (h : MRow k n E b w) (i : Nat) (x : Int) : MRow k n E b (w.setCell ⟨b, i, none⟩ (.int k x)) := by
  obtain ⟨cs, fr, h1, h2, h3, h4⟩ := h
  refine ⟨_, fr, heap_setCell_mark w b i cs E fr _ h1, by simpa using h2, fun j hj => ?_, h4⟩
  by_cases e : i = j
  · subst e
    exact ⟨x, by rw [Array.getElem?_setIfInBounds]; simp; omega⟩
  · obtain ⟨y, hy⟩ := h3 j hj
    exact ⟨y, by rw [Array.getElem?_setIfInBounds]; simp [e, hy]⟩
theorem MRow.below {w' : World} (h : MRow k n E b w) (hb : Below w.heap.size w w') : MRow k n E b w' := by
  have hl := h.lt
  obtain ⟨cs, fr, h1, h2⟩ := h
  exact ⟨cs, fr, by rw [hb.block b hl]; exact h1, h2⟩
theorem MRow.setOther (h : MRow k n E b w) {a : Addr} (hne : b ≠ a.block) (v : Value) : MRow k n E b (w.setCell a v) := by
  obtain ⟨cs, fr, h1, h2⟩ := h
  exact ⟨cs, fr, by rw [heap_setCell_other w a b v hne]; exact h1, h2⟩
theorem MRow.setCellsOther {g : Nat} (hne : b ≠ g) : ∀ (vs : List Value) (o : Nat) {w : World}, MRow k n E b w → MRow k n E b (w.setCells g o vs)
  | [], _, _, h => h
  | v :: r, o, w, h => by
    rw [World.setCells]
    exact MRow.setCellsOther hne r (o + 1) (h.setOther hne v)
theorem MRow.ne {P : Nat → Value → Prop} {m E' b' : Nat} (h : MRow k n E b w) (h' : Row P m E' b' w) (hE : E ≠ E') : b ≠ b' := by
  intro e
  subst e
  obtain ⟨cs, fr, h1, _⟩ := h
  obtain ⟨cs', h1', _⟩ := h'
  rw [h1] at h1'
  injection h1' with h1'
  injection h1' with _ h2
  exact hE h2
theorem MRow.nums (h : MRow k n E b w) : ∃ xs : List Int, xs.length = n ∧ ∀ i, i < n → w.cell? ⟨b, i, none⟩ = some (.int k (xs.getD i 0)) := by
  obtain ⟨cs, fr, h1, h2, h3, _⟩ := h
  refine ⟨(cs.toList.take n).map intOf, by simp; omega, fun i hi => ?_⟩
  obtain ⟨x, hx⟩ := h3 i hi
  rw [cell_of_row w b i cs E _ h1, hx]
  have hl : i < cs.toList.length := by simp; omega
  have hv' : cs.toList[i] = .int k x := by
    have := (Array.getElem?_eq_some_iff.1 hx).2
    simpa using this
  rw [List.getD_eq_getElem?_getD, List.getElem?_map, List.getElem?_take, if_pos hi, List.getElem?_eq_getElem hl, hv']
  rfl
theorem MRow.text {P : Program} {src dst e : TypeId} (h : MRow .u8 n E b w) (hs : P.underlying src = some (.slice e)) (he : P.underlying e = some (.int .u8)) (hd : P.underlying dst = some .string) (off len cap : Nat) (hlen : off + len ≤ n) :
    ∃ s : ByteArray, s.size = len ∧ ∀ W : World, W.heap = w.heap → Sem.run P (convert src dst (.slice (some ⟨b, off, none⟩) len cap)) W = .ok (.string s) W := by
  obtain ⟨xs, hx, hc⟩ := h.nums
  refine ⟨strOfNums ((xs.drop off).take len), by rw [strOfNums_size]; simp; omega, fun W hW => ?_⟩
  refine run_convert_bytes_arg W src e hs he b off len cap _ (by simp; omega) (fun i hi => ?_) dst hd
  have hce : W.cell? ⟨b, off + i, none⟩ = w.cell? ⟨b, off + i, none⟩ := by simp only [World.cell?, hW]
  rw [hce, hc (off + i) (by omega)]
  simp [List.getD_eq_getElem?_getD, hi, List.getElem?_drop]
end
theorem MRow.ofBytes (w : World) (s : ByteArray) : MRow .u8 s.size 5 w.heap.size (Lib.bytesWorld w 5 s) := by
  refine ⟨_, _, Lib.bytesWorld_at_new w 5 s, by simp [Lib.bytesCells], fun i hi => ?_, fun i hi => ?_⟩
  · have h1 := Lib.bytesWorld_cell w 5 s i hi
    rw [cell_of_row _ _ i _ 5 _ (Lib.bytesWorld_at_new w 5 s)] at h1
    exact ⟨_, h1⟩
  · have : s.size ≤ (Lib.bytesCells w 5 s).size := by simp [Lib.bytesCells]
    rintro ⟨h1, _⟩
    dsimp only at h1
    omega
theorem below_bytes {B : Nat} {w0 w : World} (h : Below B w0 w) (hB : B ≤ w.heap.size) (s : ByteArray) : Below B w0 (Lib.bytesWorld w 5 s) :=
  h.trans ⟨rfl, rfl, rfl, by rw [Lib.bytesWorld_size]; omega, fun i hi => Lib.bytesWorld_at_old w 5 s i (by omega)⟩
theorem rkept_mrow {w0 : World} {k : IntKind} {n E b : Nat} (hE : E ≠ 73) : RKept w0 (MRow k n E b) :=
  ⟨fun W W' h hb => h.below hb, fun W g cs h hg _ => h.setCellsOther (h.ne hg hE) cs 0⟩
theorem safe_loadM {P : Program} {T : Tmp → Value → Prop} {I : World → Prop} {d : Tmp} {x : Operand} {ty t : TypeId} {ps : String} {af : Array Edge} {gd : Option (Nat × Bool)} {n E : Nat} {k k' : IntKind} (hu : P.underlying ty = some (.int k')) (g o : Nat) (hx : Opd T x (· = .pointer (some ⟨g, o, none⟩))) (hon : o < n)
    (hr : ∀ W, I W → MRow k n E g W) (h : ∀ v, IsInt k v → T d v) :
    SafeOp P T I { dst := some d, op := .load ty x, type := t, pos := ps, after := af, guard := gd } :=
  safe_load _ hx fun u W hI hu' => by
    subst hu'
    obtain ⟨y, hy⟩ := (hr W hI).int hon
    exact ⟨_, run_load_one W _ _ hy (isAgg_int hu W), fun d' hd => by cases hd; exact h _ ⟨y, rfl⟩⟩
theorem safe_storeM {P : Program} {T : Tmp → Value → Prop} {I : World → Prop} {x y : Operand} {ty t : TypeId} {ps : String} {af : Array Edge} {gd : Option (Nat × Bool)} {n E : Nat} {k : IntKind} (hsz : (P.info? ty).map (·.size) = some 1) (g o : Nat) (hx : Opd T x (· = .pointer (some ⟨g, o, none⟩))) (hy : Opd T y (IsInt k)) (hon : o < n)
    (hr : ∀ W, I W → MRow k n E g W) (h : ∀ W z, I W → I (W.setCell ⟨g, o, none⟩ (.int k z))) :
    SafeOp P T I { dst := none, op := .store ty x y, type := t, pos := ps, after := af, guard := gd } :=
  safe_store _ _ hx hy fun u v W hI hu' hv => by
    subst hu'
    obtain ⟨z, rfl⟩ := hv
    obtain ⟨y, hy⟩ := (hr W hI).int hon
    exact ⟨_, run_store_one W _ _ z hy ((hr W hI).free hon) hsz, h W z hI, fun d' hd => by cases hd⟩
theorem lTimes_call (a b : Value) (w : World) (ha : IsF a) (hb : IsF b) : Calls Tryz.prog 51 #[a, b] w fun e w' => (∃ v, e = .returned v ∧ IsF v) ∧ Below w.heap.size w w' := by
  obtain ⟨ca, rfl, ka⟩ := ha
  obtain ⟨cb, rfl, kb⟩ := hb
  exact (lTimes_any ca cb w ka kb).mono fun e w' ⟨⟨c, h1, h2⟩, hb⟩ => ⟨⟨_, h1, c, rfl, h2⟩, hb⟩
set_option maxHeartbeats 4000000 in
set_option maxRecDepth 100000 in
theorem lShown_any (ps : Array Value) (w : World) (hp : Ints .i64 64 ps) :
    Calls Tryz.prog 42 #[.agg ps] w fun e w' => (∃ s : ByteArray, e = .returned (.string s) ∧ s.size = 32) ∧ Below w.heap.size w w' := by
  have h1 := Row.new hp w 75
  have hb : Below w.heap.size w (w.alloc (.cells ps 75)) := (Below.refl _ _).alloc (by simp <;> omega) _
  obtain ⟨ca, hca, hl1⟩ := h1.load 32 16 (by omega) Tryz.underlying73 rfl size73
  go_enter Tryz.func42, Tryz.ntmps42
  go_wp2_with fail
  refine (lOver_any _ _ hca).mono ?_
  rintro e w1 ⟨⟨c1, rfl, hc1⟩, hb1⟩
  replace h1 := (h1.below hb1 h1.lt).alloc (.cells z16 73)
  replace hb := (hb.trans (hb1.mono hb.size)).alloc (by have := hb1.size; simp at this; omega) (.cells z16 73)
  have h2 := Row.new z16_ints w1 73
  have hst := h2.store 0 16 (by omega) hc1 (fun _ _ => IsInt.one) size73 (w1.alloc (.cells z16 73)) rfl
  have hw1 : w.heap.size < w1.heap.size := by have := hb1.size; simp at this; omega
  clear hl1 hb1
  go_upto_region 2 with (fail)
  replace h1 := h1.setCellsOther (g := w1.heap.size) (by omega) c1.toList 0
  replace h2 := h2.setCells c1.toList 0 fun j v hv _ => hc1.list j v (by simpa using hv)
  replace hb := below_setCells (g := w1.heap.size) (by omega) c1.toList 0 hb
  clear hst
  obtain ⟨Z, hZ⟩ : ∃ Z, Z = w1.heap.size := ⟨_, rfl⟩
  generalize (w1.alloc (.cells z16 73)).setCells w1.heap.size 0 c1.toList = wy at h1 h2 hb ⊢
  rw [← hZ] at h2 hw1 ⊢
  clear hZ w1
  obtain ⟨cb, hcb, hl1⟩ := h1.load 16 16 (by omega) Tryz.underlying73 rfl size73
  obtain ⟨cc, hcc, hl2⟩ := h2.load 0 16 (by omega) Tryz.underlying73 rfl size73
  go_wp2_with fail
  refine (lTimes_any _ _ _ hcb hcc).mono ?_
  rintro e w1 ⟨⟨c2, rfl, hc2⟩, hb1⟩
  replace h1 := h1.below hb1 h1.lt
  replace h2 := h2.below hb1 h2.lt
  replace hb := hb.trans (hb1.mono hb.size)
  clear hl1 hl2 hb1
  go_wp2_with fail
  refine (lPacked_any _ _ hc2).mono ?_
  rintro e w2 ⟨⟨s, rfl, hs⟩, hb1⟩
  replace h1 := h1.below hb1 h1.lt
  replace h2 := h2.below hb1 h2.lt
  replace hb := hb.trans (hb1.mono hb.size)
  clear hb1
  have kb := fun W => Lib.run_convert_string_bytes (P := Tryz.prog) W 9 22 5 s Tryz.underlying9 Tryz.underlying22 Tryz.underlying5
  go_upto_region 3 with (fail)
  have h3 := MRow.ofBytes w2 s
  have hbb := below_bytes (Below.refl w2.heap.size w2) (Nat.le_refl _) s
  replace h1 := h1.below hbb h1.lt
  replace h2 := h2.below hbb h2.lt
  replace hb := hb.trans (hbb.mono hb.size)
  have hw2 : w.heap.size ≤ w2.heap.size := by have := h1.lt; rw [Lib.bytesWorld_size] at this; omega
  clear kb
  rw [hs] at h3
  generalize grownCap w2 32 0 5 = cp
  obtain ⟨B, hB⟩ : ∃ B, B = w2.heap.size := ⟨_, rfl⟩
  generalize Lib.bytesWorld w2 5 s = wz at h1 h2 h3 hb ⊢
  rw [← hB] at h3 hw2 ⊢
  clear hB hbb w2
  have hR : RKept w (fun W => IRow .i64 64 75 w.heap.size W ∧ MRow .u8 32 5 B W) := (rkept_row (by omega)).and (rkept_mrow (by omega))
  obtain ⟨L, hL⟩ : ∃ L : List Nat, L = [Z] := ⟨_, rfl⟩
  have hZL : Z ∈ L := by rw [hL]; simp
  have hI : FInv w (fun W => IRow .i64 64 75 w.heap.size W ∧ MRow .u8 32 5 B W) L wz := ⟨hb, fun g hg => by rw [hL] at hg; simp at hg; subst hg; exact ⟨by omega, h2⟩, h1, h3⟩
  clear hL
  refine wp_region_typedG (by kernel_rfl) (fun u _ v => match u with | 1 => v = .pointer (some ⟨w.heap.size, 0, none⟩) | 3 => v = .pointer (some ⟨Z, 0, none⟩) | 4 => v = .slice (some ⟨B, 0, none⟩) 32 cp | 14 => v = .slice (some ⟨B, 0, none⟩) 32 cp | 15 => v = .pointer (some ⟨B, 31, none⟩) | 16 => IsInt .u8 v | 17 => v = .pointer (some ⟨w.heap.size, 0, none⟩) | 18 => IsF v | 19 => IsF v | 20 => IsF v | 21 => IsStr 32 v | 22 => IsInt .u8 v | 23 => IsInt .u8 v | 24 => IsInt .u8 v | 25 => IsInt .u8 v | 26 => v = .pointer (some ⟨B, 31, none⟩) | _ => True)
    (fun G => FInv w (fun W => IRow .i64 64 75 w.heap.size W ∧ MRow .u8 32 5 B W) (G ++ L)) (fun u G g v hv => hv) (by kernel_rfl) [14, 15, 16, 17, 18, 19, 20, 21, 22, 23, 24, 25, 26] (by kernel_rfl) [4, 1, 3] (by kernel_rfl) ?h0 (hI.drew hR) ?hs ?hQ
  case h0 => simp
  case hs => exact ⟨SafeOpG.of fun G => safe_move fun d hd => by cases hd; exact fun v hv => hv,
    SafeOpG.of fun G => safe_placeSl Tryz.underlying22 size5 B 0 32 cp 31 (fun v hv => hv) rfl (by omega) (by omega) rfl,
    SafeOpG.of fun G => safe_loadM Tryz.underlying5 B 31 (fun v hv => hv) (by omega) (fun W hW => hW.rest.2) (fun v hv => hv),
    SafeOpG.of fun G => safe_fieldAddr Tryz.underlying75 rfl size73 (by decide) (w.heap.size) 0 (fun v hv => hv) rfl,
    SafeOpG.of fun G => safe_loadRow (n := 64) Tryz.underlying73 rfl size73 (w.heap.size) 0 (fun v hv => hv) (by omega) (fun W hW => hW.rest.1) fun cs hcs => ⟨cs, rfl, hcs⟩,
    F_load Z hZL (fun G v hv => hv) (fun G v hv => hv),
    F_call2 hR call51 lTimes_any (fun G v hv => hv) (fun G v hv => hv) (fun G v hv => hv),
    F_call1 hR IsF (IsStr 32) call57 lPacked_call (fun G v hv => hv) (fun G v hv => hv),
    SafeOpG.of fun G => safe_indexStr Tryz.underlying9 32 0 (by omega) (fun v hv => hv) rfl (fun v hv => hv),
    SafeOpG.of fun G => safe_arith (k := .u8) (by simp) (fun v hv => hv) ⟨1, rfl⟩ (fun v hv => hv),
    SafeOpG.of fun G => safe_shift (k := .u8) (.inl rfl) 7 (by omega) (fun v hv => hv) rfl (fun v hv => hv),
    SafeOpG.of fun G => safe_arith (k := .u8) (by simp) (fun v hv => hv) (fun v hv => hv) (fun v hv => hv),
    SafeOpG.of fun G => safe_placeSl Tryz.underlying22 size5 B 0 32 cp 31 (fun v hv => hv) rfl (by omega) (by omega) rfl,
    SafeOpG.of fun G => safe_storeM size5 B 31 (fun v hv => hv) (fun v hv => hv) (by omega) (fun W hW => hW.rest.2) (fun W z hW => ⟨hW.below.setCell hw2 _, fun g hg => ⟨(hW.rows g hg).1, (hW.rows g hg).2.setOther (fun e => hW.rest.2.ne (hW.rows g hg).2 (by decide) e.symm) _⟩, hW.rest.1.setOther (fun e => hW.rest.2.ne hW.rest.1 (by decide) e.symm) _, hW.rest.2.set 31 z⟩), trivial⟩
  case hQ =>
    rintro f w1 G hI' hT
    simp only [putAll, List.setIfInBounds_toArray, List.set_cons_zero, List.set_cons_succ]
    obtain ⟨t, ht, hcv⟩ := hI'.rest.2.text (P := Tryz.prog) (dst := 9) Tryz.underlying22 Tryz.underlying5 Tryz.underlying9 0 32 cp (by omega)
    have hcv' := hcv w1 rfl
    clear hcv
    go_wp2
    go_ret
    exact ⟨⟨t, rfl, ht⟩, hI'.below⟩
end Go.Proofs.YtcebfkhfnjbfjaaGreatDoor
