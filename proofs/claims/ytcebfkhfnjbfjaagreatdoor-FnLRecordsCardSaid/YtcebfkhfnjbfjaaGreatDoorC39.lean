/- Contracts of shape: the curve, the secret, the public key of Ed25519. -/
import Derived.Test.YtcebfkhfnjbfjaaGreatDoorC16
namespace Go.Proofs.YtcebfkhfnjbfjaaGreatDoor
open Go.RowKit
set_option linter.unusedVariables false
set_option linter.unusedSimpArgs false
def curveB (i : Nat) : Value → Bool
  | .int k _ => if i < 80 then decide (k = .i64) else decide (i ≠ 80) && decide (k = .u64)
  | .slice _ _ _ => decide (i = 80)
  | _ => false
theorem curve_of {cs : Array Value} (hn : cs.size = 169) (h : ((List.range 169).all fun i => match cs[i]? with | some v => curveB i v | none => false) = true) : Cells curveP 169 cs := by
  refine ⟨hn, fun i hi => ?_⟩
  have h1 := List.all_eq_true.1 h i (List.mem_range.2 hi)
  have hlt : i < cs.size := by omega
  rw [Array.getElem?_eq_getElem hlt] at h1 ⊢
  refine ⟨_, rfl, ?_⟩
  dsimp only at h1
  generalize cs[i] = v at h1
  unfold curveP
  cases v <;> simp only [curveB, Bool.false_eq_true] at h1
  case int k x =>
    by_cases hi80 : i < 80
    · rw [if_pos hi80] at h1 ⊢
      simp at h1
      exact ⟨x, by rw [h1]⟩
    · rw [if_neg hi80] at h1
      simp at h1
      rw [if_neg hi80, if_neg h1.1]
      exact ⟨x, by rw [h1.2]⟩
  case slice a l c =>
    simp at h1
    subst h1
    simp
theorem curve_zero : Cells curveP 169 Tryz.zeroCells82 := curve_of (by kernel_rfl) (by kernel_rfl)
theorem built82 (parts : List (Nat × Value)) : Tryz.prog.built 82 parts = Instr.fill (#[(0, 16), (16, 64), (80, 1), (81, 88)][·]?) Tryz.zeroCells82 parts := by kernel_rfl
theorem build82 (a b : Array Value) (ha : Ints .i64 16 a) (hb : Ints .u64 88 b) : ∃ cs, Cells curveP 169 cs ∧ ∀ W, Sem.run Tryz.prog (buildA 82 #[(0, .agg a), (3, .agg b)]) W = .ok (.agg cs) W := by
  obtain ⟨cs, h1, h2⟩ := fill_cells (P := curveP) (n := 169) (#[(0, 16), (16, 64), (80, 1), (81, 88)][·]?) [(0, .agg a), (3, .agg b)] Tryz.zeroCells82 curve_zero (by
    intro p hp
    simp only [List.mem_cons, List.not_mem_nil, or_false] at hp
    rcases hp with rfl | rfl
    · refine ⟨0, 16, rfl, by omega, ha.imp fun i v hi hv => ?_⟩
      unfold curveP
      rw [if_pos (by omega)]
      exact hv
    · refine ⟨81, 88, rfl, by omega, hb.imp fun i v hi hv => ?_⟩
      unfold curveP
      rw [if_neg (by omega), if_neg (by omega)]
      exact hv)
  exact ⟨cs, h2, fun W => run_build W 82 _ cs (by rw [built82]; exact h1)⟩
theorem call56 (args : Array Value) (W : World) : Sem.run Tryz.prog (callFunc 56 args) W = .ok (.enter 56 args) W := run_callGo (fn := Tryz.f56) (by kernel_rfl) (by kernel_rfl) (by kernel_rfl) args W
section
variable {P : Program} {Tin T : Tmp → World → Value → Prop} {I : World → Prop} {R : World → World → Prop}
theorem safeW_extract {d : Tmp} {x : Operand} {i : Nat} {t : TypeId} {ps : String} {af : Array Edge} {gd : Option (Nat × Bool)} (hR : ∀ W, R W W) (p : World → Value → Prop) (hx : OpdW Tin I x p) (h : ∀ W v, I W → p W v → ∃ vs u, v = .tuple vs ∧ vs[i]? = some u ∧ T d W u) :
    SafeOpW P Tin T I R { dst := some d, op := .extract x i, type := t, pos := ps, after := af, guard := gd } := by
  intro ρ w hI hT hc hf
  obtain ⟨vs, u, h1, h2, h3⟩ := h w _ hI (hx.at_ (l := #[x]) (by simp) hI hT hc)
  have e : Sem.run P (execOp ρ { dst := some d, op := .extract x i, type := t, pos := ps, after := af, guard := gd }) w = .ok (.value u) w := by
    simp [execOp, h1, Instr.extract, h2]
  rw [e]
  exact ⟨hR w, hI, fun d' hd => by cases hd; exact h3⟩
theorem safeW_storeRow {x y : Operand} {ty t : TypeId} {ps : String} {af : Array Edge} {gd : Option (Nat × Bool)} {Pp Pq : Nat → Value → Prop} {n E m : Nat} (hi : (P.info? ty).map (·.size) = some m)
    (g o : Nat) (hx : OpdW Tin I x fun _ v => v = .pointer (some ⟨g, o, none⟩)) (hy : OpdW Tin I y fun _ v => ∃ cs, v = .agg cs ∧ Cells Pq m cs) (h1 : ∀ i v, Pq i v → v.oneCell' = true) (hom : o + m ≤ n) (hr : ∀ W, I W → Row Pp n E g W)
    (h : ∀ W cs, I W → Cells Pq m cs → R W (W.setCells g o cs.toList) ∧ I (W.setCells g o cs.toList)) :
    SafeOpW P Tin T I R { dst := none, op := .store ty x y, type := t, pos := ps, after := af, guard := gd } := by
  intro ρ w hI hT hc hf
  have hp := hx.at_ (l := #[x, y]) (by simp) hI hT hc
  obtain ⟨cs, hq, hcs⟩ := hy.at_ (l := #[x, y]) (by simp) hI hT hc
  have h2 := (hr w hI).store o m hom hcs h1 hi w rfl
  unfold storeA at h2
  simp only [execOp, Sem.run_bind, hp, hq, h2, Result.andThen_ok, Sem.run_pure]
  obtain ⟨h3, h4⟩ := h w cs hI hcs
  exact ⟨h3, h4, fun d' hd => by cases hd⟩
end
theorem bigNum (W : World) : Num (.slice (some ⟨W.heap.size, 0, none⟩) 8 8) [0, 0, 0, 0, 0, 0, 0, 268435456] (W.alloc (.cells #[.int .u32 0, .int .u32 0, .int .u32 0, .int .u32 0, .int .u32 0, .int .u32 0, .int .u32 0, .int .u32 268435456] 45)) := by
  have := Own.made W [.int .u32 0, .int .u32 0, .int .u32 0, .int .u32 0, .int .u32 0, .int .u32 0, .int .u32 0, .int .u32 268435456] W.heap.size 8 45 (Nat.le_refl _) rfl (by simp [maxLen])
  exact ⟨by simp, this.sl⟩
set_option maxHeartbeats 1000000 in
set_option maxRecDepth 100000 in
theorem lMade_any (w : World) :
    Calls Tryz.prog 40 #[] w fun e w' => (∃ cs, e = .returned (.agg cs) ∧ Cells curveP 169 cs) ∧ Below w.heap.size w w' := by
  have h0 := Row.new curve_zero w 82
  have hb := below_one w (.cells Tryz.zeroCells82 82)
  have hb73 : ∀ W, Sem.run Tryz.prog (buildA 73 #[]) W = .ok (.agg z16) W := build73
  go_enter Tryz.func40, Tryz.ntmps40
  go_wp2_with fail
  refine (lSmall_any _ _).mono ?_
  rintro e w1 ⟨⟨c1, rfl, hc1⟩, hb1⟩
  replace h0 := h0.below hb1 h0.lt
  replace hb := hb.trans (hb1.mono hb.size)
  clear hb1
  go_wp2_with fail
  refine (lMinus_any _ _ _ z16_ints hc1).mono ?_
  rintro e w2 ⟨⟨c2, rfl, hc2⟩, hb1⟩
  replace h0 := h0.below hb1 h0.lt
  replace hb := hb.trans (hb1.mono hb.size)
  clear hb1
  go_wp2_with fail
  refine (lSmall_any _ _).mono ?_
  rintro e w3 ⟨⟨c3, rfl, hc3⟩, hb1⟩
  replace h0 := h0.below hb1 h0.lt
  replace hb := hb.trans (hb1.mono hb.size)
  clear hb1
  go_wp2_with fail
  refine (lOver_any _ _ hc3).mono ?_
  rintro e w4 ⟨⟨c4, rfl, hc4⟩, hb1⟩
  replace h0 := h0.below hb1 h0.lt
  replace hb := hb.trans (hb1.mono hb.size)
  clear hb1
  go_wp2_with fail
  refine (lTimes_any _ _ _ hc2 hc4).mono ?_
  rintro e w5 ⟨⟨c5, rfl, hc5⟩, hb1⟩
  replace h0 := h0.below hb1 h0.lt
  replace hb := hb.trans (hb1.mono hb.size)
  clear hb1
  go_wp2_with fail
  refine (lAllWords_any _).mono ?_
  rintro e w6 ⟨⟨c6, rfl, hc6⟩, hb1⟩
  replace h0 := h0.below hb1 h0.lt
  replace hb := hb.trans (hb1.mono hb.size)
  clear hb1
  obtain ⟨c7, hc7, hbd⟩ := build82 c5 c6 hc5 hc6
  have h1 := Row.new curve_zero w6 82
  have hst := h1.store 0 169 (by omega) hc7 curveP_one size82 (w6.alloc (.cells Tryz.zeroCells82 82)) rfl
  have hlt := h0.lt
  go_upto_region 2 with (fail)
  have hne : w.heap.size ≠ w6.heap.size := by omega
  have hBO0 : w.heap.size ≤ w6.heap.size := hb.size
  replace h0 := (h0.alloc (.cells Tryz.zeroCells82 82)).setCellsOther hne c7.toList 0
  replace hb := below_setCells hBO0 c7.toList 0 (hb.alloc hb.size (.cells Tryz.zeroCells82 82))
  replace h1 := h1.setCells (Pp := curveP) c7.toList 0 fun j v hv _ => by simpa using hc7.list j v hv
  clear hst hbd hlt hb73
  obtain ⟨O, hO⟩ : ∃ O, O = w6.heap.size := ⟨_, rfl⟩
  generalize (w6.alloc (.cells Tryz.zeroCells82 82)).setCells w6.heap.size 0 c7.toList = wy at h0 h1 hb ⊢
  rw [← hO] at h1 hne hBO0 ⊢
  have hBO : w.heap.size ≤ O := hBO0
  clear hO hBO0
  refine wp_region_typedW (by kernel_rfl) [] (fun _ _ _ => True) (fun u _ v => match u with | 1 => v = .pointer (some ⟨O, 0, none⟩) | 11 => ∃ cs, v = .agg cs ∧ Cells curveP 169 cs | 12 => IsF v | 13 => IsF v | 14 => IsF v | 15 => IsF v | 16 => IsStr 32 v | 17 => ∃ (c : Array Value) (b : Bool), v = .tuple #[.agg c, .bool b] ∧ Ints .i64 64 c | 10 => ∃ (c : Array Value) (b : Bool), v = .tuple #[.agg c, .bool b] ∧ Ints .i64 64 c | 18 => IsPt v | 20 => v = .pointer (some ⟨O, 16, none⟩) | _ => True)
    (fun W => Below w.heap.size w W ∧ Row curveP 169 82 w.heap.size W ∧ Row curveP 169 82 O W) (fun _ _ => True) ?hmono (by kernel_rfl) [11, 12, 13, 14, 15, 16, 17, 10, 18, 19, 20] (by kernel_rfl) [1, 1] (by kernel_rfl) ?h0 [] (by kernel_rfl) (by simp) ⟨hb.trans ⟨rfl, rfl, rfl, Nat.le_refl _, fun _ _ => rfl⟩, h0.drew, h1.drew⟩ ?hs ?hQ
  case hmono => intro u W W' v _ _ _ hv; exact hv
  case h0 => simp
  case hs =>
    have hI' : ∀ W W' : World, (Below w.heap.size w W ∧ Row curveP 169 82 w.heap.size W ∧ Row curveP 169 82 O W) → Below W.heap.size W W' → (Below w.heap.size w W' ∧ Row curveP 169 82 w.heap.size W' ∧ Row curveP 169 82 O W') := fun W W' h hb => ⟨h.1.trans (hb.mono h.1.size), h.2.1.below hb h.2.1.lt, h.2.2.below hb h.2.2.lt⟩
    refine ⟨SafeOpW.of (fun _ => trivial) fun W hI => safe_loadRow (n := 169) Tryz.underlying82 rfl size82 O 0 (fun v hv => hv) (by omega) (fun W' hW => by subst hW; exact hI.2.2) fun cs hcs => ⟨cs, rfl, by simpa using hcs⟩,
      safeW_call1 (fun _ v => v = .int .i64 4) (fun W _ => rfl) call53 (fun a W hI h => by subst h; exact (lSmall_any 4 W).mono fun e w' ⟨⟨c, h1, h2⟩, hb⟩ => ⟨_, h1, trivial, hI' _ _ hI hb, fun d hd => by cases hd; exact ⟨c, rfl, h2⟩⟩),
      safeW_call1 (fun _ v => v = .int .i64 5) (fun W _ => rfl) call53 (fun a W hI h => by subst h; exact (lSmall_any 5 W).mono fun e w' ⟨⟨c, h1, h2⟩, hb⟩ => ⟨_, h1, trivial, hI' _ _ hI hb, fun d hd => by cases hd; exact ⟨c, rfl, h2⟩⟩),
      safeW_call1 (fun _ v => IsF v) (fun W v _ hv => hv) call54 (fun a W hI ⟨ca, e, ha⟩ => by subst e; exact (lOver_any ca W ha).mono fun e w' ⟨⟨c, h1, h2⟩, hb⟩ => ⟨_, h1, trivial, hI' _ _ hI hb, fun d hd => by cases hd; exact ⟨c, rfl, h2⟩⟩),
      safeW_call2 (fun _ v => IsF v) (fun _ v => IsF v) (fun W v _ hv => hv) (fun W v _ hv => hv) call51 (fun a b W hI ⟨ca, e, ha⟩ ⟨cb, e', hb'⟩ => by subst e e'; exact (lTimes_any ca cb W ha hb').mono fun e w' ⟨⟨c, h1, h2⟩, hb⟩ => ⟨_, h1, trivial, hI' _ _ hI hb, fun d hd => by cases hd; exact ⟨c, rfl, h2⟩⟩),
      safeW_call1 (fun _ v => IsF v) (fun W v _ hv => hv) call57 (fun a W hI ⟨ca, e, ha⟩ => by subst e; exact (lPacked_any ca W ha).mono fun e w' ⟨⟨s, h1, h2⟩, hb⟩ => ⟨_, h1, trivial, hI' _ _ hI hb, fun d hd => by cases hd; exact ⟨s, rfl, h2⟩⟩),
      safeW_call2 (fun _ v => ∃ cs, v = .agg cs ∧ Cells curveP 169 cs) (fun _ v => IsStr 32 v) (fun W v _ hv => hv) (fun W v _ hv => hv) call56 (fun a b W hI ⟨ca, e, ha⟩ ⟨s, e', hs⟩ => by subst e e'; exact (found_any ca s W ha hs).mono fun e w' ⟨⟨c, b, h1, h2⟩, hb⟩ => ⟨_, h1, trivial, hI' _ _ hI hb, fun d hd => by cases hd; exact ⟨c, b, rfl, h2⟩⟩),
      safeW_move (fun _ => trivial) (fun W v _ hv => hv),
      safeW_extract (fun _ => trivial) (fun _ v => ∃ (c : Array Value) (b : Bool), v = .tuple #[.agg c, .bool b] ∧ Ints .i64 64 c) (fun W v _ hv => hv) (fun W v hI ⟨c, b, e, hc⟩ => ⟨_, _, e, rfl, c, rfl, hc⟩),
      safeW_extract (fun _ => trivial) (fun _ v => ∃ (c : Array Value) (b : Bool), v = .tuple #[.agg c, .bool b] ∧ Ints .i64 64 c) (fun W v _ hv => hv) (fun W v hI ⟨c, b, e, hc⟩ => ⟨_, _, e, rfl, trivial⟩),
      SafeOpW.of (fun _ => trivial) fun W hI => safe_fieldAddr Tryz.underlying82 rfl size75 (by decide) O 0 (fun v hv => hv) rfl,
      safeW_storeRow (n := 169) (Pq := fun _ => IsInt .i64) size75 O 16 (fun W v _ hv => hv) (fun W v _ hv => hv) (fun _ _ => IsInt.one) (by omega) (fun W hI => hI.2.2) (fun W cs hI hcs => ⟨trivial, below_setCells hBO _ _ hI.1, hI.2.1.setCellsOther hne _ _, hI.2.2.setCells _ _ fun j v hv hj => ?_⟩), trivial⟩
    have hj64 : j < 64 := by
      have := (List.getElem?_eq_some_iff.1 hv).1
      have h2 := hcs.1
      simp at this
      omega
    unfold curveP
    rw [if_pos (by omega)]
    exact hcs.list j v hv
  case hQ =>
    rintro f w1 ⟨hb, h0, h1⟩ hT
    simp only [putAll, List.setIfInBounds_toArray, List.set_cons_zero, List.set_cons_succ]
    go_wp2_with fail
    refine (LDecimal_any _ _ (by decide)).mono ?_
    rintro e w2 ⟨⟨v1, zs, rfl, hz, hzl⟩, hb1⟩
    have hbn := (bigNum w1).below hb1 (Nat.le_refl _)
    replace h0 := (h0.alloc _).below hb1 (h0.alloc _).lt
    replace h1 := (h1.alloc _).below hb1 (h1.alloc _).lt
    replace hb := (hb.alloc hb.size _).trans (hb1.mono (by have := hb.size; simp; omega))
    clear hb1
    go_wp2_with fail
    refine (LSum_any _ _ _ _ _ hbn hz (by simp) (by omega)).mono ?_
    rintro e w3 ⟨⟨v2, ys, rfl, hy, hyl⟩, hb1⟩
    replace h0 := h0.below hb1 h0.lt
    replace h1 := h1.below hb1 h1.lt
    replace hb := hb.trans (hb1.mono hb.size)
    clear hb1 hbn hz
    obtain ⟨ay, cy, rfl⟩ := hy.len
    obtain ⟨v80, hv80, _⟩ := h1.get (i := 80) (by omega)
    have hf80 := h1.free 80
    go_upto_region 4 with (fail)
    replace h1 := h1.set (i := 80) (v := .slice ay ys.length cy) fun _ => ⟨ay, ys.length, cy, rfl⟩
    replace h0 := h0.setOther (a := ⟨O, 80, none⟩) hne (.slice ay ys.length cy)
    replace hb : Below w.heap.size w (w3.setCell ⟨O, 80, none⟩ (.slice ay ys.length cy)) := hb.setCell hBO _
    clear hv80 hf80 hy
    generalize w3.setCell ⟨O, 80, none⟩ (.slice ay ys.length cy) = wz at h0 h1 hb ⊢
    obtain ⟨cz, hcz, hlz⟩ := h1.load 0 169 (by omega) Tryz.underlying82 rfl size82
    replace hcz : Cells curveP 169 cz := hcz.imp fun i v _ hv => by simpa using hv
    have hst := h0.store 0 169 (by omega) hcz curveP_one size82 wz rfl
    go_wp2
    exact ret_Row Tryz.results40 w.heap.size rfl (h0.setCells (Pp := curveP) cz.toList 0 fun j v hv _ => by simpa using hcz.list j v hv) _ Tryz.underlying82 rfl size82 rfl fun cs2 hcs2 => ⟨⟨cs2, rfl, hcs2⟩, below_setCells (Nat.le_refl _) _ _ hb⟩
set_option maxHeartbeats 1000000 in
set_option maxRecDepth 100000 in
theorem secret_any (cs : Array Value) (s : ByteArray) (w : World) (h : Cells curveP 169 cs) (hs : s.size = 32) :
    Calls Tryz.prog 41 #[.agg cs, .string s] w fun e w' => (∃ a b : ByteArray, e = .returned (.tuple #[.string a, .string b]) ∧ a.size = 32) ∧ Below w.heap.size w w' := by
  have h0 := Row.new h w 82
  have hb := below_one w (.cells cs 82)
  obtain ⟨ck, hck, hlk⟩ := h0.load 81 88 (by omega) Tryz.underlying80 rfl size80
  replace hck : Ints .u64 88 ck := hck.imp fun i v hi hv => by
    unfold curveP at hv
    rw [if_neg (by omega), if_neg (by omega)] at hv
    exact hv
  go_enter Tryz.func41, Tryz.ntmps41
  go_wp2_with fail
  refine (sum_any _ _ _ hck hs).mono ?_
  rintro e w1 ⟨⟨t, rfl, ht⟩, hb1⟩
  replace hb := hb.trans (hb1.mono hb.size)
  clear hb1 h0 hlk
  have kb := fun W => Lib.run_convert_string_bytes (P := Tryz.prog) W 9 22 5 t Tryz.underlying9 Tryz.underlying22 Tryz.underlying5
  go_upto_region 2 with (fail)
  have hm := MRow.ofBytes w1 t
  have hB := hb.size
  replace hb := below_bytes hb hb.size t
  have hcp := grownCap_ge w1 64 0 5
  clear kb
  rw [ht] at hm
  generalize grownCap w1 64 0 5 = cp at hcp ⊢
  obtain ⟨B, hBe⟩ : ∃ B, B = w1.heap.size := ⟨_, rfl⟩
  generalize Lib.bytesWorld w1 5 t = wz at hm hb ⊢
  rw [← hBe] at hm hB ⊢
  clear hBe
  obtain ⟨x0, hx0⟩ := hm.int (i := 0) (by omega)
  have hf0 := hm.free (i := 0) (by omega)
  go_upto_region 3 with (fail)
  replace hm := hm.set 0 (bits BinOp.and IntKind.u8 x0 248)
  replace hb : Below w.heap.size w (wz.setCell ⟨B, 0, none⟩ (.int .u8 (bits BinOp.and IntKind.u8 x0 248))) := hb.setCell hB _
  clear hx0 hf0
  generalize wz.setCell ⟨B, 0, none⟩ (.int .u8 (bits BinOp.and IntKind.u8 x0 248)) = wy at hm hb ⊢
  obtain ⟨x1, hx1⟩ := hm.int (i := 31) (by omega)
  have hf1 := hm.free (i := 31) (by omega)
  go_upto_region 4 with (fail)
  generalize hxx : (bits BinOp.or IntKind.u8 (bits BinOp.and IntKind.u8 x1 127) 64) = xx
  replace hm := hm.set 31 xx
  replace hb : Below w.heap.size w (wy.setCell ⟨B, 31, none⟩ (.int .u8 xx)) := hb.setCell hB _
  clear hx1 hf1 hxx
  generalize wy.setCell ⟨B, 31, none⟩ (.int .u8 xx) = wx at hm hb ⊢
  obtain ⟨ta, hta, hca⟩ := hm.text (P := Tryz.prog) (dst := 9) Tryz.underlying22 Tryz.underlying5 Tryz.underlying9 0 32 cp (by omega)
  obtain ⟨tb, htb, hcb⟩ := hm.text (P := Tryz.prog) (dst := 9) Tryz.underlying22 Tryz.underlying5 Tryz.underlying9 32 32 (cp - 32) (by omega)
  have hca' := fun k => hca (wx.drewN k) rfl
  have hcb' := fun k => hcb (wx.drewN k) rfl
  clear hca hcb
  have hcp1 : (32 : Int) ≤ (cp : Int) := by omega
  have hcp2 : 32 ≤ cp := by omega
  go_quiet (fail)
  go_wp2
  go_ret2
  exact ⟨⟨ta, tb, rfl, hta⟩, hb.trans ⟨rfl, rfl, rfl, Nat.le_refl _, fun _ _ => rfl⟩⟩
set_option maxHeartbeats 1000000 in
set_option maxRecDepth 100000 in
theorem LPublic_any (s : ByteArray) (w : World) (hs : s.size = 32) :
    Calls Tryz.prog 23 #[.string s] w fun e w' => (∃ t : ByteArray, e = .returned (.string t) ∧ t.size = 32) ∧ Below w.heap.size w w' := by
  go_enter Tryz.func23, Tryz.ntmps23
  go_wp2_with fail
  refine (lMade_any _).mono ?_
  rintro e w1 ⟨⟨c1, rfl, hc1⟩, hb⟩
  have h1 := Row.new curve_zero w1 82
  have hst := h1.store 0 169 (by omega) hc1 curveP_one size82 (w1.alloc (.cells Tryz.zeroCells82 82)) rfl
  go_upto_region 2 with (fail)
  replace h1 := h1.setCells (Pp := curveP) c1.toList 0 fun j v hv _ => by simpa using hc1.list j v hv
  have hB := hb.size
  replace hb := below_setCells hB c1.toList 0 (hb.alloc hb.size (.cells Tryz.zeroCells82 82))
  obtain ⟨O, hO⟩ : ∃ O, O = w1.heap.size := ⟨_, rfl⟩
  generalize (w1.alloc (.cells Tryz.zeroCells82 82)).setCells w1.heap.size 0 c1.toList = wy at h1 hb ⊢
  rw [← hO] at h1 hB ⊢
  clear hO hst
  obtain ⟨ca, hca, hla⟩ := h1.load 0 169 (by omega) Tryz.underlying82 rfl size82
  replace hca : Cells curveP 169 ca := hca.imp fun i v _ hv => by simpa using hv
  go_wp2_with fail
  refine (secret_any _ _ _ hca hs).mono ?_
  rintro e w2 ⟨⟨a, b, rfl, ha⟩, hb1⟩
  replace h1 := h1.below hb1 h1.lt
  replace hb := hb.trans (hb1.mono hb.size)
  clear hla hb1
  obtain ⟨cb, hcb, hlb⟩ := h1.load 0 169 (by omega) Tryz.underlying82 rfl size82
  replace hcb : Cells curveP 169 cb := hcb.imp fun i v _ hv => by simpa using hv
  obtain ⟨cf, hcf, hlf⟩ := h1.load 16 64 (by omega) Tryz.underlying75 rfl size75
  replace hcf : Ints .i64 64 cf := hcf.imp fun i v hi hv => by
    unfold curveP at hv
    rw [if_pos (by omega)] at hv
    exact hv
  go_wp2_with fail
  refine (many_any _ _ _ _ hcb hcf ha).mono ?_
  rintro e w3 ⟨⟨c3, rfl, hc3⟩, hb1⟩
  replace hb := hb.trans (hb1.mono hb.size)
  clear hlb hlf hb1
  go_wp2_with fail
  refine (lShown_any _ _ hc3).mono ?_
  rintro e w4 ⟨⟨t, rfl, ht⟩, hb1⟩
  replace hb := hb.trans (hb1.mono hb.size)
  go_wp2
  go_ret
  exact ⟨⟨t, rfl, ht⟩, hb⟩
end Go.Proofs.YtcebfkhfnjbfjaaGreatDoor
