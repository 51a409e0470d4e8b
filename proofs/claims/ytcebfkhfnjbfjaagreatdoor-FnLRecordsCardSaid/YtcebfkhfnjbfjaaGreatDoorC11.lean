/- Contract of shape of the SHA-512 of a short text. -/
import Derived.Test.YtcebfkhfnjbfjaaGreatDoorC10
namespace Go.Proofs.YtcebfkhfnjbfjaaGreatDoor
open Go.RowKit
set_option linter.unusedVariables false
set_option linter.unusedSimpArgs false
theorem lBent_any (x n : Int) (h0 : 0 ≤ n) (h1 : n ≤ 64) (w : World) :
    Calls Tryz.prog 79 #[.int .u64 x, .int .i64 n] w fun e w' => (∃ y, e = .returned (.int .u64 y)) ∧ w'.heap = w.heap ∧ Below w.heap.size w w' := by
  have e1 : IntKind.i64.wrap (64 - n) = 64 - n := IntWalk.i64_in _ (by omega)
  have d1 : decide (n < 0) = false := by simp; omega
  have d2 : decide (64 - n < 0) = false := by simp; omega
  have d3 : decide (0 ≤ n) = true := by simp; omega
  have d4 : decide (0 ≤ 64 - n) = true := by simp; omega
  go_enter Tryz.func79, Tryz.ntmps79
  go_wp2
  refine wp_region_typed (by kernel_rfl) (fun u v => match u with | 0 => v = .int .u64 x | 1 => v = .int .i64 n | 5 => IsInt .u64 v | 6 => v = .int .i64 n | 7 => IsInt .u64 v | 8 => IsInt .u64 v | 9 => v = .int .i64 n | 10 => v = .int .i64 (64 - n) | 11 => IsInt .u64 v | 12 => IsInt .u64 v | 4 => IsInt .u64 v | _ => True)
    (fun W => W.heap = w.heap ∧ Below w.heap.size w W) (by kernel_rfl) [5, 6, 7, 8, 9, 10, 11, 12, 4] (by kernel_rfl) [0, 1, 0, 1] (by kernel_rfl) ?h0 ⟨rfl, ⟨rfl, rfl, rfl, Nat.le_refl _, fun _ _ => rfl⟩⟩ ?hs ?hQ
  case h0 => simp
  case hs => exact ⟨safe_move fun d hd => by cases hd; exact fun v hv => ⟨x, hv⟩, safe_move fun d hd => by cases hd; exact fun v hv => hv,
    safe_shift (k := .u64) (.inr rfl) n h0 (fun v hv => hv) (fun v hv => hv) (fun v hv => hv),
    safe_move fun d hd => by cases hd; exact fun v hv => ⟨x, hv⟩, safe_move fun d hd => by cases hd; exact fun v hv => hv,
    safe_sub 64 n rfl (fun v hv => hv) (congrArg (Value.int .i64) e1),
    safe_shift (k := .u64) (.inl rfl) (64 - n) (by omega) (fun v hv => hv) (fun v hv => hv) (fun v hv => hv),
    safe_arith (k := .u64) (by simp) (fun v hv => hv) (fun v hv => hv) (fun v hv => hv),
    safe_assign fun d hd => by cases hd; exact fun v hv => hv, trivial⟩
  case hQ =>
    rintro f w1 hI hT
    obtain ⟨y, hy⟩ : IsInt .u64 (f 4) := hT 4 (by simp)
    simp only [putAll, List.setIfInBounds_toArray, List.set_cons_zero, List.set_cons_succ, hy]
    go_wp2
    go_ret
    exact ⟨⟨_, rfl⟩, hI⟩
abbrev z8a : Array Value := #[.int .u64 0, .int .u64 0, .int .u64 0, .int .u64 0, .int .u64 0, .int .u64 0, .int .u64 0, .int .u64 0]
theorem z8a_ints : Ints .u64 8 z8a := ints_of_arr (by decide) (by decide)
theorem z80_ints : Ints .u64 80 Tryz.zeroCells78 := ints_of_arr (by kernel_rfl) (by kernel_rfl)
theorem size76 : (Tryz.prog.info? 76).map (·.size) = some 1 := by kernel_rfl
theorem size77 : (Tryz.prog.info? 77).map (·.size) = some 8 := by kernel_rfl
theorem size78 : (Tryz.prog.info? 78).map (·.size) = some 80 := by kernel_rfl
theorem size80 : (Tryz.prog.info? 80).map (·.size) = some 88 := by kernel_rfl
theorem call79 (args : Array Value) (W : World) : Sem.run Tryz.prog (callFunc 79 args) W = .ok (.enter 79 args) W := run_callGo (fn := Tryz.f79) (by kernel_rfl) (by kernel_rfl) (by kernel_rfl) args W
theorem zero77 (W : World) : ∃ z : Value, Ints .u64 8 z.cells ∧ ∀ W, Sem.run Tryz.prog (zeroValue 77) W = .ok z W :=
  ⟨.agg #[.int .u64 0, .int .u64 0, .int .u64 0, .int .u64 0, .int .u64 0, .int .u64 0, .int .u64 0, .int .u64 0], ints_of_arr (by decide) (by decide), fun W => by kernel_rfl⟩
theorem zero78 : ∃ z : Value, Ints .u64 80 z.cells ∧ ∀ W, Sem.run Tryz.prog (zeroValue 78) W = .ok z W :=
  ⟨.agg Tryz.zeroCells78, ints_of_arr (by kernel_rfl) (by kernel_rfl), fun W => by kernel_rfl⟩
abbrev l8 (a b c d e f g h : Int) : List Value := [.int .u64 a, .int .u64 b, .int .u64 c, .int .u64 d, .int .u64 e, .int .u64 f, .int .u64 g, .int .u64 h]
theorem l8_ints (a b c d e f g h : Int) : Ints .u64 8 (l8 a b c d e f g h).toArray := ints_of_list (by simp [allInt]) rfl
theorem build77 (a b c d e f g h : Int) (W : World) : Sem.run Tryz.prog (buildA 77 #[(0, .int .u64 a), (1, .int .u64 b), (2, .int .u64 c), (3, .int .u64 d), (4, .int .u64 e), (5, .int .u64 f), (6, .int .u64 g), (7, .int .u64 h)]) W = .ok (.agg #[.int .u64 a, .int .u64 b, .int .u64 c, .int .u64 d, .int .u64 e, .int .u64 f, .int .u64 g, .int .u64 h]) W := by kernel_rfl
section
variable {T : Tmp → Value → Prop} {I : World → Prop}
theorem safe_bent {d x : Tmp} {ats : Array TypeId} {t : TypeId} {ps : String} {af : Array Edge} {gd : Option (Nat × Bool)} (c : Int) (h0 : 0 ≤ c) (h1 : c ≤ 64) (hx : ∀ v, T x v → IsInt .u64 v) (h : ∀ v, IsInt .u64 v → T d v) (hI' : ∀ W W', I W → W'.heap = W.heap → Below W.heap.size W W' → I W') :
    SafeOp Tryz.prog T I { dst := some d, op := .call { callee := .value (.func 79), args := #[.tmp x, .const (.int .i64 c)], argTypes := ats }, type := t, pos := ps, after := af, guard := gd } :=
  safe_call2 (IsInt .u64) (· = .int .i64 c) hx rfl call79 fun a b W hI ha hb => by
    obtain ⟨y, rfl⟩ := ha
    subst hb
    exact (lBent_any y c h0 h1 W).mono fun e w' ⟨⟨z, hz⟩, hw, hb⟩ => ⟨_, hz, hI' W w' hI hw hb, fun d' hd => by cases hd; exact h _ ⟨z, rfl⟩⟩
theorem safe_unxor {P : Program} {d : Tmp} {x : Operand} {tx t : TypeId} {ps : String} {af : Array Edge} {gd : Option (Nat × Bool)} {k : IntKind} (hx : Opd T x (IsInt k)) (h : ∀ v, IsInt k v → T d v) :
    SafeOp P T I { dst := some d, op := .unOp .xor tx x, type := t, pos := ps, after := af, guard := gd } := by
  intro ρ w hI hT hc hf
  obtain ⟨b, hb⟩ := hx.at_ (l := #[x]) (by simp) hT hc
  have e : ∃ c, Sem.run P (execOp ρ { dst := some d, op := .unOp .xor tx x, type := t, pos := ps, after := af, guard := gd }) w = .ok (.value (.int k c)) w := by
    simp [execOp, hb, Op.unary, Op.intBits]
  obtain ⟨c, e⟩ := e
  rw [e]
  exact ⟨hI, fun d' hd => by cases hd; exact h _ ⟨_, rfl⟩⟩
/-- A new variable, under a name of one's own. -/
theorem safeG_allocK {P : Program} {T : Tmp → List Nat → Value → Prop} {I : List Nat → World → Prop} {d : Tmp} {E t : TypeId} {ps : String} {af : Array Edge} {gd : Option (Nat × Bool)} (z : Value)
    (hz : ∀ W, Sem.run P (zeroValue E) W = .ok z W) (f : Nat → Nat) (h : ∀ G W, I G W → I (f W.heap.size :: G) (W.alloc (.cells z.cells E)) ∧ T d (f W.heap.size :: G) (.pointer (some ⟨W.heap.size, 0, none⟩))) :
    SafeOpG P T I { dst := some d, op := .alloc E, type := t, pos := ps, after := af, guard := gd } := by
  intro G ρ w hI hT hc hf
  obtain ⟨h1, h2⟩ := h G w hI
  have e : Sem.run P (execOp ρ { dst := some d, op := .alloc E, type := t, pos := ps, after := af, guard := gd }) w = .ok (.value (.pointer (some ⟨w.heap.size, 0, none⟩))) (w.alloc (.cells z.cells E)) := by
    simp [execOp, Instr.alloc, Sem.run_bind, hz, newVar, newRow, newObj, Sem.run]
  rw [e]
  exact ⟨[f w.heap.size], h1, fun d' hd => by cases hd; exact h2⟩
/-- A whole value into a row whose block is told by a word of the region. -/
theorem safe_storeRowEx {P : Program} {x y : Operand} {ty t : TypeId} {ps : String} {af : Array Edge} {gd : Option (Nat × Bool)} {Pp Pq : Nat → Value → Prop} {n E : Nat} (hi : (P.info? ty).map (·.size) = some n) (p : Nat → Prop)
    (hx : Opd T x fun v => ∃ g, p g ∧ v = .pointer (some ⟨g, 0, none⟩)) (hy : Opd T y fun v => ∃ cs, v = .agg cs ∧ Cells Pq n cs) (h1 : ∀ i v, Pq i v → v.oneCell' = true) (hr : ∀ W g, I W → p g → Row Pp n E g W)
    (h : ∀ W g cs, I W → p g → Cells Pq n cs → I (W.setCells g 0 cs.toList)) :
    SafeOp P T I { dst := none, op := .store ty x y, type := t, pos := ps, after := af, guard := gd } :=
  safe_store _ _ hx hy fun u v W hI hu' hv => by
    obtain ⟨cs, rfl, hc⟩ := hv
    obtain ⟨g, hg, rfl⟩ := hu'
    exact ⟨_, (hr W g hI hg).store 0 n (by omega) hc h1 hi W rfl, h W g cs hI hg hc, fun d' hd => by cases hd⟩
end
theorem Own.neRow {base E : Nat} {v : Value} {xs : List Value} {w : World} {P : Nat → Value → Prop} {m E' b' : Nat} (h : Own base E v xs w) (h' : Row P m E' b' w) (hE : E ≠ E') : v.ownBlock ≠ some b' := by
  intro e
  rcases h with ⟨rfl, _⟩ | ⟨g, cap, cs, fr, rfl, hb, hg, _⟩
  · simp [Value.ownBlock] at e
  · simp [Value.ownBlock] at e
    subst e
    obtain ⟨cs', h1', _⟩ := h'
    rw [hg] at h1'
    injection h1' with h1'
    injection h1' with _ h2
    exact hE h2
theorem safe_loadOwn {P : Program} {T : Tmp → Value → Prop} {I : World → Prop} {d : Tmp} {x : Operand} {ty t : TypeId} {ps : String} {af : Array Edge} {gd : Option (Nat × Bool)} {base E : Nat} {xs : List Value} {k k' : IntKind} (hu : P.underlying ty = some (.int k')) (g n cap o : Nat) (hx : Opd T x (· = .pointer (some ⟨g, o, none⟩))) (hon : o < xs.length) (hby : ∀ u ∈ xs, IsInt k u)
    (hr : ∀ W, I W → Own base E (.slice (some ⟨g, 0, none⟩) n cap) xs W) (h : ∀ v, IsInt k v → T d v) :
    SafeOp P T I { dst := some d, op := .load ty x, type := t, pos := ps, after := af, guard := gd } :=
  safe_load _ hx fun u W hI hu' => by
    subst hu'
    obtain ⟨g', cap', e, hc, _⟩ := (hr W hI).get o _ (List.getElem?_eq_getElem hon)
    simp only [Value.slice.injEq, Option.some.injEq, Addr.mk.injEq] at e
    obtain ⟨⟨rfl, _⟩, _, _⟩ := e
    exact ⟨_, run_load_one W _ _ hc (isAgg_int hu W), fun d' hd => by cases hd; exact h _ (hby _ (List.getElem_mem hon))⟩
theorem Own.textAny {P : Program} {base : Nat} {v : Value} {xs : List Value} {w : World} {src dst : TypeId} (h : Own base 5 v xs w) (hby : ∀ u ∈ xs, IsInt .u8 u) (hs : P.underlying src = some (.slice 5)) (he : P.underlying 5 = some (.int .u8)) (hd : P.underlying dst = some .string) (h0 : xs ≠ []) :
    ∃ s : ByteArray, s.size = xs.length ∧ ∀ W : World, W.heap = w.heap → Sem.run P (convert src dst v) W = .ok (.string s) W := by
  obtain ⟨a, cap, rfl⟩ := h.len
  cases a with
  | none =>
    rcases h with ⟨_, rfl⟩ | ⟨g, cap, _, _, e, _⟩
    · exact absurd rfl h0
    · simp at e
  | some a =>
    have hc := h.cells rfl
    rcases h with ⟨e, _⟩ | ⟨g, cap, cs, fr, e, hb, hg, h1, h2, h3, h4, h5⟩
    · simp at e
    simp only [Value.slice.injEq, Option.some.injEq] at e
    obtain ⟨rfl, _, rfl⟩ := e
    refine ⟨strOfNums (xs.map intOf), by rw [strOfNums_size]; simp, fun W hW => ?_⟩
    refine run_convert_bytes_arg W src 5 hs he g 0 xs.length cap (xs.map intOf) (by simp) (fun i hi => ?_) dst hd
    have hi' : i < xs.length := by simpa using hi
    have hce : W.cell? ⟨g, 0 + i, none⟩ = w.cell? ⟨g, i, none⟩ := by simp only [World.cell?, hW, Nat.zero_add]
    have h6 := hc.2 i _ (List.getElem?_eq_getElem hi')
    have hadd : (⟨g, 0, none⟩ : Addr).add i = ⟨g, i, none⟩ := by unfold Addr.add; split <;> simp_all
    rw [hadd] at h6
    rw [hce, h6]
    obtain ⟨x, hx⟩ := hby _ (List.getElem_mem hi')
    simp [List.getD_eq_getElem?_getD, List.getElem?_eq_getElem hi', hx, intOf]
structure SInv (w : World) (H K : Nat) (bv : Value) (xs : List Value) (W : World) : Prop where
  below : Below w.heap.size w W
  h : IRow .u64 8 77 H W
  k : IRow .u64 80 78 K W
  own : Own w.heap.size 5 bv xs W
theorem SInv.drew {w : World} {H K : Nat} {bv : Value} {xs : List Value} {W : World} (h : SInv w H K bv xs W) : SInv w H K bv xs W.drew :=
  ⟨h.below.trans ⟨rfl, rfl, rfl, Nat.le_refl _, fun _ _ => rfl⟩, h.h.drew, h.k.drew, h.own.drew⟩
theorem SInv.heap {w : World} {H K : Nat} {bv : Value} {xs : List Value} {W W' : World} (h : SInv w H K bv xs W) (e : W'.heap = W.heap) (hb : Below W.heap.size W W') : SInv w H K bv xs W' :=
  ⟨h.below.trans (hb.mono h.below.size), h.h.heap e, h.k.heap e, h.own.heap e⟩
theorem SInv.alloc {w : World} {H K : Nat} {bv : Value} {xs : List Value} {W : World} (h : SInv w H K bv xs W) (o : Obj) : SInv w H K bv xs (W.alloc o) :=
  ⟨h.below.alloc h.below.size o, h.h.alloc o, h.k.alloc o, h.own.alloc o⟩
theorem SInv.setX {w : World} {H K X i : Nat} {bv : Value} {xs : List Value} {W : World} {u : Value} {n : Nat} (h : SInv w H K bv xs W) (hx : IRow .u64 n 78 X W) (hKX : K ≠ X) (hBX : w.heap.size ≤ X) : SInv w H K bv xs (W.setCell ⟨X, i, none⟩ u) :=
  ⟨h.below.setCell hBX _, h.h.setOther (h.h.ne hx (by decide)) _, h.k.setOther hKX _, h.own.setOther (h.own.neRow hx (by decide)) _⟩
theorem SInv.setY {w : World} {H K Y i : Nat} {bv : Value} {xs : List Value} {W : World} {cs : List Value} {n : Nat} (h : SInv w H K bv xs W) (hy : IRow .u64 n 77 Y W) (hHY : H ≠ Y) (hBY : w.heap.size ≤ Y) : SInv w H K bv xs (W.setCells Y i cs) :=
  ⟨below_setCells hBY _ _ h.below, h.h.setCellsOther hHY _ _, h.k.setCellsOther (h.k.ne hy (by decide)) _ _, h.own.grown (grownBy_setCells Y _ _ _) (.inr (h.own.neRow hy (by decide)))⟩
theorem SInv.setH {w : World} {H K : Nat} {bv : Value} {xs : List Value} {W : World} (h : SInv w H K bv xs W) (j : Nat) (z : Int) (hBH : w.heap.size ≤ H) : SInv w H K bv xs (W.setCell ⟨H, j, none⟩ (.int .u64 z)) :=
  ⟨h.below.setCell hBH _, h.h.set fun _ => ⟨z, rfl⟩, h.k.setOther (h.k.ne h.h (by decide)) _, h.own.setOther (h.own.neRow h.h (by decide)) _⟩
theorem SInv.grown {w : World} {H K : Nat} {bv bv' : Value} {xs xs' : List Value} {W W' : World} (h : SInv w H K bv xs W) (ho : Own w.heap.size 5 bv' xs' W') (hg : W.grownBy W' bv.ownBlock) : SInv w H K bv' xs' W' :=
  ⟨h.own.belowGrown h.below hg (Nat.le_refl _) h.below.size, h.h.grown hg (fun e => h.own.neRow h.h (by decide) e.symm), h.k.grown hg (fun e => h.own.neRow h.k (by decide) e.symm), ho⟩
set_option maxHeartbeats 4000000 in
set_option maxRecDepth 100000 in
theorem sum_any (cs : Array Value) (s : ByteArray) (w : World) (h : Ints .u64 88 cs) (hs : s.size = 32) :
    Calls Tryz.prog 60 #[.agg cs, .string s] w fun e w' => (∃ t : ByteArray, e = .returned (.string t) ∧ t.size = 64) ∧ Below w.heap.size w w' := by
  have h1 := Row.new h w 80
  have hb : Below w.heap.size w (w.alloc (.cells cs 80)) := (Below.refl _ _).alloc (by simp <;> omega) _
  obtain ⟨z7, hz7, hz7'⟩ := zero77 w
  obtain ⟨z8, hz8, hz8'⟩ := zero78
  go_enter Tryz.func60, Tryz.ntmps60
  go_wp2
  refine wp_region_typedG (by kernel_rfl) (fun u G v => match u with | 2 => v = .pointer (some ⟨w.heap.size, 0, none⟩) | 26 => v = .pointer (some ⟨w.heap.size, 0, none⟩) | 28 => v = .pointer (some ⟨w.heap.size, 8, none⟩) | 27 => ∃ cs, v = .agg cs ∧ Ints .u64 8 cs | 29 => ∃ cs, v = .agg cs ∧ Ints .u64 80 cs | 5 => ∃ g, 2 * g ∈ G ∧ v = .pointer (some ⟨g, 0, none⟩) | 6 => ∃ g, 2 * g + 1 ∈ G ∧ v = .pointer (some ⟨g, 0, none⟩) | _ => True)
    (fun G W => Below w.heap.size w W ∧ IRow .u64 88 80 w.heap.size W ∧ ∀ q ∈ G, w.heap.size ≤ q / 2 ∧ (if q % 2 = 0 then IRow .u64 8 77 (q / 2) W else IRow .u64 80 78 (q / 2) W)) ?hmono (by kernel_rfl) [26, 27, 28, 29, 5, 6] (by kernel_rfl) [2, 2] (by kernel_rfl) ?h0 ?hI ?hs ?hQ
  case hmono =>
    intro u G g v hv
    split at hv <;> first | exact hv | (obtain ⟨g', h1, h2⟩ := hv; exact ⟨g', List.mem_cons_of_mem _ h1, h2⟩)
  case h0 => simp
  case hI => exact ⟨hb.trans ⟨rfl, rfl, rfl, Nat.le_refl _, fun _ _ => rfl⟩, h1.drew, by simp⟩
  case hs =>
    refine ⟨SafeOpG.of fun G => safe_fieldAddr Tryz.underlying80 rfl size77 (by decide) (w.heap.size) 0 (fun v hv => hv) rfl,
      SafeOpG.of fun G => safe_loadRow (n := 88) Tryz.underlying77 rfl size77 (w.heap.size) 0 (fun v hv => hv) (by omega) (fun W hW => hW.2.1) fun cs hcs => ⟨cs, rfl, hcs⟩,
      SafeOpG.of fun G => safe_fieldAddr Tryz.underlying80 rfl size78 (by decide) (w.heap.size) 0 (fun v hv => hv) rfl,
      SafeOpG.of fun G => safe_loadRow (n := 88) Tryz.underlying78 rfl size78 (w.heap.size) 8 (fun v hv => hv) (by omega) (fun W hW => hW.2.1) fun cs hcs => ⟨cs, rfl, hcs⟩,
      safeG_allocK z7 hz7' (fun b => 2 * b) fun G W hW => ⟨⟨hW.1.alloc hW.1.size _, hW.2.1.alloc _, fun q hq => ?_⟩, ⟨_, List.mem_cons_self, rfl⟩⟩,
      safeG_allocK z8 hz8' (fun b => 2 * b + 1) fun G W hW => ⟨⟨hW.1.alloc hW.1.size _, hW.2.1.alloc _, fun q hq => ?_⟩, ⟨_, List.mem_cons_self, rfl⟩⟩,
      SafeOpG.of fun G => safe_storeRowEx size77 (fun g => 2 * g ∈ G) (fun v hv => hv) (fun v hv => hv) (fun _ _ => IsInt.one) (fun W g hW hg => by have := (hW.2.2 _ hg).2; simpa using this) (fun W g cs hW hg hc => ?_),
      SafeOpG.of fun G => safe_storeRowEx size78 (fun g => 2 * g + 1 ∈ G) (fun v hv => hv) (fun v hv => hv) (fun _ _ => IsInt.one) (fun W g hW hg => by have := (hW.2.2 _ hg).2; simpa [show (2 * g + 1) / 2 = g by omega] using this) (fun W g cs hW hg hc => ?_), trivial⟩
    · rcases List.mem_cons.1 hq with rfl | hq
      · rw [show 2 * W.heap.size / 2 = W.heap.size by omega, if_pos (by omega)]
        exact ⟨hW.1.size, Row.new hz7 W 77⟩
      · refine ⟨(hW.2.2 q hq).1, ?_⟩
        have := (hW.2.2 q hq).2
        split <;> rename_i hq2 <;> simp only [hq2, if_true, if_false] at this <;> exact this.alloc _
    · rcases List.mem_cons.1 hq with rfl | hq
      · rw [show (2 * W.heap.size + 1) / 2 = W.heap.size by omega, if_neg (by omega)]
        exact ⟨hW.1.size, Row.new hz8 W 78⟩
      · refine ⟨(hW.2.2 q hq).1, ?_⟩
        have := (hW.2.2 q hq).2
        split <;> rename_i hq2 <;> simp only [hq2, if_true, if_false] at this <;> exact this.alloc _
    · have hg0 := hW.2.2 _ hg
      rw [show 2 * g / 2 = g by omega, if_pos (by omega)] at hg0
      refine ⟨below_setCells hg0.1 _ _ hW.1, hW.2.1.setCellsOther (hW.2.1.ne hg0.2 (by decide)) _ _, fun q hq => ⟨(hW.2.2 q hq).1, ?_⟩⟩
      have := (hW.2.2 q hq).2
      split <;> rename_i hq2 <;> simp only [hq2, if_true, if_false] at this
      · by_cases e : q / 2 = g
        · rw [e]
          exact hg0.2.setCells _ _ fun j v hv _ => hc.list j v hv
        · exact this.setCellsOther e _ _
      · exact this.setCellsOther (this.ne hg0.2 (by decide)) _ _
    · have hg0 := hW.2.2 _ hg
      rw [show (2 * g + 1) / 2 = g by omega, if_neg (by omega)] at hg0
      refine ⟨below_setCells hg0.1 _ _ hW.1, hW.2.1.setCellsOther (hW.2.1.ne hg0.2 (by decide)) _ _, fun q hq => ⟨(hW.2.2 q hq).1, ?_⟩⟩
      have := (hW.2.2 q hq).2
      split <;> rename_i hq2 <;> simp only [hq2, if_true, if_false] at this
      · exact this.setCellsOther (this.ne hg0.2 (by decide)) _ _
      · by_cases e : q / 2 = g
        · rw [e]
          exact hg0.2.setCells _ _ fun j v hv _ => hc.list j v hv
        · exact this.setCellsOther e _ _
  case hQ =>
    rintro f wr G ⟨hb', h1', hG⟩ hT
    clear hz7 hz7' hz8 hz8' z7 z8
    obtain ⟨H, hH, e5⟩ : ∃ g, 2 * g ∈ G ∧ f 5 = .pointer (some ⟨g, 0, none⟩) := hT 5 (by simp)
    obtain ⟨K, hK, e6⟩ : ∃ g, 2 * g + 1 ∈ G ∧ f 6 = .pointer (some ⟨g, 0, none⟩) := hT 6 (by simp)
    have hh := hG _ hH
    have hk := hG _ hK
    rw [show 2 * H / 2 = H by omega, if_pos (by omega)] at hh
    rw [show (2 * K + 1) / 2 = K by omega, if_neg (by omega)] at hk
    simp only [putAll, List.setIfInBounds_toArray, List.set_cons_zero, List.set_cons_succ, e5, e6]
    have hBH := hh.1
    clear hT hG hH hK h1' h1 hb e5 e6
    generalize f 26 = v26; generalize f 27 = v27; generalize f 28 = v28; generalize f 29 = v29
    clear f G
    have kb := fun W => Lib.run_convert_string_bytes (P := Tryz.prog) W 9 22 5 s Tryz.underlying9 Tryz.underlying22 Tryz.underlying5
    have h0 : SInv w H K (.slice (some ⟨wr.heap.size, 0, none⟩) s.size (grownCap wr s.size 0 5)) (bytesVals s) (Lib.bytesWorld wr 5 s) :=
      ⟨below_bytes hb' hb'.size s, hh.2.grown (grownBy_bytes wr s none) (by simp), hk.2.grown (grownBy_bytes wr s none) (by simp), Own.ofBytes wr s _ hb'.size (by simp only [maxLen]; omega)⟩
    rw [hs] at h0
    have hl : (bytesVals s).length = 32 := by rw [bytesVals_length, hs]
    clear hb'
    go_wp2_with (at_builtin; go_loud (refine wpList_app rfl (.tmp 31) (.tmp 32) 22 22 rfl _ _ rfl rfl (app_byte _ _ h0.own (by omega) h0.below.size) ?_; intro v1 w1 ho1 hg1; replace h0 := (h0.alloc _).grown ho1 hg1))
    replace hl : (bytesVals s ++ [Value.int .u8 128]).length = 33 := by simp [hl]
    clear ho1 hg1 kb
    obtain ⟨xs, hxs⟩ : ∃ xs, xs = bytesVals s ++ [Value.int .u8 128] := ⟨_, rfl⟩
    rw [← hxs] at h0 hl
    clear hh hk
    have hby : ∀ u ∈ xs, IsInt .u8 u := by
      intro u hu
      rw [hxs, List.mem_append] at hu
      rcases hu with hu | hu
      · simp only [bytesVals, List.mem_map] at hu
        obtain ⟨b, _, rfl⟩ := hu
        exact ⟨_, rfl⟩
      · simp at hu
        exact ⟨_, hu⟩
    clear hxs
    go_loopw [7] (fun bv W => ∃ (n : Nat) (ys : List Value), ys.length = n ∧ 33 ≤ n ∧ n ≤ 112 ∧ (∀ u ∈ ys, IsInt .u8 u) ∧ SInv w H K bv ys W) (fun bv _ => match bv with | .slice _ n _ => 200 - n | _ => 0)
    case atStart => exact ⟨33, xs, hl, by omega, by omega, hby, h0⟩
    case round =>
      clear h0 hl hby
      obtain ⟨n, ys, hn, hy0, hy1, hby, h0⟩ := hrel
      obtain ⟨ba, bc, hbv⟩ := h0.own.len
      rw [hn] at hbv
      subst hbv
      by_cases hm2 : n = 112
      · subst hm2
        go_wp2_with (at_builtin; refine wpList_app rfl (.tmp 41) (.const (.int .i64 8)) 22 3 rfl _ _ rfl rfl (app_zeros _ 8 (by omega) h0.own (by omega) h0.below.size) ?_; intro v2 w2 ho1 hg1; replace h0 := h0.grown ho1 hg1)
        have hl : (ys ++ List.replicate 8 (Value.int .u8 0)).length = 120 := by simp [hn]
        replace hby : ∀ u ∈ ys ++ List.replicate 8 (Value.int .u8 0), IsInt .u8 u := by
          intro u hu
          rcases List.mem_append.1 hu with hu | hu
          · exact hby u hu
          · exact ⟨0, List.eq_of_mem_replicate hu⟩
        generalize ys ++ List.replicate 8 (Value.int .u8 0) = xs at h0 hl hby ho1
        clear ho1 hg1
        go_loopw [7, 8] (fun bv i W => ∃ (x : Int) (ys : List Value), i = .int .i64 x ∧ -1 ≤ x ∧ x ≤ 7 ∧ (ys.length : Int) = 127 - x ∧ (∀ u ∈ ys, IsInt .u8 u) ∧ SInv w H K bv ys W) (fun _ i _ => (intOf i + 1).toNat)
        case atStart => exact ⟨7, xs, rfl, by omega, by omega, by omega, hby, h0⟩
        case round =>
          clear h0 hl hby hn ys
          obtain ⟨x, ys, rfl, hx0, hx1, hn, hby, h0⟩ := hrel
          by_cases hxp : 0 ≤ x
          · obtain ⟨y, rfl⟩ : ∃ y : Nat, x = y := ⟨x.toNat, by omega⟩
            go_wp2_with (at_builtin; refine wpList_app rfl (.tmp 47) (.tmp 56) 22 22 rfl _ _ rfl rfl (app_byte _ _ h0.own (by omega) h0.below.size) ?_; intro v3 w3 ho2 hg2; replace h0 := (h0.alloc _).grown ho2 hg2)
            go_roundw
            case rel =>
              refine ⟨(y : Int) - 1, _, by go_num, by omega, by omega, by simp; omega, ?_, h0⟩
              intro u hu
              rcases List.mem_append.1 hu with hu | hu
              · exact hby u hu
              · exact ⟨_, by simpa using hu⟩
            case measure => simp [intOf] <;> omega
          · obtain rfl : x = -1 := by omega
            have hn2 : ys.length = 128 := by omega
            clear hn hx0 hx1 hxp
            obtain ⟨g, cap, e7, _, _⟩ := h0.own.get 0 _ (List.getElem?_eq_getElem (by omega))
            rw [hn2] at e7
            subst e7
            go_wp2
            go_loopw [9] (fun i W => ∃ a : Int, i = .int .i64 a ∧ (a = 0 ∨ a = 128) ∧ SInv w H K (.slice (some ⟨g, 0, none⟩) 128 cap) ys W) (fun i _ => (200 - intOf i).toNat)
            case atStart => exact ⟨0, rfl, .inl rfl, h0⟩
            case round =>
              clear h0
              obtain ⟨a, rfl, ha, h0⟩ := hrel
              rcases ha with rfl | rfl
              · rename_i wr
                go_wp2
                have hKlt := h0.k.lt
                have hBX0 := h0.below.size
                have hx := Row.new z80_ints wr 78
                replace h0 := h0.alloc (.cells Tryz.zeroCells78 78)
                obtain ⟨X, hX⟩ : ∃ X, X = wr.heap.size := ⟨_, rfl⟩
                generalize wr.alloc (.cells Tryz.zeroCells78 78) = wy at h0 hx ⊢
                rw [← hX] at hx ⊢
                have hKX : K ≠ X := by have := hKlt; omega
                have hBX : w.heap.size ≤ X := by omega
                clear hX hKlt hBX0
                go_wp2
                go_loopw [11] (fun i W => ∃ i' : Nat, i = .int .i64 i' ∧ i' ≤ 16 ∧ SInv w H K (.slice (some ⟨g, 0, none⟩) 128 cap) ys W ∧ IRow .u64 80 78 X W) (fun i _ => (16 - intOf i).toNat)
                case atStart => exact ⟨0, rfl, by omega, h0, hx⟩
                case round =>
                  clear h0 hx
                  obtain ⟨i, rfl, hi, h0, hx⟩ := hrel
                  by_cases hi2 : i < 16
                  · have hd : decide ((i : Int) < 16) = true := by simp; omega
                    go_wp2
                    go_loopw [12] (fun n W => ∃ n' : Nat, n = .int .i64 n' ∧ n' ≤ 8 ∧ SInv w H K (.slice (some ⟨g, 0, none⟩) 128 cap) ys W ∧ IRow .u64 80 78 X W) (fun n _ => (8 - intOf n).toNat)
                    case atStart => exact ⟨0, rfl, by omega, h0, hx⟩
                    case round =>
                      clear h0 hx
                      obtain ⟨n, rfl, hn, h0, hx⟩ := hrel
                      by_cases hn3 : n < 8
                      · have hd2 : decide ((n : Int) < 8) = true := by simp; omega
                        go_wp2
                        refine wp_region_typed (by kernel_rfl) (fun u v => match u with | 7 => v = .slice (some ⟨g, 0, none⟩) 128 cap | 9 => v = .int .i64 (0) | 10 => v = .pointer (some ⟨X, 0, none⟩) | 11 => v = .int .i64 ((i : Int)) | 12 => v = .int .i64 ((n : Int)) | 72 => v = .int .i64 ((i : Int)) | 73 => v = .int .i64 ((i : Int)) | 74 => v = .pointer (some ⟨X, ((i : Int)).toNat, none⟩) | 75 => IsInt .u64 v | 76 => IsInt .u64 v | 77 => v = .slice (some ⟨g, 0, none⟩) 128 cap | 78 => v = .int .i64 (0) | 79 => v = .int .i64 ((i : Int)) | 80 => v = .int .i64 ((8) * ((i : Int))) | 81 => v = .int .i64 ((0) + ((8) * ((i : Int)))) | 82 => v = .int .i64 ((n : Int)) | 83 => v = .int .i64 (((0) + ((8) * ((i : Int)))) + ((n : Int))) | 84 => v = .pointer (some ⟨g, ((0) + ((8) * ((i : Int))) + ((n : Int))).toNat, none⟩) | 85 => IsInt .u8 v | 86 => IsInt .u64 v | 87 => IsInt .u64 v | 88 => v = .pointer (some ⟨X, ((i : Int)).toNat, none⟩) | _ => True)
                          (fun W => SInv w H K (.slice (some ⟨g, 0, none⟩) 128 cap) ys W ∧ IRow .u64 80 78 X W) (by kernel_rfl) [72, 73, 74, 75, 76, 77, 78, 79, 80, 81, 82, 83, 84, 85, 86, 87, 88] (by kernel_rfl) [11, 11, 10, 7, 9, 11, 12, 10] (by kernel_rfl) ?h0 ⟨h0.drew, hx.drew⟩ ?hs ?hQ
                        case h0 => simp [IsInt]
                        case hs => exact ⟨safe_move fun d hd => by cases hd; exact fun v hv => hv,
                          safe_move fun d hd => by cases hd; exact fun v hv => hv,
                          safe_place Tryz.underlying78 size76 (X) 0 ((i : Int)) (fun v hv => hv) (fun v hv => hv) (by omega) (by omega) (by simp),
                          safe_loadInt (n := 80) Tryz.underlying76 (X) (((i : Int)).toNat) (fun v hv => hv) (by omega) (fun W hW => hW.2) (fun v hv => hv),
                          safe_shift (k := .u64) (.inl rfl) 8 (by omega) (fun v hv => hv) rfl (fun v hv => hv),
                          safe_move fun d hd => by cases hd; exact fun v hv => hv,
                          safe_move fun d hd => by cases hd; exact fun v hv => hv,
                          safe_move fun d hd => by cases hd; exact fun v hv => hv,
                          safe_mul (8) ((i : Int)) rfl (fun v hv => hv) (congrArg (Value.int .i64) (IntWalk.i64_in _ (by omega))),
                          safe_add (0) ((8) * ((i : Int))) (fun v hv => hv) (fun v hv => hv) (congrArg (Value.int .i64) (IntWalk.i64_in _ (by omega))),
                          safe_move fun d hd => by cases hd; exact fun v hv => hv,
                          safe_add ((0) + ((8) * ((i : Int)))) ((n : Int)) (fun v hv => hv) (fun v hv => hv) (congrArg (Value.int .i64) (IntWalk.i64_in _ (by omega))),
                          safe_placeSl Tryz.underlying22 size5 g 0 128 cap ((0) + ((8) * ((i : Int))) + ((n : Int))) (fun v hv => hv) (fun v hv => hv) (by omega) (by omega) (by simp),
                          safe_loadOwn Tryz.underlying5 g 128 cap ((0) + ((8) * ((i : Int))) + ((n : Int))).toNat (fun v hv => hv) (by omega) hby (fun W hW => hW.1.own) (fun v hv => hv),
                          safe_convInt Tryz.underlying5 Tryz.underlying76 (fun v hv => hv) (fun v hv => hv),
                          safe_arith (k := .u64) (by simp) (fun v hv => hv) (fun v hv => hv) (fun v hv => hv),
                          safe_place Tryz.underlying78 size76 (X) 0 ((i : Int)) (fun v hv => hv) (fun v hv => hv) (by omega) (by omega) (by simp),
                          safe_storeInt size76 X ((i : Int)).toNat (fun v hv => hv) (fun v hv => hv) (by omega) (fun W hW => hW.2) (fun W z hW => ⟨hW.1.setX hW.2 hKX hBX, hW.2.set fun _ => ⟨z, rfl⟩⟩), trivial⟩
                        case hQ =>
                          rintro f w1 ⟨h0, hx⟩ hT
                          simp only [putAll, List.setIfInBounds_toArray, List.set_cons_zero, List.set_cons_succ]
                          go_wp2
                          go_roundw
                          case rel => exact ⟨n + 1, by go_num, by omega, h0, hx⟩
                          case measure => simp [intOf] <;> omega
                      · obtain rfl : n = 8 := by omega
                        go_wp2
                        go_roundw
                        case rel => exact ⟨i + 1, by go_num, by omega, h0, hx⟩
                        case measure => simp [intOf] <;> omega
                  · obtain rfl : i = 16 := by omega
                    clear hi hi2
                    go_wp2
                    go_loopw [13] (fun i W => ∃ i' : Nat, i = .int .i64 i' ∧ 16 ≤ i' ∧ i' ≤ 80 ∧ SInv w H K (.slice (some ⟨g, 0, none⟩) 128 cap) ys W ∧ IRow .u64 80 78 X W) (fun i _ => (80 - intOf i).toNat)
                    case atStart => exact ⟨16, rfl, by omega, by omega, h0, hx⟩
                    case round =>
                      clear h0 hx
                      obtain ⟨i, rfl, hi0, hi, h0, hx⟩ := hrel
                      by_cases hi2 : i < 80
                      · have hd : decide ((i : Int) < 80) = true := by simp; omega
                        go_wp2
                        refine wp_region_typed (by kernel_rfl) (fun u v => match u with | 10 => v = .pointer (some ⟨X, 0, none⟩) | 13 => v = .int .i64 ((i : Int)) | 14 => IsInt .u64 v | 15 => IsInt .u64 v | 93 => v = .int .i64 ((i : Int)) | 94 => v = .int .i64 (((i : Int)) - (15)) | 95 => v = .pointer (some ⟨X, (((i : Int)) - (15)).toNat, none⟩) | 96 => IsInt .u64 v | 97 => v = .int .i64 ((i : Int)) | 98 => v = .int .i64 (((i : Int)) - (2)) | 99 => v = .pointer (some ⟨X, (((i : Int)) - (2)).toNat, none⟩) | 100 => IsInt .u64 v | _ => True)
                          (fun W => SInv w H K (.slice (some ⟨g, 0, none⟩) 128 cap) ys W ∧ IRow .u64 80 78 X W) (by kernel_rfl) [93, 94, 95, 96, 97, 98, 99, 100, 14, 15] (by kernel_rfl) [13, 10, 13, 10] (by kernel_rfl) ?h0 ⟨h0.drew, hx.drew⟩ ?hs ?hQ
                        case h0 => simp [IsInt]
                        case hs => exact ⟨safe_move fun d hd => by cases hd; exact fun v hv => hv,
                          safe_sub ((i : Int)) (15) (fun v hv => hv) rfl (congrArg (Value.int .i64) (IntWalk.i64_in _ (by omega))),
                          safe_place Tryz.underlying78 size76 (X) 0 (((i : Int)) - (15)) (fun v hv => hv) (fun v hv => hv) (by omega) (by omega) (by simp),
                          safe_loadInt (n := 80) Tryz.underlying76 (X) ((((i : Int)) - (15)).toNat) (fun v hv => hv) (by omega) (fun W hW => hW.2) (fun v hv => hv),
                          safe_move fun d hd => by cases hd; exact fun v hv => hv,
                          safe_sub ((i : Int)) (2) (fun v hv => hv) rfl (congrArg (Value.int .i64) (IntWalk.i64_in _ (by omega))),
                          safe_place Tryz.underlying78 size76 (X) 0 (((i : Int)) - (2)) (fun v hv => hv) (fun v hv => hv) (by omega) (by omega) (by simp),
                          safe_loadInt (n := 80) Tryz.underlying76 (X) ((((i : Int)) - (2)).toNat) (fun v hv => hv) (by omega) (fun W hW => hW.2) (fun v hv => hv),
                          safe_assign fun d hd => by cases hd; exact fun v hv => hv,
                          safe_assign fun d hd => by cases hd; exact fun v hv => hv, trivial⟩
                        case hQ =>
                          rintro f w1 ⟨h0, hx⟩ hT
                          obtain ⟨x14, e14⟩ : IsInt .u64 (f 14) := hT 14 (by simp)
                          obtain ⟨x15, e15⟩ : IsInt .u64 (f 15) := hT 15 (by simp)
                          simp only [putAll, List.setIfInBounds_toArray, List.set_cons_zero, List.set_cons_succ, e14, e15]
                          go_wp2
                          refine wp_region_typed (by kernel_rfl) (fun u v => match u with | 10 => v = .pointer (some ⟨X, 0, none⟩) | 13 => v = .int .i64 ((i : Int)) | 14 => IsInt .u64 v | 15 => IsInt .u64 v | 101 => v = .int .i64 ((i : Int)) | 102 => v = .int .i64 ((i : Int)) | 103 => v = .int .i64 (((i : Int)) - (16)) | 104 => v = .pointer (some ⟨X, (((i : Int)) - (16)).toNat, none⟩) | 105 => IsInt .u64 v | 106 => IsInt .u64 v | 107 => IsInt .u64 v | 108 => IsInt .u64 v | 109 => IsInt .u64 v | 110 => IsInt .u64 v | 111 => IsInt .u64 v | 112 => IsInt .u64 v | 113 => IsInt .u64 v | 114 => IsInt .u64 v | 115 => v = .int .i64 ((i : Int)) | 116 => v = .int .i64 (((i : Int)) - (7)) | 117 => v = .pointer (some ⟨X, (((i : Int)) - (7)).toNat, none⟩) | 118 => IsInt .u64 v | 119 => IsInt .u64 v | 120 => IsInt .u64 v | 121 => IsInt .u64 v | 122 => IsInt .u64 v | 123 => IsInt .u64 v | 124 => IsInt .u64 v | 125 => IsInt .u64 v | 126 => IsInt .u64 v | 127 => IsInt .u64 v | 128 => IsInt .u64 v | 129 => v = .pointer (some ⟨X, ((i : Int)).toNat, none⟩) | _ => True)
                            (fun W => SInv w H K (.slice (some ⟨g, 0, none⟩) 128 cap) ys W ∧ IRow .u64 80 78 X W) (by kernel_rfl) [101, 102, 103, 104, 105, 106, 107, 108, 109, 110, 111, 112, 113, 114, 115, 116, 117, 118, 119, 120, 121, 122, 123, 124, 125, 126, 127, 128, 129] (by kernel_rfl) [13, 13, 10, 14, 14, 14, 13, 10, 15, 15, 15, 10] (by kernel_rfl) ?h0 ⟨h0.drew, hx.drew⟩ ?hs ?hQ
                          case h0 => simp [IsInt]
                          case hs => exact ⟨safe_move fun d hd => by cases hd; exact fun v hv => hv,
                            safe_move fun d hd => by cases hd; exact fun v hv => hv,
                            safe_sub ((i : Int)) (16) (fun v hv => hv) rfl (congrArg (Value.int .i64) (IntWalk.i64_in _ (by omega))),
                            safe_place Tryz.underlying78 size76 (X) 0 (((i : Int)) - (16)) (fun v hv => hv) (fun v hv => hv) (by omega) (by omega) (by simp),
                            safe_loadInt (n := 80) Tryz.underlying76 (X) ((((i : Int)) - (16)).toNat) (fun v hv => hv) (by omega) (fun W hW => hW.2) (fun v hv => hv),
                            safe_move fun d hd => by cases hd; exact fun v hv => hv,
                            safe_bent 1 (by omega) (by omega) (fun v hv => hv) (fun v hv => hv) (fun W W' hW hw hb => ⟨hW.1.heap hw hb, hW.2.heap hw⟩),
                            safe_move fun d hd => by cases hd; exact fun v hv => hv,
                            safe_bent 8 (by omega) (by omega) (fun v hv => hv) (fun v hv => hv) (fun W W' hW hw hb => ⟨hW.1.heap hw hb, hW.2.heap hw⟩),
                            safe_arith (k := .u64) (by simp) (fun v hv => hv) (fun v hv => hv) (fun v hv => hv),
                            safe_move fun d hd => by cases hd; exact fun v hv => hv,
                            safe_shift (k := .u64) (.inr rfl) 7 (by omega) (fun v hv => hv) rfl (fun v hv => hv),
                            safe_arith (k := .u64) (by simp) (fun v hv => hv) (fun v hv => hv) (fun v hv => hv),
                            safe_arith (k := .u64) (by simp) (fun v hv => hv) (fun v hv => hv) (fun v hv => hv),
                            safe_move fun d hd => by cases hd; exact fun v hv => hv,
                            safe_sub ((i : Int)) (7) (fun v hv => hv) rfl (congrArg (Value.int .i64) (IntWalk.i64_in _ (by omega))),
                            safe_place Tryz.underlying78 size76 (X) 0 (((i : Int)) - (7)) (fun v hv => hv) (fun v hv => hv) (by omega) (by omega) (by simp),
                            safe_loadInt (n := 80) Tryz.underlying76 (X) ((((i : Int)) - (7)).toNat) (fun v hv => hv) (by omega) (fun W hW => hW.2) (fun v hv => hv),
                            safe_arith (k := .u64) (by simp) (fun v hv => hv) (fun v hv => hv) (fun v hv => hv),
                            safe_move fun d hd => by cases hd; exact fun v hv => hv,
                            safe_bent 19 (by omega) (by omega) (fun v hv => hv) (fun v hv => hv) (fun W W' hW hw hb => ⟨hW.1.heap hw hb, hW.2.heap hw⟩),
                            safe_move fun d hd => by cases hd; exact fun v hv => hv,
                            safe_bent 61 (by omega) (by omega) (fun v hv => hv) (fun v hv => hv) (fun W W' hW hw hb => ⟨hW.1.heap hw hb, hW.2.heap hw⟩),
                            safe_arith (k := .u64) (by simp) (fun v hv => hv) (fun v hv => hv) (fun v hv => hv),
                            safe_move fun d hd => by cases hd; exact fun v hv => hv,
                            safe_shift (k := .u64) (.inr rfl) 6 (by omega) (fun v hv => hv) rfl (fun v hv => hv),
                            safe_arith (k := .u64) (by simp) (fun v hv => hv) (fun v hv => hv) (fun v hv => hv),
                            safe_arith (k := .u64) (by simp) (fun v hv => hv) (fun v hv => hv) (fun v hv => hv),
                            safe_place Tryz.underlying78 size76 (X) 0 ((i : Int)) (fun v hv => hv) (fun v hv => hv) (by omega) (by omega) (by simp),
                            safe_storeInt size76 X ((i : Int)).toNat (fun v hv => hv) (fun v hv => hv) (by omega) (fun W hW => hW.2) (fun W z hW => ⟨hW.1.setX hW.2 hKX hBX, hW.2.set fun _ => ⟨z, rfl⟩⟩), trivial⟩
                          case hQ =>
                            rintro f w1 ⟨h0, hx⟩ hT
                            simp only [putAll, List.setIfInBounds_toArray, List.set_cons_zero, List.set_cons_succ]
                            go_wp2
                            go_roundw
                            case rel => exact ⟨i + 1, by go_num, by omega, by omega, h0, hx⟩
                            case measure => simp [intOf] <;> omega
                      · obtain rfl : i = 80 := by omega
                        clear hi hi2 hi0
                        rename_i wr
                        obtain ⟨cy, hcy, hly⟩ := h0.h.load 0 8 (by omega) Tryz.underlying77 rfl size77
                        have hy := Row.new z8a_ints wr 77
                        have hst := hy.store 0 8 (by omega) hcy (fun _ _ => IsInt.one) size77 (wr.alloc (.cells z8a 77)) rfl
                        have hHlt := h0.h.lt
                        have hBY0 := h0.below.size
                        go_upto_region 27 with (fail)
                        have hHY : H ≠ wr.heap.size := by omega
                        replace h0 := (h0.alloc (.cells z8a 77)).setY (i := 0) (cs := cy.toList) hy hHY hBY0
                        replace hx := (hx.alloc (.cells z8a 77)).setCellsOther (g := wr.heap.size) (by have := hx.lt; omega) cy.toList 0
                        replace hy := hy.setCells cy.toList 0 fun j v hv _ => hcy.list j v hv
                        clear hst hly
                        obtain ⟨Y, hY⟩ : ∃ Y, Y = wr.heap.size := ⟨_, rfl⟩
                        generalize (wr.alloc (.cells z8a 77)).setCells wr.heap.size 0 cy.toList = wy at h0 hx hy ⊢
                        rw [← hY] at hy hHY hBY0 ⊢
                        clear hY hHlt
                        go_wp2
                        go_loopw [17] (fun i W => ∃ i' : Nat, i = .int .i64 i' ∧ i' ≤ 80 ∧ SInv w H K (.slice (some ⟨g, 0, none⟩) 128 cap) ys W ∧ IRow .u64 80 78 X W ∧ IRow .u64 8 77 Y W) (fun i _ => (80 - intOf i).toNat)
                        case atStart => exact ⟨0, rfl, by omega, h0, hx, hy⟩
                        case round =>
                          clear h0 hx hy
                          obtain ⟨i, rfl, hi, h0, hx, hy⟩ := hrel
                          by_cases hi2 : i < 80
                          · have hd : decide ((i : Int) < 80) = true := by simp; omega
                            go_wp2
                            refine wp_region_typed (by kernel_rfl) (fun u v => match u with | 16 => v = .pointer (some ⟨Y, 0, none⟩) | 18 => IsInt .u64 v | 19 => IsInt .u64 v | 135 => v = .pointer (some ⟨Y, 4, none⟩) | 136 => IsInt .u64 v | 137 => v = .pointer (some ⟨Y, 0, none⟩) | 138 => IsInt .u64 v | _ => True)
                              (fun W => SInv w H K (.slice (some ⟨g, 0, none⟩) 128 cap) ys W ∧ IRow .u64 80 78 X W ∧ IRow .u64 8 77 Y W) (by kernel_rfl) [135, 136, 137, 138, 18, 19] (by kernel_rfl) [16, 16] (by kernel_rfl) ?h0 ⟨h0.drew, hx.drew, hy.drew⟩ ?hs ?hQ
                            case h0 => simp [IsInt]
                            case hs => exact ⟨safe_place Tryz.underlying77 size76 (Y) 0 (4) (fun v hv => hv) rfl (by omega) (by omega) (by simp),
                              safe_loadInt (n := 8) Tryz.underlying76 (Y) (4) (fun v hv => hv) (by omega) (fun W hW => hW.2.2) (fun v hv => hv),
                              safe_place Tryz.underlying77 size76 (Y) 0 (0) (fun v hv => hv) rfl (by omega) (by omega) (by simp),
                              safe_loadInt (n := 8) Tryz.underlying76 (Y) (0) (fun v hv => hv) (by omega) (fun W hW => hW.2.2) (fun v hv => hv),
                              safe_assign fun d hd => by cases hd; exact fun v hv => hv,
                              safe_assign fun d hd => by cases hd; exact fun v hv => hv, trivial⟩
                            case hQ =>
                              rintro f w1 ⟨h0, hx, hy⟩ hT
                              obtain ⟨x18, e18⟩ : IsInt .u64 (f 18) := hT 18 (by simp)
                              obtain ⟨x19, e19⟩ : IsInt .u64 (f 19) := hT 19 (by simp)
                              simp only [putAll, List.setIfInBounds_toArray, List.set_cons_zero, List.set_cons_succ, e18, e19]
                              go_wp2
                              refine wp_region_typed (by kernel_rfl) (fun u v => match u with | 6 => v = .pointer (some ⟨K, 0, none⟩) | 10 => v = .pointer (some ⟨X, 0, none⟩) | 16 => v = .pointer (some ⟨Y, 0, none⟩) | 17 => v = .int .i64 ((i : Int)) | 18 => IsInt .u64 v | 20 => IsInt .u64 v | 139 => v = .pointer (some ⟨Y, 7, none⟩) | 140 => IsInt .u64 v | 141 => IsInt .u64 v | 142 => IsInt .u64 v | 143 => IsInt .u64 v | 144 => IsInt .u64 v | 145 => IsInt .u64 v | 146 => IsInt .u64 v | 147 => IsInt .u64 v | 148 => IsInt .u64 v | 149 => IsInt .u64 v | 150 => IsInt .u64 v | 151 => v = .pointer (some ⟨Y, 5, none⟩) | 152 => IsInt .u64 v | 153 => IsInt .u64 v | 154 => IsInt .u64 v | 155 => IsInt .u64 v | 156 => v = .pointer (some ⟨Y, 6, none⟩) | 157 => IsInt .u64 v | 158 => IsInt .u64 v | 159 => IsInt .u64 v | 160 => IsInt .u64 v | 161 => v = .int .i64 ((i : Int)) | 162 => v = .pointer (some ⟨K, ((i : Int)).toNat, none⟩) | 163 => IsInt .u64 v | 164 => IsInt .u64 v | 165 => v = .int .i64 ((i : Int)) | 166 => v = .pointer (some ⟨X, ((i : Int)).toNat, none⟩) | 167 => IsInt .u64 v | 168 => IsInt .u64 v | _ => True)
                                (fun W => SInv w H K (.slice (some ⟨g, 0, none⟩) 128 cap) ys W ∧ IRow .u64 80 78 X W ∧ IRow .u64 8 77 Y W) (by kernel_rfl) [139, 140, 141, 142, 143, 144, 145, 146, 147, 148, 149, 150, 151, 152, 153, 154, 155, 156, 157, 158, 159, 160, 161, 162, 163, 164, 165, 166, 167, 168, 20] (by kernel_rfl) [16, 18, 18, 18, 18, 16, 18, 16, 17, 6, 17, 10] (by kernel_rfl) ?h0 ⟨h0.drew, hx.drew, hy.drew⟩ ?hs ?hQ
                              case h0 => simp [IsInt]
                              case hs => exact ⟨safe_place Tryz.underlying77 size76 (Y) 0 (7) (fun v hv => hv) rfl (by omega) (by omega) (by simp),
                                safe_loadInt (n := 8) Tryz.underlying76 (Y) (7) (fun v hv => hv) (by omega) (fun W hW => hW.2.2) (fun v hv => hv),
                                safe_move fun d hd => by cases hd; exact fun v hv => hv,
                                safe_bent 14 (by omega) (by omega) (fun v hv => hv) (fun v hv => hv) (fun W W' hW hw hb => ⟨hW.1.heap hw hb, hW.2.1.heap hw, hW.2.2.heap hw⟩),
                                safe_move fun d hd => by cases hd; exact fun v hv => hv,
                                safe_bent 18 (by omega) (by omega) (fun v hv => hv) (fun v hv => hv) (fun W W' hW hw hb => ⟨hW.1.heap hw hb, hW.2.1.heap hw, hW.2.2.heap hw⟩),
                                safe_arith (k := .u64) (by simp) (fun v hv => hv) (fun v hv => hv) (fun v hv => hv),
                                safe_move fun d hd => by cases hd; exact fun v hv => hv,
                                safe_bent 41 (by omega) (by omega) (fun v hv => hv) (fun v hv => hv) (fun W W' hW hw hb => ⟨hW.1.heap hw hb, hW.2.1.heap hw, hW.2.2.heap hw⟩),
                                safe_arith (k := .u64) (by simp) (fun v hv => hv) (fun v hv => hv) (fun v hv => hv),
                                safe_arith (k := .u64) (by simp) (fun v hv => hv) (fun v hv => hv) (fun v hv => hv),
                                safe_move fun d hd => by cases hd; exact fun v hv => hv,
                                safe_place Tryz.underlying77 size76 (Y) 0 (5) (fun v hv => hv) rfl (by omega) (by omega) (by simp),
                                safe_loadInt (n := 8) Tryz.underlying76 (Y) (5) (fun v hv => hv) (by omega) (fun W hW => hW.2.2) (fun v hv => hv),
                                safe_arith (k := .u64) (by simp) (fun v hv => hv) (fun v hv => hv) (fun v hv => hv),
                                safe_move fun d hd => by cases hd; exact fun v hv => hv,
                                safe_unxor (fun v hv => hv) (fun v hv => hv),
                                safe_place Tryz.underlying77 size76 (Y) 0 (6) (fun v hv => hv) rfl (by omega) (by omega) (by simp),
                                safe_loadInt (n := 8) Tryz.underlying76 (Y) (6) (fun v hv => hv) (by omega) (fun W hW => hW.2.2) (fun v hv => hv),
                                safe_arith (k := .u64) (by simp) (fun v hv => hv) (fun v hv => hv) (fun v hv => hv),
                                safe_arith (k := .u64) (by simp) (fun v hv => hv) (fun v hv => hv) (fun v hv => hv),
                                safe_arith (k := .u64) (by simp) (fun v hv => hv) (fun v hv => hv) (fun v hv => hv),
                                safe_move fun d hd => by cases hd; exact fun v hv => hv,
                                safe_place Tryz.underlying78 size76 (K) 0 ((i : Int)) (fun v hv => hv) (fun v hv => hv) (by omega) (by omega) (by simp),
                                safe_loadInt (n := 80) Tryz.underlying76 (K) (((i : Int)).toNat) (fun v hv => hv) (by omega) (fun W hW => hW.1.k) (fun v hv => hv),
                                safe_arith (k := .u64) (by simp) (fun v hv => hv) (fun v hv => hv) (fun v hv => hv),
                                safe_move fun d hd => by cases hd; exact fun v hv => hv,
                                safe_place Tryz.underlying78 size76 (X) 0 ((i : Int)) (fun v hv => hv) (fun v hv => hv) (by omega) (by omega) (by simp),
                                safe_loadInt (n := 80) Tryz.underlying76 (X) (((i : Int)).toNat) (fun v hv => hv) (by omega) (fun W hW => hW.2.1) (fun v hv => hv),
                                safe_arith (k := .u64) (by simp) (fun v hv => hv) (fun v hv => hv) (fun v hv => hv),
                                safe_assign fun d hd => by cases hd; exact fun v hv => hv, trivial⟩
                              case hQ =>
                                rintro f w1 ⟨h0, hx, hy⟩ hT
                                obtain ⟨x20, e20⟩ : IsInt .u64 (f 20) := hT 20 (by simp)
                                simp only [putAll, List.setIfInBounds_toArray, List.set_cons_zero, List.set_cons_succ, e20]
                                go_wp2
                                refine wp_region_typed (by kernel_rfl) (fun u v => match u with | 16 => v = .pointer (some ⟨Y, 0, none⟩) | 19 => IsInt .u64 v | 21 => IsInt .u64 v | 169 => IsInt .u64 v | 170 => IsInt .u64 v | 171 => IsInt .u64 v | 172 => IsInt .u64 v | 173 => IsInt .u64 v | 174 => IsInt .u64 v | 175 => IsInt .u64 v | 176 => IsInt .u64 v | 177 => IsInt .u64 v | 178 => v = .pointer (some ⟨Y, 1, none⟩) | 179 => IsInt .u64 v | 180 => IsInt .u64 v | 181 => IsInt .u64 v | 182 => v = .pointer (some ⟨Y, 2, none⟩) | 183 => IsInt .u64 v | 184 => IsInt .u64 v | 185 => IsInt .u64 v | 186 => v = .pointer (some ⟨Y, 1, none⟩) | 187 => IsInt .u64 v | 188 => v = .pointer (some ⟨Y, 2, none⟩) | 189 => IsInt .u64 v | 190 => IsInt .u64 v | 191 => IsInt .u64 v | 192 => IsInt .u64 v | _ => True)
                                  (fun W => SInv w H K (.slice (some ⟨g, 0, none⟩) 128 cap) ys W ∧ IRow .u64 80 78 X W ∧ IRow .u64 8 77 Y W) (by kernel_rfl) [169, 170, 171, 172, 173, 174, 175, 176, 177, 178, 179, 180, 181, 182, 183, 184, 185, 186, 187, 188, 189, 190, 191, 192, 21] (by kernel_rfl) [19, 19, 19, 19, 16, 19, 16, 16, 16] (by kernel_rfl) ?h0 ⟨h0.drew, hx.drew, hy.drew⟩ ?hs ?hQ
                                case h0 => simp [IsInt]
                                case hs => exact ⟨safe_move fun d hd => by cases hd; exact fun v hv => hv,
                                  safe_bent 28 (by omega) (by omega) (fun v hv => hv) (fun v hv => hv) (fun W W' hW hw hb => ⟨hW.1.heap hw hb, hW.2.1.heap hw, hW.2.2.heap hw⟩),
                                  safe_move fun d hd => by cases hd; exact fun v hv => hv,
                                  safe_bent 34 (by omega) (by omega) (fun v hv => hv) (fun v hv => hv) (fun W W' hW hw hb => ⟨hW.1.heap hw hb, hW.2.1.heap hw, hW.2.2.heap hw⟩),
                                  safe_arith (k := .u64) (by simp) (fun v hv => hv) (fun v hv => hv) (fun v hv => hv),
                                  safe_move fun d hd => by cases hd; exact fun v hv => hv,
                                  safe_bent 39 (by omega) (by omega) (fun v hv => hv) (fun v hv => hv) (fun W W' hW hw hb => ⟨hW.1.heap hw hb, hW.2.1.heap hw, hW.2.2.heap hw⟩),
                                  safe_arith (k := .u64) (by simp) (fun v hv => hv) (fun v hv => hv) (fun v hv => hv),
                                  safe_move fun d hd => by cases hd; exact fun v hv => hv,
                                  safe_place Tryz.underlying77 size76 (Y) 0 (1) (fun v hv => hv) rfl (by omega) (by omega) (by simp),
                                  safe_loadInt (n := 8) Tryz.underlying76 (Y) (1) (fun v hv => hv) (by omega) (fun W hW => hW.2.2) (fun v hv => hv),
                                  safe_arith (k := .u64) (by simp) (fun v hv => hv) (fun v hv => hv) (fun v hv => hv),
                                  safe_move fun d hd => by cases hd; exact fun v hv => hv,
                                  safe_place Tryz.underlying77 size76 (Y) 0 (2) (fun v hv => hv) rfl (by omega) (by omega) (by simp),
                                  safe_loadInt (n := 8) Tryz.underlying76 (Y) (2) (fun v hv => hv) (by omega) (fun W hW => hW.2.2) (fun v hv => hv),
                                  safe_arith (k := .u64) (by simp) (fun v hv => hv) (fun v hv => hv) (fun v hv => hv),
                                  safe_arith (k := .u64) (by simp) (fun v hv => hv) (fun v hv => hv) (fun v hv => hv),
                                  safe_place Tryz.underlying77 size76 (Y) 0 (1) (fun v hv => hv) rfl (by omega) (by omega) (by simp),
                                  safe_loadInt (n := 8) Tryz.underlying76 (Y) (1) (fun v hv => hv) (by omega) (fun W hW => hW.2.2) (fun v hv => hv),
                                  safe_place Tryz.underlying77 size76 (Y) 0 (2) (fun v hv => hv) rfl (by omega) (by omega) (by simp),
                                  safe_loadInt (n := 8) Tryz.underlying76 (Y) (2) (fun v hv => hv) (by omega) (fun W hW => hW.2.2) (fun v hv => hv),
                                  safe_arith (k := .u64) (by simp) (fun v hv => hv) (fun v hv => hv) (fun v hv => hv),
                                  safe_arith (k := .u64) (by simp) (fun v hv => hv) (fun v hv => hv) (fun v hv => hv),
                                  safe_arith (k := .u64) (by simp) (fun v hv => hv) (fun v hv => hv) (fun v hv => hv),
                                  safe_assign fun d hd => by cases hd; exact fun v hv => hv, trivial⟩
                                case hQ =>
                                  rintro f w1 ⟨h0, hx, hy⟩ hT
                                  obtain ⟨x21, e21⟩ : IsInt .u64 (f 21) := hT 21 (by simp)
                                  simp only [putAll, List.setIfInBounds_toArray, List.set_cons_zero, List.set_cons_succ, e21]
                                  obtain ⟨y0, hy0'⟩ := hy.int (i := 0) (by omega)
                                  obtain ⟨y1, hy1'⟩ := hy.int (i := 1) (by omega)
                                  obtain ⟨y2, hy2'⟩ := hy.int (i := 2) (by omega)
                                  obtain ⟨y3, hy3'⟩ := hy.int (i := 3) (by omega)
                                  obtain ⟨y4, hy4'⟩ := hy.int (i := 4) (by omega)
                                  obtain ⟨y5, hy5'⟩ := hy.int (i := 5) (by omega)
                                  obtain ⟨y6, hy6'⟩ := hy.int (i := 6) (by omega)
                                  have hbd := build77
                                  have hst : ∀ a b c d e f g h : Int, Sem.run Tryz.prog (storeA 77 (.pointer (some ⟨Y, 0, none⟩)) (.agg #[.int .u64 a, .int .u64 b, .int .u64 c, .int .u64 d, .int .u64 e, .int .u64 f, .int .u64 g, .int .u64 h])) w1 = .ok () (w1.setCells Y 0 (l8 a b c d e f g h)) :=
                                    fun a b c d e f g h => hy.store 0 8 (by omega) (l8_ints a b c d e f g h) (fun _ _ => IsInt.one) size77 w1 rfl
                                  go_wp2
                                  go_roundw
                                  case rel => exact ⟨i + 1, by go_num, by omega, h0.setY hy hHY hBY0, hx.setCellsOther (hx.ne hy (by decide)) _ _, hy.setCells _ _ fun j v hv _ => (l8_ints _ _ _ _ _ _ _ _).list j v hv⟩
                                  case measure => simp [intOf] <;> omega
                          · obtain rfl : i = 80 := by omega
                            clear hi hi2
                            go_wp2
                            go_loopw [22] (fun i W => ∃ i' : Nat, i = .int .i64 i' ∧ i' ≤ 8 ∧ SInv w H K (.slice (some ⟨g, 0, none⟩) 128 cap) ys W ∧ IRow .u64 80 78 X W ∧ IRow .u64 8 77 Y W) (fun i _ => (8 - intOf i).toNat)
                            case atStart => exact ⟨0, rfl, by omega, h0, hx, hy⟩
                            case round =>
                              clear h0 hx hy
                              obtain ⟨i, rfl, hi, h0, hx, hy⟩ := hrel
                              by_cases hi2 : i < 8
                              · have hd : decide ((i : Int) < 8) = true := by simp; omega
                                go_wp2
                                refine wp_region_typed (by kernel_rfl) (fun u v => match u with | 5 => v = .pointer (some ⟨H, 0, none⟩) | 16 => v = .pointer (some ⟨Y, 0, none⟩) | 22 => v = .int .i64 ((i : Int)) | 217 => v = .int .i64 ((i : Int)) | 218 => v = .pointer (some ⟨H, ((i : Int)).toNat, none⟩) | 219 => IsInt .u64 v | 220 => v = .int .i64 ((i : Int)) | 221 => v = .pointer (some ⟨Y, ((i : Int)).toNat, none⟩) | 222 => IsInt .u64 v | 223 => IsInt .u64 v | 224 => v = .pointer (some ⟨H, ((i : Int)).toNat, none⟩) | _ => True)
                                  (fun W => SInv w H K (.slice (some ⟨g, 0, none⟩) 128 cap) ys W ∧ IRow .u64 80 78 X W ∧ IRow .u64 8 77 Y W) (by kernel_rfl) [217, 218, 219, 220, 221, 222, 223, 224] (by kernel_rfl) [22, 5, 22, 16, 5] (by kernel_rfl) ?h0 ⟨h0.drew, hx.drew, hy.drew⟩ ?hs ?hQ
                                case h0 => simp [IsInt]
                                case hs => exact ⟨safe_move fun d hd => by cases hd; exact fun v hv => hv,
                                  safe_place Tryz.underlying77 size76 (H) 0 ((i : Int)) (fun v hv => hv) (fun v hv => hv) (by omega) (by omega) (by simp),
                                  safe_loadInt (n := 8) Tryz.underlying76 (H) (((i : Int)).toNat) (fun v hv => hv) (by omega) (fun W hW => hW.1.h) (fun v hv => hv),
                                  safe_move fun d hd => by cases hd; exact fun v hv => hv,
                                  safe_place Tryz.underlying77 size76 (Y) 0 ((i : Int)) (fun v hv => hv) (fun v hv => hv) (by omega) (by omega) (by simp),
                                  safe_loadInt (n := 8) Tryz.underlying76 (Y) (((i : Int)).toNat) (fun v hv => hv) (by omega) (fun W hW => hW.2.2) (fun v hv => hv),
                                  safe_arith (k := .u64) (by simp) (fun v hv => hv) (fun v hv => hv) (fun v hv => hv),
                                  safe_place Tryz.underlying77 size76 (H) 0 ((i : Int)) (fun v hv => hv) (fun v hv => hv) (by omega) (by omega) (by simp),
                                  safe_storeInt size76 H ((i : Int)).toNat (fun v hv => hv) (fun v hv => hv) (by omega) (fun W hW => hW.1.h) (fun W z hW => ⟨hW.1.setH _ z hBH, hW.2.1.setOther (hW.2.1.ne hW.1.h (by decide)) _, hW.2.2.setOther (fun e => hHY e.symm) _⟩), trivial⟩
                                case hQ =>
                                  rintro f w1 ⟨h0, hx, hy⟩ hT
                                  simp only [putAll, List.setIfInBounds_toArray, List.set_cons_zero, List.set_cons_succ]
                                  go_wp2
                                  go_roundw
                                  case rel => exact ⟨i + 1, by go_num, by omega, h0, hx, hy⟩
                                  case measure => simp [intOf] <;> omega
                              · obtain rfl : i = 8 := by omega
                                go_wp2
                                go_roundw
                                case rel => exact ⟨128, by go_num, .inr rfl, h0⟩
                                case measure => simp [intOf] <;> omega
              · have hbel := h0.below
                have hh := h0.h
                clear h0 hby
                go_wp2
                go_loopw [23, 24] (fun ov i W => ∃ (j : Nat) (zs : List Value), i = .int .i64 j ∧ j ≤ 8 ∧ zs.length = 8 * j ∧ (∀ u ∈ zs, IsInt .u8 u) ∧ Own w.heap.size 5 ov zs W ∧ IRow .u64 8 77 H W ∧ Below w.heap.size w W) (fun _ i _ => (8 - intOf i).toNat)
                case atStart => exact ⟨0, [], rfl, by omega, rfl, by simp, Own.nil _ _ _, hh, hbel⟩
                case round =>
                  clear hbel hh
                  obtain ⟨j, zs, rfl, hj, hzl, hzb, hown, hh, hbel⟩ := hrel
                  by_cases hj2 : j < 8
                  · have hd : decide ((j : Int) < 8) = true := by simp; omega
                    go_wp2
                    go_loopw [23, 25] (fun ov n W => ∃ (m : Int) (zs : List Value), n = .int .i64 m ∧ -8 ≤ m ∧ m ≤ 56 ∧ (∃ q : Int, m = 56 - 8 * q ∧ (zs.length : Int) = 8 * j + q) ∧ (∀ u ∈ zs, IsInt .u8 u) ∧ Own w.heap.size 5 ov zs W ∧ IRow .u64 8 77 H W ∧ Below w.heap.size w W) (fun _ n _ => (intOf n + 8).toNat)
                    case atStart => exact ⟨56, zs, rfl, by omega, by omega, ⟨0, by omega, by omega⟩, hzb, hown, hh, hbel⟩
                    case round =>
                      clear hbel hh hown hzb hzl zs
                      obtain ⟨m, zs, rfl, hm0, hm1, ⟨q, hq, hzl⟩, hzb, hown, hh, hbel⟩ := hrel
                      by_cases hm2 : 0 ≤ m
                      · obtain ⟨m', rfl⟩ : ∃ m' : Nat, m = m' := ⟨m.toNat, by omega⟩
                        obtain ⟨yj, hyj⟩ := hh.int (i := j) (by omega)
                        go_wp2_with (at_builtin; refine wpList_app rfl (.tmp 233) (.tmp 240) 22 22 rfl _ _ rfl rfl (app_byte _ _ hown (by omega) hbel.size) ?_; intro v3 w3 ho2 hg2; replace hbel := (hown.alloc _).belowGrown (hbel.alloc hbel.size _) hg2 (Nat.le_refl _) (by have := hbel.size; simp; omega); replace hh := (hh.alloc _).grown hg2 (fun e => (hown.neRow hh (by decide)) e.symm))
                        go_roundw
                        case rel =>
                          refine ⟨(m' : Int) - 8, _, by go_num, by omega, by omega, ⟨q + 1, by omega, by simp; omega⟩, ?_, ho2, hh, hbel⟩
                          intro u hu
                          rcases List.mem_append.1 hu with hu | hu
                          · exact hzb u hu
                          · exact ⟨_, by simpa using hu⟩
                        case measure => simp [intOf] <;> omega
                      · have hd2 : decide (0 ≤ m) = false := by simp; omega
                        go_wp2
                        go_roundw
                        case rel => exact ⟨j + 1, zs, by go_num, by omega, by omega, hzb, hown, hh, hbel⟩
                        case measure => simp [intOf] <;> omega
                  · obtain rfl : j = 8 := by omega
                    obtain ⟨t, ht, hcv⟩ := hown.textAny (P := Tryz.prog) (src := 22) (dst := 9) hzb Tryz.underlying22 Tryz.underlying5 Tryz.underlying9 (by intro e; rw [e] at hzl; simp at hzl)
                    have hcv' := hcv _ rfl
                    clear hcv
                    go_wp2
                    go_ret
                    exact ⟨⟨t, rfl, by omega⟩, hbel⟩
      · have hd : ((n : Int) % 128 != 112) = true := by simp; omega
        go_wp2_with (at_builtin; refine wpList_app rfl (.tmp 38) (.tmp 39) 22 22 rfl _ _ rfl rfl (app_byte _ _ h0.own (by omega) h0.below.size) ?_; intro v2 w2 ho1 hg1; replace h0 := (h0.alloc _).grown ho1 hg1)
        go_roundw
        case rel =>
          refine ⟨n + 1, _, by simp [hn], by omega, by omega, ?_, h0⟩
          intro u hu
          rcases List.mem_append.1 hu with hu | hu
          · exact hby u hu
          · exact ⟨0, by simpa using hu⟩
        case measure =>
          obtain ⟨a', c', e⟩ := ho1.len
          subst e
          simp [hn]
          omega
end Go.Proofs.YtcebfkhfnjbfjaaGreatDoor
