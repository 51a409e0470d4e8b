/- Steps over numbers of the field in rows that the call itself has made. Contracts of shape: whether two numbers are the same; the point that 32 bytes are. More steps over numbers of the field: whole values built, fields, bytes of texts, calls of other make. -/
import Derived.Test.YtcebfkhfnjbfjaaGreatDoorC05
import Derived.Test.YtcebfkhfnjbfjaaGreatDoorC02
namespace Go.Proofs.YtcebfkhfnjbfjaaGreatDoor
open Go.RowKit
/-- What the reference counts with: two parts of numbers of 64 bits, with the words of a slice between them. -/
def curveP (i : Nat) (v : Value) : Prop := if i < 80 then IsInt .i64 v else if i = 80 then ∃ a l c, v = .slice a l c else IsInt .u64 v
theorem curveP_one (i : Nat) (v : Value) (h : curveP i v) : v.oneCell' = true := by
  unfold curveP at h
  split at h
  · exact h.one
  · split at h
    · obtain ⟨a, l, c, rfl⟩ := h; rfl
    · exact h.one
theorem Row.ne {P Q : Nat → Value → Prop} {n m E E' b b' : Nat} {w : World} (h : Row P n E b w) (h' : Row Q m E' b' w) (hE : E ≠ E') : b ≠ b' := by
  intro e
  subst e
  obtain ⟨cs, h1, _⟩ := h
  obtain ⟨cs', h1', _⟩ := h'
  rw [h1] at h1'
  injection h1' with h1'
  injection h1' with _ h2
  exact hE h2
/-- What stands in memory: numbers of the field in the rows L, and what else R says, which nothing here turns. -/
structure FInv (w0 : World) (R : World → Prop) (L : List Nat) (W : World) : Prop where
  below : Below w0.heap.size w0 W
  rows : ∀ g ∈ L, w0.heap.size ≤ g ∧ IRow .i64 16 73 g W
  rest : R W
/-- R is kept by calls and by writes into rows of numbers of the field. -/
structure RKept (w0 : World) (R : World → Prop) : Prop where
  below : ∀ W W', R W → Below W.heap.size W W' → R W'
  store : ∀ W g (cs : List Value), R W → IRow .i64 16 73 g W → w0.heap.size ≤ g → R (W.setCells g 0 cs)
theorem FInv.call {w0 : World} {R : World → Prop} (hR : RKept w0 R) {L : List Nat} {W W' : World} (h : FInv w0 R L W) (hb : Below W.heap.size W W') : FInv w0 R L W' :=
  ⟨h.below.trans (hb.mono h.below.size), fun g hg => ⟨(h.rows g hg).1, (h.rows g hg).2.below hb (h.rows g hg).2.lt⟩, hR.below _ _ h.rest hb⟩
theorem FInv.alloc {w0 : World} {R : World → Prop} (hR : RKept w0 R) {L : List Nat} {W : World} (h : FInv w0 R L W) {cs : Array Value} (hc : Ints .i64 16 cs) : FInv w0 R (W.heap.size :: L) (W.alloc (.cells cs 73)) :=
  ⟨h.below.alloc h.below.size _, fun g hg => by
    rcases List.mem_cons.1 hg with rfl | hg
    · exact ⟨h.below.size, Row.new hc W 73⟩
    · exact ⟨(h.rows g hg).1, (h.rows g hg).2.alloc _⟩, hR.below _ _ h.rest ((Below.refl _ _).alloc (Nat.le_refl _) _)⟩
theorem FInv.store {w0 : World} {R : World → Prop} (hR : RKept w0 R) {L : List Nat} {W : World} (h : FInv w0 R L W) {g : Nat} (hg : g ∈ L) {cs : Array Value} (hc : Ints .i64 16 cs) : FInv w0 R L (W.setCells g 0 cs.toList) :=
  ⟨below_setCells (h.rows g hg).1 _ _ h.below, fun g' hg' => ⟨(h.rows g' hg').1, by
    by_cases e : g' = g
    · subst e; exact (h.rows g' hg').2.setCells _ _ fun j v hv _ => by have := hc.list j v hv; exact this
    · exact (h.rows g' hg').2.setCellsOther e _ _⟩, hR.store _ _ _ h.rest (h.rows g hg).2 (h.rows g hg).1⟩
theorem FInv.drew {w0 : World} {R : World → Prop} (hR : RKept w0 R) {L : List Nat} {W : World} (h : FInv w0 R L W) : FInv w0 R L W.drew := h.call hR ⟨rfl, rfl, rfl, Nat.le_refl _, fun _ _ => rfl⟩

/-- A contract: from so many numbers of the field to one. -/
abbrev FRes (w : World) (e : Ending) (w' : World) : Prop := (∃ cs', e = .returned (.agg cs') ∧ Ints .i64 16 cs') ∧ Below w.heap.size w w'
section
variable {T : Tmp → List Nat → Value → Prop} {w0 : World} {R : World → Prop} {L : List Nat}
theorem F_load {d x : Tmp} {t : TypeId} {ps : String} {af : Array Edge} {gd : Option (Nat × Bool)} (g : Nat) (hg : g ∈ L) (hx : ∀ G v, T x G v → v = .pointer (some ⟨g, 0, none⟩)) (hd : ∀ G v, IsF v → T d G v) :
    SafeOpG Tryz.prog T (fun G => FInv w0 R (G ++ L)) { dst := some d, op := .load 73 (.tmp x), type := t, pos := ps, after := af, guard := gd } :=
  SafeOpG.of fun G => safe_loadRow Tryz.underlying73 rfl size73 g 0 (fun v hv => hx G v hv) (by omega) (fun W hW => (hW.rows g (by simp [hg])).2) fun cs hcs => hd G _ ⟨cs, rfl, hcs⟩
variable (hR : RKept w0 R)
include hR
theorem F_call2 {d x y : Tmp} {f : FuncId} {ats : Array TypeId} {t : TypeId} {ps : String} {af : Array Edge} {gd : Option (Nat × Bool)} (hcall : ∀ args W, Sem.run Tryz.prog (callFunc f args) W = .ok (.enter f args) W)
    (hf : ∀ cs ds w, Ints .i64 16 cs → Ints .i64 16 ds → Calls Tryz.prog f #[.agg cs, .agg ds] w (FRes w)) (hx : ∀ G v, T x G v → IsF v) (hy : ∀ G v, T y G v → IsF v) (hd : ∀ G v, IsF v → T d G v) :
    SafeOpG Tryz.prog T (fun G => FInv w0 R (G ++ L)) { dst := some d, op := .call { callee := .value (.func f), args := #[.tmp x, .tmp y], argTypes := ats }, type := t, pos := ps, after := af, guard := gd } :=
  SafeOpG.of fun G => safe_call2 IsF IsF (fun v hv => hx G v hv) (fun v hv => hy G v hv) hcall fun a b W hI ⟨ca, ha, hca⟩ ⟨cb, hb, hcb⟩ => by
    subst ha hb
    refine (hf _ _ W hca hcb).mono ?_
    rintro e w' ⟨⟨c, rfl, hc⟩, hb⟩
    exact ⟨_, rfl, hI.call hR hb, fun d' hd' => by cases hd'; exact hd G _ ⟨c, rfl, hc⟩⟩
theorem F_call1 {d : Tmp} {x : Operand} {f : FuncId} {ats : Array TypeId} {t : TypeId} {ps : String} {af : Array Edge} {gd : Option (Nat × Bool)} (p q : Value → Prop) (hcall : ∀ args W, Sem.run Tryz.prog (callFunc f args) W = .ok (.enter f args) W)
    (hf : ∀ a w, p a → Calls Tryz.prog f #[a] w fun e w' => (∃ v, e = .returned v ∧ q v) ∧ Below w.heap.size w w') (hx : ∀ G, Opd (fun u => T u G) x p) (hd : ∀ G v, q v → T d G v) :
    SafeOpG Tryz.prog T (fun G => FInv w0 R (G ++ L)) { dst := some d, op := .call { callee := .value (.func f), args := #[x], argTypes := ats }, type := t, pos := ps, after := af, guard := gd } :=
  SafeOpG.of fun G => safe_call1 p (hx G) hcall fun a W hI ha => by
    refine (hf _ W ha).mono ?_
    rintro e w' ⟨⟨v, rfl, hv⟩, hb⟩
    exact ⟨_, rfl, hI.call hR hb, fun d' hd' => by cases hd'; exact hd G _ hv⟩
set_option maxRecDepth 100000 in
theorem F_alloc {d : Tmp} {t : TypeId} {ps : String} {af : Array Edge} {gd : Option (Nat × Bool)} (hd : ∀ G g, T d (g :: G) (.pointer (some ⟨g, 0, none⟩))) :
    SafeOpG Tryz.prog T (fun G => FInv w0 R (G ++ L)) { dst := some d, op := .alloc 73, type := t, pos := ps, after := af, guard := gd } :=
  safeG_alloc (.agg z16) (fun W => by kernel_rfl) fun G W hI => ⟨hI.alloc hR z16_ints, hd _ _⟩
theorem F_store {x y : Tmp} {t : TypeId} {ps : String} {af : Array Edge} {gd : Option (Nat × Bool)} (hx : ∀ G v, T x G v → ∃ g, g ∈ G ++ L ∧ v = .pointer (some ⟨g, 0, none⟩)) (hy : ∀ G v, T y G v → IsF v) :
    SafeOpG Tryz.prog T (fun G => FInv w0 R (G ++ L)) { dst := none, op := .store 73 (.tmp x) (.tmp y), type := t, pos := ps, after := af, guard := gd } :=
  SafeOpG.of fun G => safe_store _ _ (fun v hv => hx G v hv) (fun v hv => hy G v hv) fun a b W hI ⟨g, hg, ha⟩ ⟨cs, hb, hc⟩ => by
    subst ha hb
    exact ⟨_, (hI.rows g hg).2.store 0 16 (by omega) hc (fun _ _ => IsInt.one) size73 W rfl, hI.store hR hg hc, fun d' hd' => by cases hd'⟩
end
theorem call52 (args : Array Value) (W : World) : Sem.run Tryz.prog (callFunc 52 args) W = .ok (.enter 52 args) W := run_callGo (fn := Tryz.f52) (by kernel_rfl) (by kernel_rfl) (by kernel_rfl) args W
theorem call53 (args : Array Value) (W : World) : Sem.run Tryz.prog (callFunc 53 args) W = .ok (.enter 53 args) W := run_callGo (fn := Tryz.f53) (by kernel_rfl) (by kernel_rfl) (by kernel_rfl) args W
theorem call75 (args : Array Value) (W : World) : Sem.run Tryz.prog (callFunc 75 args) W = .ok (.enter 75 args) W := run_callGo (fn := Tryz.f75) (by kernel_rfl) (by kernel_rfl) (by kernel_rfl) args W
theorem call57 (args : Array Value) (W : World) : Sem.run Tryz.prog (callFunc 57 args) W = .ok (.enter 57 args) W := run_callGo (fn := Tryz.f57) (by kernel_rfl) (by kernel_rfl) (by kernel_rfl) args W
theorem call76 (args : Array Value) (W : World) : Sem.run Tryz.prog (callFunc 76 args) W = .ok (.enter 76 args) W := run_callGo (fn := Tryz.f76) (by kernel_rfl) (by kernel_rfl) (by kernel_rfl) args W
theorem call72 (args : Array Value) (W : World) : Sem.run Tryz.prog (callFunc 72 args) W = .ok (.enter 72 args) W := run_callGo (fn := Tryz.f72) (by kernel_rfl) (by kernel_rfl) (by kernel_rfl) args W
theorem call77 (args : Array Value) (W : World) : Sem.run Tryz.prog (callFunc 77 args) W = .ok (.enter 77 args) W := run_callGo (fn := Tryz.f77) (by kernel_rfl) (by kernel_rfl) (by kernel_rfl) args W
theorem call54 (args : Array Value) (W : World) : Sem.run Tryz.prog (callFunc 54 args) W = .ok (.enter 54 args) W := run_callGo (fn := Tryz.f54) (by kernel_rfl) (by kernel_rfl) (by kernel_rfl) args W
end Go.Proofs.YtcebfkhfnjbfjaaGreatDoor
namespace Go.Proofs.YtcebfkhfnjbfjaaGreatDoor
open Go.RowKit
def IsStr (n : Nat) (v : Value) : Prop := ∃ s : ByteArray, v = .string s ∧ s.size = n
def IsBool (v : Value) : Prop := ∃ b : Bool, v = .bool b
theorem rkept_true (w0 : World) : RKept w0 fun _ => True := ⟨fun _ _ _ _ => trivial, fun _ _ _ _ _ _ => trivial⟩
theorem run_eqStr {P : Program} (tx : TypeId) (a b : ByteArray) (W : World) : ∃ c : Bool, Sem.run P (binOp .eql tx (.string a) (.string b)) W = .ok (.bool c) W := ⟨_, by simp [binOp, Op.stringOp]; rfl⟩
theorem lPacked_call (a : Value) (w : World) (h : IsF a) : Calls Tryz.prog 57 #[a] w fun e w' => (∃ v, e = .returned v ∧ IsStr 32 v) ∧ Below w.heap.size w w' := by
  obtain ⟨cs, rfl, hc⟩ := h
  exact (lPacked_any cs w hc).mono fun e w' ⟨⟨s, h1, h2⟩, hb⟩ => ⟨⟨_, h1, s, rfl, h2⟩, hb⟩
set_option maxHeartbeats 1000000 in
set_option maxRecDepth 100000 in
theorem lSame_any (cs ds : Array Value) (w : World) (h : Ints .i64 16 cs) (h' : Ints .i64 16 ds) :
    Calls Tryz.prog 76 #[.agg cs, .agg ds] w fun e w' => (∃ b : Bool, e = .returned (.bool b)) ∧ Below w.heap.size w w' := by
  have hI : FInv w (fun _ => True) [w.heap.size, w.heap.size + 1] ((w.alloc (.cells cs 73)).alloc (.cells ds 73)) :=
    ⟨((Below.refl _ _).alloc (by simp <;> omega) _).alloc (by simp <;> omega) _, fun g hg => by
      simp only [List.mem_cons, List.not_mem_nil, or_false] at hg
      rcases hg with rfl | rfl
      · exact ⟨by omega, (Row.new h w 73).alloc _⟩
      · exact ⟨by omega, row_new2 h' w _⟩, trivial⟩
  go_enter Tryz.func76, Tryz.ntmps76
  go_wp2
  refine wp_region_typedG (by kernel_rfl) (fun u _ v => match u with
      | 2 => v = .pointer (some ⟨w.heap.size, 0, none⟩)
      | 3 => v = .pointer (some ⟨w.heap.size + 1, 0, none⟩)
      | 5 | 7 => IsF v
      | 6 | 8 => IsStr 32 v
      | 9 | 4 => IsBool v
      | _ => True) (fun G => FInv w (fun _ => True) (G ++ [w.heap.size, w.heap.size + 1])) (fun u G g v hv => hv)
    (by kernel_rfl) [5, 6, 7, 8, 9, 4] (by kernel_rfl) [2, 3] (by kernel_rfl) ?_ (hI.drew (rkept_true w)) ?_ ?_
  · simp
  · refine ⟨F_load w.heap.size (by simp) (fun G v hv => hv) (fun G v hv => hv),
      F_call1 (rkept_true w) IsF (IsStr 32) call57 lPacked_call (fun G v hv => hv) (fun G v hv => hv),
      F_load (w.heap.size + 1) (by simp) (fun G v hv => hv) (fun G v hv => hv),
      F_call1 (rkept_true w) IsF (IsStr 32) call57 lPacked_call (fun G v hv => hv) (fun G v hv => hv),
      SafeOpG.of fun G => safe_bin (IsStr 32) (IsStr 32) (fun v hv => hv) (fun v hv => hv) ?_,
      SafeOpG.of fun G => safe_assign fun d hd => by cases hd; exact fun v hv => hv, trivial⟩
    rintro a b W ⟨s, rfl, _⟩ ⟨t, rfl, _⟩
    obtain ⟨c, hc⟩ := run_eqStr (P := Tryz.prog) 9 s t W
    exact ⟨_, hc, by simp [eqGuard], fun d hd => by cases hd; exact ⟨c, rfl⟩⟩
  · rintro f w' G hI' hT
    obtain ⟨b, hb⟩ := hT 4 (by simp)
    simp only [putAll, List.setIfInBounds_toArray, List.set_cons_zero, List.set_cons_succ, hb]
    go_wp2
    go_ret
    exact ⟨⟨b, rfl⟩, hI'.below⟩
end Go.Proofs.YtcebfkhfnjbfjaaGreatDoor
namespace Go.Proofs.YtcebfkhfnjbfjaaGreatDoor
open Go.RowKit
set_option linter.unusedVariables false
set_option linter.unusedSimpArgs false
theorem Cells.imp {P Q : Nat → Value → Prop} {n : Nat} {cs : Array Value} (h : Cells P n cs) (hpq : ∀ i v, i < n → P i v → Q i v) : Cells Q n cs :=
  ⟨h.1, fun i hi => by obtain ⟨v, h1, h2⟩ := h.2 i hi; exact ⟨v, h1, hpq i v hi h2⟩⟩
theorem foldl_set_cells {P : Nat → Value → Prop} {n : Nat} (off : Nat) : ∀ (l : List (Value × Nat)) (cells : Array Value), Cells P n cells → (∀ x ∈ l, off + x.2 < n → P (off + x.2) x.1) → Cells P n (l.foldl (fun cs x => cs.setIfInBounds (off + x.2) x.1) cells)
  | [], _, h, _ => h
  | x :: r, cells, h, hp => by
    rw [List.foldl_cons]
    refine foldl_set_cells off r _ ?_ fun y hy => hp y (List.mem_cons_of_mem _ hy)
    refine ⟨by simpa using h.1, fun i hi => ?_⟩
    by_cases e : off + x.2 = i
    · exact ⟨x.1, by rw [Array.getElem?_setIfInBounds]; simp [e, h.1, hi], by rw [← e]; exact hp x (by simp) (by omega)⟩
    · obtain ⟨v, hv, hpv⟩ := h.2 i hi
      exact ⟨v, by rw [Array.getElem?_setIfInBounds]; simp [e, hv], hpv⟩
/-- A value built of parts: each cell is as its part says. -/
theorem fill_cells {P : Nat → Value → Prop} {n : Nat} (place : Nat → Option (Nat × Nat)) : ∀ (parts : List (Nat × Value)) (cells : Array Value), Cells P n cells →
    (∀ p ∈ parts, ∃ off size, place p.1 = some (off, size) ∧ off + size ≤ n ∧ Cells (fun i => P (off + i)) size p.2.cells) → ∃ cs, Instr.fill place cells parts = some cs ∧ Cells P n cs
  | [], cells, h, _ => ⟨cells, rfl, h⟩
  | (i, v) :: rest, cells, h, hp => by
    obtain ⟨off, size, h1, h2, h3⟩ := hp (i, v) (by simp)
    dsimp only at h1 h3
    obtain ⟨cs, h4, h5⟩ := fill_cells place rest (v.cells.zipIdx.foldl (fun cs x => cs.setIfInBounds (off + x.2) x.1) cells) (by
      rw [← Array.foldl_toList, Array.toList_zipIdx]
      refine foldl_set_cells off _ _ h fun x hx hlt => ?_
      obtain ⟨u, j⟩ := x
      rw [List.mem_zipIdx_iff_getElem?] at hx
      exact h3.list j u (by simpa using hx)) fun p hm => hp p (List.mem_cons_of_mem _ hm)
    refine ⟨cs, ?_, h5⟩
    have hs : v.cells.size = size := h3.1
    have hc : cells.size = n := h.1
    unfold Instr.fill
    simp only [h1]
    rw [if_neg (by simp [hs]; omega)]
    exact h4

abbrev z64 : Array Value := #[.int .i64 0, .int .i64 0, .int .i64 0, .int .i64 0, .int .i64 0, .int .i64 0, .int .i64 0, .int .i64 0, .int .i64 0, .int .i64 0, .int .i64 0, .int .i64 0, .int .i64 0, .int .i64 0, .int .i64 0, .int .i64 0, .int .i64 0, .int .i64 0, .int .i64 0, .int .i64 0, .int .i64 0, .int .i64 0, .int .i64 0, .int .i64 0, .int .i64 0, .int .i64 0, .int .i64 0, .int .i64 0, .int .i64 0, .int .i64 0, .int .i64 0, .int .i64 0, .int .i64 0, .int .i64 0, .int .i64 0, .int .i64 0, .int .i64 0, .int .i64 0, .int .i64 0, .int .i64 0, .int .i64 0, .int .i64 0, .int .i64 0, .int .i64 0, .int .i64 0, .int .i64 0, .int .i64 0, .int .i64 0, .int .i64 0, .int .i64 0, .int .i64 0, .int .i64 0, .int .i64 0, .int .i64 0, .int .i64 0, .int .i64 0, .int .i64 0, .int .i64 0, .int .i64 0, .int .i64 0, .int .i64 0, .int .i64 0, .int .i64 0, .int .i64 0]
theorem size75 : (Tryz.prog.info? 75).map (·.size) = some 64 := by kernel_rfl
theorem built75 (parts : List (Nat × Value)) : Tryz.prog.built 75 parts = Instr.fill (#[(0, 16), (16, 16), (32, 16), (48, 16)][·]?) z64 parts := by kernel_rfl
theorem z64_ints : Ints .i64 64 z64 := ints_of_arr (by kernel_rfl) (by kernel_rfl)
/-- A point. -/
def IsPt (v : Value) : Prop := ∃ cs, v = .agg cs ∧ Ints .i64 64 cs
theorem build_pt (a b c d : Array Value) (ha : Ints .i64 16 a) (hb : Ints .i64 16 b) (hc : Ints .i64 16 c) (hd : Ints .i64 16 d) (W : World) :
    ∃ cs, Sem.run Tryz.prog (Instr.build 75 #[(0, .agg a), (1, .agg b), (2, .agg c), (3, .agg d)]) W = .ok (.agg cs) W ∧ Ints .i64 64 cs := by
  obtain ⟨cs, h1, h2⟩ := fill_cells (P := fun _ => IsInt .i64) (n := 64) (#[(0, 16), (16, 16), (32, 16), (48, 16)][·]?) [(0, .agg a), (1, .agg b), (2, .agg c), (3, .agg d)] z64 z64_ints (by
    intro p hp
    simp only [List.mem_cons, List.not_mem_nil, or_false] at hp
    rcases hp with rfl | rfl | rfl | rfl
    · exact ⟨0, 16, rfl, by omega, ha⟩
    · exact ⟨16, 16, rfl, by omega, hb⟩
    · exact ⟨32, 16, rfl, by omega, hc⟩
    · exact ⟨48, 16, rfl, by omega, hd⟩)
  exact ⟨cs, run_build W 75 _ cs (by rw [built75]; exact h1), h2⟩
section
variable {P : Program} {T : Tmp → Value → Prop} {I : World → Prop}
theorem safe_build4 {d x y z u : Tmp} {t ty : TypeId} {ps : String} {af : Array Edge} {gd : Option (Nat × Bool)} (p q : Value → Prop) (hx : ∀ v, T x v → p v) (hy : ∀ v, T y v → p v) (hz : ∀ v, T z v → p v) (hu : ∀ v, T u v → p v)
    (h : ∀ a b c e W, p a → p b → p c → p e → ∃ v, Sem.run P (Instr.build ty #[(0, a), (1, b), (2, c), (3, e)]) W = .ok v W ∧ q v) (hd : ∀ v, q v → T d v) :
    SafeOp P T I { dst := some d, op := .build ty #[(0, .tmp x), (1, .tmp y), (2, .tmp z), (3, .tmp u)], type := t, pos := ps, after := af, guard := gd } := by
  intro ρ w hI hT hc hf
  obtain ⟨v, h1, h2⟩ := h _ _ _ _ w (hx _ (hT x (by simp [Op.operands]))) (hy _ (hT y (by simp [Op.operands]))) (hz _ (hT z (by simp [Op.operands]))) (hu _ (hT u (by simp [Op.operands])))
  have e : Sem.run P (execOp ρ { dst := some d, op := .build ty #[(0, .tmp x), (1, .tmp y), (2, .tmp z), (3, .tmp u)], type := t, pos := ps, after := af, guard := gd }) w = .ok (.value v) w := by
    simp only [execOp, List.map_toArray, List.map_cons, List.map_nil, Sem.run_bind, h1, Result.andThen_ok, Sem.run_pure]
  rw [e]
  exact ⟨hI, fun d' hd' => by cases hd'; exact hd _ h2⟩
theorem run_fieldAt {P : Program} {ty : TypeId} {fs : Array Field} {i : Nat} {f : Field} (hu : P.underlying ty = some (.struct fs)) (hf : fs[i]? = some f) {sz : Nat} (hs : (P.info? f.type).map (·.size) = some sz) (h0 : sz ≠ 0) (g o : Nat) (W : World) :
    Sem.run P (Instr.fieldAt ty (.pointer (some ⟨g, o, none⟩)) i) W = .ok (.pointer (some ⟨g, o + f.offset, none⟩)) W := by
  cases hq : P.info? f.type with
  | none => simp [hq] at hs
  | some inf =>
    have hs' : inf.size = sz := by simpa [hq] using hs
    simp [Instr.fieldAt, run_underlying hu, hf, Instr.sureAddr, fieldPlace, sizeOf, typeInfo, hq, hs', h0, Addr.add_mid]
theorem safe_fieldAddr {d : Tmp} {x : Operand} {ty t : TypeId} {i : Nat} {ps : String} {af : Array Edge} {gd : Option (Nat × Bool)} {fs : Array Field} {f : Field} (hu : P.underlying ty = some (.struct fs)) (hf : fs[i]? = some f) {sz : Nat} (hs : (P.info? f.type).map (·.size) = some sz) (h0 : sz ≠ 0)
    (g o : Nat) (hx : Opd T x (· = .pointer (some ⟨g, o, none⟩))) (h : T d (.pointer (some ⟨g, o + f.offset, none⟩))) :
    SafeOp P T I { dst := some d, op := .fieldAddr ty x i, type := t, pos := ps, after := af, guard := gd } := by
  intro ρ w hI hT hc hf'
  have hp := hx.at_ (l := #[x]) (by simp) hT hc
  simp only [execOp, Sem.run_bind, hp, run_fieldAt hu hf hs h0, Result.andThen_ok, Sem.run_pure]
  exact ⟨hI, fun d' hd => by cases hd; exact h⟩
theorem safe_not {d : Tmp} {x : Operand} {tx t : TypeId} {ps : String} {af : Array Edge} {gd : Option (Nat × Bool)} (hx : Opd T x IsBool) (h : ∀ v, IsBool v → T d v) :
    SafeOp P T I { dst := some d, op := .unOp .not tx x, type := t, pos := ps, after := af, guard := gd } := by
  intro ρ w hI hT hc hf
  obtain ⟨b, hb⟩ := hx.at_ (l := #[x]) (by simp) hT hc
  have e : Sem.run P (execOp ρ { dst := some d, op := .unOp .not tx x, type := t, pos := ps, after := af, guard := gd }) w = .ok (.value (.bool !b)) w := by
    simp [execOp, hb, Op.unary]
  rw [e]
  exact ⟨hI, fun d' hd => by cases hd; exact h _ ⟨_, rfl⟩⟩
/-- A byte of a text of known length, at a known place. -/
theorem safe_indexStr {d : Tmp} {x y : Operand} {tx t : TypeId} {ps : String} {af : Array Edge} {gd : Option (Nat × Bool)} {k : IntKind} (hu : P.underlying tx = some .string) (n j : Nat) (hj : j < n) (hx : Opd T x (IsStr n)) (hy : Opd T y (· = .int k (j : Int))) (h : ∀ v, IsInt .u8 v → T d v) :
    SafeOp P T I { dst := some d, op := .index tx x y, type := t, pos := ps, after := af, guard := gd } := by
  intro ρ w hI hT hc hf
  obtain ⟨s, hs, hn⟩ := hx.at_ (l := #[x, y]) (by simp) hT hc
  have hp := hy.at_ (l := #[x, y]) (by simp) hT hc
  obtain ⟨z, _, hz⟩ := str_index (P := P) hu s k (j : Int) j rfl (by omega)
  simp only [execOp, Sem.run_bind, hs, hp, hz, Result.andThen_ok, Sem.run_pure]
  exact ⟨hI, fun d' hd => by cases hd; exact h _ ⟨z, rfl⟩⟩
theorem safe_cmp {d : Tmp} {x y : Operand} {tx ty t : TypeId} {ps : String} {af : Array Edge} {gd : Option (Nat × Bool)} {k : IntKind} {op : BinOp} (hop : op = .eql ∨ op = .neq ∨ op = .lss ∨ op = .geq ∨ op = .gtr ∨ op = .leq) (hx : Opd T x (IsInt k)) (hy : Opd T y (IsInt k)) (h : ∀ v, IsBool v → T d v) :
    SafeOp P T I { dst := some d, op := .binOp op tx x y ty, type := t, pos := ps, after := af, guard := gd } :=
  safe_bin _ _ hx hy fun u v W hu hv => by
    obtain ⟨a, rfl⟩ := hu
    obtain ⟨b, rfl⟩ := hv
    have e : ∃ c : Bool, Sem.run P (binOp op tx (.int k a) (.int k b)) W = .ok (.bool c) W := by
      rcases hop with rfl | rfl | rfl | rfl | rfl | rfl <;> exact ⟨_, by simp [binOp, Op.intCmp]; rfl⟩
    obtain ⟨c, hc⟩ := e
    exact ⟨_, hc, by rcases hop with rfl | rfl | rfl | rfl | rfl | rfl <;> simp [eqGuard], fun d' hd => by cases hd; exact h _ ⟨c, rfl⟩⟩
end
theorem lSmall_call (x : Int) (w : World) : Calls Tryz.prog 53 #[.int .i64 x] w fun e w' => (∃ v, e = .returned v ∧ IsF v) ∧ Below w.heap.size w w' :=
  (lSmall_any x w).mono fun e w' ⟨⟨c, h1, h2⟩, hb⟩ => ⟨⟨_, h1, c, rfl, h2⟩, hb⟩
theorem lOver_call (a : Value) (w : World) (h : IsF a) : Calls Tryz.prog 54 #[a] w fun e w' => (∃ v, e = .returned v ∧ IsF v) ∧ Below w.heap.size w w' := by
  obtain ⟨cs, rfl, hc⟩ := h
  exact (lOver_any cs w hc).mono fun e w' ⟨⟨c, h1, h2⟩, hb⟩ => ⟨⟨_, h1, c, rfl, h2⟩, hb⟩
section
variable {T : Tmp → List Nat → Value → Prop} {w0 : World} {R : World → Prop} {L : List Nat} (hR : RKept w0 R)
include hR
theorem F_callB {d x y : Tmp} {ats : Array TypeId} {t : TypeId} {ps : String} {af : Array Edge} {gd : Option (Nat × Bool)} (hcall : ∀ args W, Sem.run Tryz.prog (callFunc 76 args) W = .ok (.enter 76 args) W)
    (hx : ∀ G v, T x G v → IsF v) (hy : ∀ G v, T y G v → IsF v) (hd : ∀ G v, IsBool v → T d G v) :
    SafeOpG Tryz.prog T (fun G => FInv w0 R (G ++ L)) { dst := some d, op := .call { callee := .value (.func 76), args := #[.tmp x, .tmp y], argTypes := ats }, type := t, pos := ps, after := af, guard := gd } :=
  SafeOpG.of fun G => safe_call2 IsF IsF (fun v hv => hx G v hv) (fun v hv => hy G v hv) hcall fun a b W hI ⟨ca, ha, hca⟩ ⟨cb, hb, hcb⟩ => by
    subst ha hb
    refine (lSame_any _ _ W hca hcb).mono ?_
    rintro e w' ⟨⟨c, rfl⟩, hb⟩
    exact ⟨_, rfl, hI.call hR hb, fun d' hd' => by cases hd'; exact hd G _ ⟨c, rfl⟩⟩
theorem F_call72 {d x : Tmp} {b l : Int} {ats : Array TypeId} {t : TypeId} {ps : String} {af : Array Edge} {gd : Option (Nat × Bool)} (hb0 : 0 ≤ b) (hb1 : b < 256) (hx : ∀ G v, T x G v → IsF v) (hd : ∀ G v, IsF v → T d G v) :
    SafeOpG Tryz.prog T (fun G => FInv w0 R (G ++ L)) { dst := some d, op := .call { callee := .value (.func 72), args := #[.tmp x, .const (.int .u64 b), .const (.int .u32 l)], argTypes := ats }, type := t, pos := ps, after := af, guard := gd } :=
  SafeOpG.of fun G => by
    intro ρ W hI hT hc hf
    obtain ⟨ca, ha, hca⟩ := hx G _ (hT x (by simp [Op.operands, Call.operands]))
    have e : execOp ρ { dst := some d, op := .call { callee := .value (.func 72), args := #[.tmp x, .const (.int .u64 b), .const (.int .u32 l)], argTypes := ats }, type := t, pos := ps, after := af, guard := gd } = callFunc 72 #[ρ (.tmp x), .int .u64 b, .int .u32 l] := by
      simp [execOp, resolve, hf, hc, Deferred.ofValue, invoke]
    rw [e, call72, ha]
    refine (lTo_any ca b l W hca hb0 hb1).mono ?_
    rintro e w' ⟨⟨c, rfl, hc2⟩, hb⟩
    exact ⟨_, rfl, hI.call hR hb, fun d' hd' => by cases hd'; exact hd G _ ⟨c, rfl, hc2⟩⟩
theorem F_call77 {d : Tmp} {ats : Array TypeId} {t : TypeId} {ps : String} {af : Array Edge} {gd : Option (Nat × Bool)} (hd : ∀ G v, IsF v → T d G v) :
    SafeOpG Tryz.prog T (fun G => FInv w0 R (G ++ L)) { dst := some d, op := .call { callee := .value (.func 77), args := #[], argTypes := ats }, type := t, pos := ps, after := af, guard := gd } :=
  SafeOpG.of fun G => by
    intro ρ W hI hT hc hf
    have e : execOp ρ { dst := some d, op := .call { callee := .value (.func 77), args := #[], argTypes := ats }, type := t, pos := ps, after := af, guard := gd } = callFunc 77 #[] := by
      simp [execOp, resolve, hf, Deferred.ofValue, invoke]
    rw [e, call77]
    refine (lTurn_any W).mono ?_
    rintro e w' ⟨⟨c, rfl, hc2⟩, hb⟩
    exact ⟨_, rfl, hI.call hR hb, fun d' hd' => by cases hd'; exact hd G _ ⟨c, rfl, hc2⟩⟩
end
/-- What is made of rows of other element types is kept. -/
theorem rkept_row {w0 : World} {P : Nat → Value → Prop} {n E b : Nat} (hE : E ≠ 73) : RKept w0 (Row P n E b) :=
  ⟨fun W W' h hb => h.below hb h.lt, fun W g cs h hg _ => h.setCellsOther (h.ne hg hE) cs 0⟩
theorem RKept.and {w0 : World} {R S : World → Prop} (h : RKept w0 R) (k : RKept w0 S) : RKept w0 fun W => R W ∧ S W :=
  ⟨fun W W' hr hb => ⟨h.below W W' hr.1 hb, k.below W W' hr.2 hb⟩, fun W g cs hr hg hw => ⟨h.store W g cs hr.1 hg hw, k.store W g cs hr.2 hg hw⟩⟩
theorem curve_edge {cs : Array Value} (h : Cells (fun i => curveP (0 + i)) 16 cs) : Ints .i64 16 cs :=
  h.imp fun i v hi hv => by
    have : i < 80 := by omega
    simpa [curveP, this] using hv
theorem build73 (W : World) : Sem.run Tryz.prog (Instr.build 73 #[]) W = .ok (.agg z16) W := by kernel_rfl
theorem build75 (W : World) : Sem.run Tryz.prog (Instr.build 75 #[]) W = .ok (.agg z64) W := by kernel_rfl
theorem safe_build0 {P : Program} {T : Tmp → Value → Prop} {I : World → Prop} {d : Tmp} {t ty : TypeId} {ps : String} {af : Array Edge} {gd : Option (Nat × Bool)} (q : Value → Prop)
    (h : ∀ W, ∃ v, Sem.run P (Instr.build ty #[]) W = .ok v W ∧ q v) (hd : ∀ v, q v → T d v) :
    SafeOp P T I { dst := some d, op := .build ty #[], type := t, pos := ps, after := af, guard := gd } := by
  intro ρ w hI hT hc hf
  obtain ⟨v, h1, h2⟩ := h w
  have e : Sem.run P (execOp ρ { dst := some d, op := .build ty #[], type := t, pos := ps, after := af, guard := gd }) w = .ok (.value v) w := by
    simp only [execOp, List.map_toArray, List.map_nil, Sem.run_bind, h1, Result.andThen_ok, Sem.run_pure]
  rw [e]
  exact ⟨hI, fun d' hd' => by cases hd'; exact hd _ h2⟩
/-- A point is written into its row. -/
theorem F_storePt {T : Tmp → List Nat → Value → Prop} {w0 : World} {L : List Nat} {x y : Tmp} {t : TypeId} {ps : String} {af : Array Edge} {gd : Option (Nat × Bool)} (_hR : RKept w0 (fun W => Row curveP 169 82 w0.heap.size W ∧ IRow .i64 64 75 (w0.heap.size + 1) W))
    (hx : ∀ G v, T x G v → v = .pointer (some ⟨w0.heap.size + 1, 0, none⟩)) (hy : ∀ G v, T y G v → IsPt v) :
    SafeOpG Tryz.prog T (fun G => FInv w0 (fun W => Row curveP 169 82 w0.heap.size W ∧ IRow .i64 64 75 (w0.heap.size + 1) W) (G ++ L)) { dst := none, op := .store 75 (.tmp x) (.tmp y), type := t, pos := ps, after := af, guard := gd } :=
  SafeOpG.of fun G => safe_store _ _ (fun v hv => hx G v hv) (fun v hv => hy G v hv) fun a b W hI ha ⟨cs, hb, hc⟩ => by
    subst ha hb
    refine ⟨_, hI.rest.2.store 0 64 (by omega) hc (fun _ _ => IsInt.one) size75 W rfl, ⟨below_setCells (by omega) _ _ hI.below, fun g hg => ⟨(hI.rows g hg).1, (hI.rows g hg).2.setCellsOther ((hI.rows g hg).2.ne hI.rest.2 (by decide)) _ _⟩, hI.rest.1.setCellsOther (by omega) _ _, hI.rest.2.setCells _ _ fun j v hv _ => hc.list j v (by simpa using hv)⟩, fun d' hd' => by cases hd'⟩
theorem results_Row2 {P : Program} {fn : Func} {p q : Tmp} {ty : TypeId} (h : fn.results = #[.cell p ty, .tmp q]) (tmps : Array Value) (w : World) (g : Nat) {Pp : Nat → Value → Prop} {n E : Nat} (hr : Row Pp n E g w) (d : TypeDesc)
    (hp : tmps.getD p undef = .pointer (some ⟨g, 0, none⟩)) (hu : P.underlying ty = some d) (hd : (match d with | .struct _ | .array _ _ => true | _ => false) = true) (hi : (P.info? ty).map (·.size) = some n) :
    ∃ cs, Cells Pp n cs ∧ (results fn tmps).run P w = .ok (.tuple #[.agg cs, tmps.getD q undef]) w := by
  obtain ⟨cs, h1, h2⟩ := hr
  refine ⟨cs, h2, ?_⟩
  have hp' : tmps[p]?.getD undef = .pointer (some ⟨g, 0, none⟩) := by simpa using hp
  simp [results, h, hp', asAddr, run_loadVar_row w g E ty cs (0, 0) d h1 hu hd (by rw [hi, h2.1])]
theorem ret_found {R : Ending → World → Prop} {a : Act} {w : World} (g : Nat) (b : Bool) (hp : a.tmps.getD 4 undef = .pointer (some ⟨g, 0, none⟩)) (hq : a.tmps.getD 5 undef = .bool b)
    {E : Nat} (hr : IRow .i64 64 E g w) (hdef : a.defers = []) (hR : ∀ cs, Ints .i64 64 cs → R (.returned (.tuple #[.agg cs, .bool b])) w) : bodyPost Tryz.prog Tryz.f56 R .ret a w := by
  obtain ⟨cs, h1, h2⟩ := results_Row2 (P := Tryz.prog) (fn := Tryz.f56) Tryz.results56 a.tmps w g hr _ hp Tryz.underlying75 rfl size75
  rw [hq] at h2
  exact bodyPost_ret h2 hdef (hR cs h1)
end Go.Proofs.YtcebfkhfnjbfjaaGreatDoor
