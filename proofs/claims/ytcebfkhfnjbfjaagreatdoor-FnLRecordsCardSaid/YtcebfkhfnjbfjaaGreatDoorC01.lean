/- Words of shape for rows of cells: what each cell of a row is, kept by every write that keeps it. -/
import Derived.Test.YtcebfkhfnjbfjaaGreatDoorProg
import Derived.WalkKit
import Derived.WalkSpells
import Derived.WalkLawsBesides
import Derived.Deep.LoopGhost
import Derived.Deep.MidRow
namespace Go.Proofs.YtcebfkhfnjbfjaaGreatDoor
open Go.RowKit

/-- The value is a number of kind k. -/
def IsInt (k : IntKind) (v : Value) : Prop := ∃ x : Int, v = .int k x
/-- Cell i of the n cells is as P says. -/
def Cells (P : Nat → Value → Prop) (n : Nat) (cs : Array Value) : Prop := cs.size = n ∧ ∀ i, i < n → ∃ v, cs[i]? = some v ∧ P i v
/-- n numbers of kind k. -/
abbrev Ints (k : IntKind) (n : Nat) (cs : Array Value) : Prop := Cells (fun _ => IsInt k) n cs
/-- Block b is a row of n cells of element type E, each as P says; none is frozen. -/
def Row (P : Nat → Value → Prop) (n : Nat) (E : TypeId) (b : Nat) (w : World) : Prop := ∃ cs, w.heap[b]? = some (.cells cs E (0, 0)) ∧ Cells P n cs
abbrev IRow (k : IntKind) (n : Nat) (E : TypeId) (b : Nat) (w : World) : Prop := Row (fun _ => IsInt k) n E b w

theorem Row.lt {P : Nat → Value → Prop} {n E b : Nat} {w : World} (h : Row P n E b w) : b < w.heap.size := by
  obtain ⟨cs, h1, _⟩ := h
  exact (Array.getElem?_eq_some_iff.1 h1).1
theorem Row.get {P : Nat → Value → Prop} {n E b : Nat} {w : World} (h : Row P n E b w) {i : Nat} (hi : i < n) : ∃ v, w.cell? ⟨b, i, none⟩ = some v ∧ P i v := by
  obtain ⟨cs, h1, _, h3⟩ := h
  obtain ⟨v, hv, hp⟩ := h3 i hi
  exact ⟨v, by rw [cell_of_row w b i cs E _ h1]; exact hv, hp⟩
theorem Row.int {k : IntKind} {n E b : Nat} {w : World} (h : IRow k n E b w) {i : Nat} (hi : i < n) : ∃ x, w.cell? ⟨b, i, none⟩ = some (.int k x) := by
  obtain ⟨v, h1, x, rfl⟩ := h.get hi
  exact ⟨x, h1⟩
theorem Row.free {P : Nat → Value → Prop} {n E b : Nat} {w : World} (h : Row P n E b w) (i : Nat) : w.frozen? ⟨b, i, none⟩ = false := by
  obtain ⟨cs, h1, _⟩ := h
  exact frozen_of_row w b i cs E h1
theorem Row.set {P : Nat → Value → Prop} {n E b : Nat} {w : World} (h : Row P n E b w) {i : Nat} {v : Value} (hp : i < n → P i v) : Row P n E b (w.setCell ⟨b, i, none⟩ v) := by
  obtain ⟨cs, h1, h2, h3⟩ := h
  refine ⟨_, heap_setCell_same w b i cs E v h1, by simpa using h2, fun j hj => ?_⟩
  by_cases e : i = j
  · subst e
    exact ⟨v, by rw [Array.getElem?_setIfInBounds]; simp [h2, hj], hp hj⟩
  · obtain ⟨u, hu, hp'⟩ := h3 j hj
    exact ⟨u, by rw [Array.getElem?_setIfInBounds]; simp [e, hu], hp'⟩
theorem Row.setOther {P : Nat → Value → Prop} {n E b : Nat} {w : World} (h : Row P n E b w) {a : Addr} (hne : b ≠ a.block) (v : Value) : Row P n E b (w.setCell a v) := by
  obtain ⟨cs, h1, h2⟩ := h
  exact ⟨cs, by rw [heap_setCell_other w a b v hne]; exact h1, h2⟩
theorem Row.alloc {P : Nat → Value → Prop} {n E b : Nat} {w : World} (h : Row P n E b w) (o : Obj) : Row P n E b (w.alloc o) := by
  have hl := h.lt
  obtain ⟨cs, h1, h2⟩ := h
  exact ⟨cs, by rw [Below.heap_alloc w o b hl]; exact h1, h2⟩
theorem Row.drew {P : Nat → Value → Prop} {n E b : Nat} {w : World} (h : Row P n E b w) : Row P n E b w.drew := h
theorem Row.new {P : Nat → Value → Prop} {n : Nat} {cs : Array Value} (h : Cells P n cs) (w : World) (E : TypeId) : Row P n E w.heap.size (w.alloc (.cells cs E)) := ⟨cs, heap_alloc_new _ _, h⟩
theorem Row.below {P : Nat → Value → Prop} {n E b B : Nat} {w w' : World} (h : Row P n E b w) (hb : Below B w w') (hlt : b < B) : Row P n E b w' := by
  obtain ⟨cs, h1, h2⟩ := h
  exact ⟨cs, by rw [hb.block b hlt]; exact h1, h2⟩

/-- Decidable shape of a literal row of numbers. -/
def allInt (k : IntKind) : List Value → Bool
  | [] => true
  | .int k' _ :: r => decide (k' = k) && allInt k r
  | _ => false
theorem allInt_get {k : IntKind} : ∀ {l : List Value}, allInt k l = true → ∀ v ∈ l, IsInt k v
  | [], _, v, hv => by simp at hv
  | u :: r, h, v, hv => by
    cases u with
    | int k' x =>
      simp only [allInt, Bool.and_eq_true, decide_eq_true_eq] at h
      rcases List.mem_cons.1 hv with rfl | hv
      · exact ⟨x, by rw [h.1]⟩
      · exact allInt_get h.2 v hv
    | _ => simp [allInt] at h
theorem ints_of_list {k : IntKind} {l : List Value} {n : Nat} (h : allInt k l = true) (hn : l.length = n) : Ints k n l.toArray := by
  refine ⟨by simpa using hn, fun i hi => ?_⟩
  have hi' : i < l.length := by omega
  exact ⟨l[i], by simp [List.getElem?_eq_getElem hi'], allInt_get h _ (List.getElem_mem hi')⟩

theorem ints_of_arr {k : IntKind} {cs : Array Value} {n : Nat} (h : allInt k cs.toList = true) (hn : cs.size = n) : Ints k n cs := by
  have := ints_of_list h (n := n) (by simpa using hn)
  simpa using this

/-! Whole rows -/
section
variable {P : Program}
theorem Cells.one {Pp : Nat → Value → Prop} {n : Nat} {cs : Array Value} (h : Cells Pp n cs) (h1 : ∀ i v, Pp i v → v.oneCell' = true) : cs.all (·.oneCell') = true := by
  rw [Array.all_eq_true]
  intro i hi
  obtain ⟨v, hv, hp⟩ := h.2 i (by rw [← h.1]; exact hi)
  rw [Array.getElem?_eq_getElem hi] at hv
  obtain rfl := Option.some.inj hv
  exact h1 _ _ hp
theorem IsInt.one {k : IntKind} {v : Value} (h : IsInt k v) : v.oneCell' = true := by obtain ⟨x, rfl⟩ := h; rfl
/-- A whole row is read. -/
theorem wpList_load_Row {ops : Array Oper} {rest : List Oper} {o : Oper} {a : Act} {w : World} {Q : Exit → Act → World → Prop} (hgd : o.guard = none) (ty : TypeId) (x : Operand) (ho : o.op = .load ty x)
    (g : Nat) (hx : a.eval x = .pointer (some ⟨g, 0, none⟩)) {Pp : Nat → Value → Prop} {n E : Nat} (hr : Row Pp n E g w) (d : TypeDesc)
    (hu : P.underlying ty = some d) (hd : (match d with | .struct _ | .array _ _ => true | _ => false) = true) (hi : (P.info? ty).map (·.size) = some n)
    (h : ∀ cs, Cells Pp n cs → wpList P ops Q rest (a.put o.dst (.agg cs)) w) : wpList P ops Q (o :: rest) a w := by
  obtain ⟨cs, h1, h2⟩ := hr
  exact wpList_load_row hgd ty x ho g hx E cs (0, 0) d h1 hu hd (by rw [hi, h2.1]) (h cs h2)
/-- A whole row is written. -/
theorem wpList_store_Row {ops : Array Oper} {rest : List Oper} {o : Oper} {a : Act} {w : World} {Q : Exit → Act → World → Prop} (hgd : o.guard = none) (ty : TypeId) (x y : Operand) (ho : o.op = .store ty x y)
    (g : Nat) (cs : Array Value) (hx : a.eval x = .pointer (some ⟨g, 0, none⟩)) (hy : a.eval y = .agg cs) {Pp Pq : Nat → Value → Prop} {n E : Nat} (hr : Row Pp n E g w) (hc : Cells Pq n cs)
    (h1 : ∀ i v, Pq i v → v.oneCell' = true) (hi : (P.info? ty).map (·.size) = some n)
    (h : wpList P ops Q rest (a.put o.dst undef) (w.setRow g cs)) : wpList P ops Q (o :: rest) a w := by
  obtain ⟨old, h2, h3⟩ := hr
  exact wpList_store_row hgd ty x y ho g cs hx hy E old h2 (by rw [hi, hc.1]) (by rw [h3.1, hc.1]) (hc.one h1) h
theorem Row.setRow {Pp Pq : Nat → Value → Prop} {n E b : Nat} {w : World} {cs : Array Value} (h : Row Pp n E b w) (hc : Cells Pq n cs) : Row Pq n E b (w.setRow b cs) := by
  obtain ⟨old, h2, h3⟩ := h
  exact ⟨cs, setRow_heap w b old cs E (0, 0) h2, hc⟩
theorem Row.setRowOther {Pp : Nat → Value → Prop} {n E b g : Nat} {w : World} (h : Row Pp n E b w) (hne : b ≠ g) (cs : Array Value) : Row Pp n E b (w.setRow g cs) := by
  obtain ⟨old, h2, h3⟩ := h
  exact ⟨old, by rw [setRow_other w g b cs hne]; exact h2, h3⟩
theorem below_setRow' {B g : Nat} {w0 w : World} (hb : Below B w0 w) (hBg : B ≤ g) (cs : Array Value) : Below B w0 (w.setRow g cs) :=
  hb.trans ⟨rfl, rfl, rfl, by simp, fun k hk => setRow_other w g k cs (by omega)⟩
/-- The function's result is a whole row. -/
theorem results_Row {fn : Func} {p : Tmp} {ty : TypeId} (h : fn.results = #[.cell p ty]) (tmps : Array Value) (w : World) (g : Nat) {Pp : Nat → Value → Prop} {n E : Nat} (hr : Row Pp n E g w) (d : TypeDesc)
    (hp : tmps.getD p undef = .pointer (some ⟨g, 0, none⟩)) (hu : P.underlying ty = some d) (hd : (match d with | .struct _ | .array _ _ => true | _ => false) = true) (hi : (P.info? ty).map (·.size) = some n) :
    ∃ cs, Cells Pp n cs ∧ (results fn tmps).run P w = .ok (.agg cs) w := by
  obtain ⟨cs, h1, h2⟩ := hr
  exact ⟨cs, h2, results_cell_row h tmps w g E cs (0, 0) d hp h1 hu hd (by rw [hi, h2.1])⟩
/-- The function returns a whole row. -/
theorem ret_Row {fn : Func} {R : Ending → World → Prop} {p : Tmp} {ty : TypeId} (h : fn.results = #[.cell p ty]) {a : Act} {w : World} (g : Nat) (hp : a.tmps.getD p undef = .pointer (some ⟨g, 0, none⟩))
    {Pp : Nat → Value → Prop} {n E : Nat} (hr : Row Pp n E g w) (d : TypeDesc) (hu : P.underlying ty = some d) (hd : (match d with | .struct _ | .array _ _ => true | _ => false) = true) (hi : (P.info? ty).map (·.size) = some n)
    (hdef : a.defers = []) (hR : ∀ cs, Cells Pp n cs → R (.returned (.agg cs)) w) : bodyPost P fn R .ret a w := by
  obtain ⟨cs, h1, h2⟩ := results_Row h a.tmps w g hr d hp hu hd hi
  exact bodyPost_ret h2 hdef (hR cs h1)
/-! Parts of rows -/
theorem Row.setCells {Pp : Nat → Value → Prop} {n E b : Nat} : ∀ (vs : List Value) (o : Nat) {w : World}, Row Pp n E b w → (∀ j v, vs[j]? = some v → o + j < n → Pp (o + j) v) → Row Pp n E b (w.setCells b o vs)
  | [], _, _, h, _ => h
  | v :: r, o, w, h, hp => by
    rw [World.setCells]
    refine Row.setCells r (o + 1) (h.set fun hi => hp 0 v rfl hi) fun j u hu hj => ?_
    have := hp (j + 1) u (by simpa using hu) (by omega)
    rwa [show o + (j + 1) = o + 1 + j by omega] at this
theorem Row.setCellsOther {Pp : Nat → Value → Prop} {n E b g : Nat} (hne : b ≠ g) : ∀ (vs : List Value) (o : Nat) {w : World}, Row Pp n E b w → Row Pp n E b (w.setCells g o vs)
  | [], _, _, h => h
  | v :: r, o, w, h => by
    rw [World.setCells]
    exact Row.setCellsOther hne r (o + 1) (h.setOther hne v)
theorem below_setCells {B g : Nat} {w0 : World} (hBg : B ≤ g) : ∀ (vs : List Value) (o : Nat) {w : World}, Below B w0 w → Below B w0 (w.setCells g o vs)
  | [], _, _, h => h
  | v :: r, o, w, h => by
    rw [World.setCells]
    exact below_setCells hBg r (o + 1) (h.setCell hBg v)
theorem Row.heap {Pp : Nat → Value → Prop} {n E b : Nat} {w w' : World} (h : Row Pp n E b w) (e : w'.heap = w.heap) : Row Pp n E b w' := by
  obtain ⟨cs, h1, h2⟩ := h
  exact ⟨cs, by rw [e]; exact h1, h2⟩
/-- The read of a whole value, and its write, closed to the walk: the walk takes them by facts. -/
def loadA (ty : TypeId) (v : Value) : Sem Value := Instr.loadAt ty v
def storeA (ty : TypeId) (p v : Value) : Sem Unit := Instr.storeAt ty p v
theorem exec_loadA (ty : TypeId) (ρ : Operand → Value) (dst : Option Tmp) (x : Operand) (t : TypeId) (ps : String) (af : Array Edge) (gd : Option (Nat × Bool)) (W : World) :
    Sem.run P (execOp ρ { dst := dst, op := .load ty x, type := t, pos := ps, after := af, guard := gd }) W = (Sem.run P (loadA ty (ρ x)) W).andThen fun a w' => .ok (.value a) w' := by
  simp only [execOp, loadA, Sem.run_bind, Sem.run_pure]
theorem exec_storeA (ty : TypeId) (ρ : Operand → Value) (dst : Option Tmp) (x y : Operand) (t : TypeId) (ps : String) (af : Array Edge) (gd : Option (Nat × Bool)) (W : World) :
    Sem.run P (execOp ρ { dst := dst, op := .store ty x y, type := t, pos := ps, after := af, guard := gd }) W = (Sem.run P (storeA ty (ρ x) (ρ y)) W).andThen fun _ w' => .ok .skip w' := by
  simp only [execOp, storeA, Sem.run_bind, Sem.run_pure]
/-- A part of a row is read: a fact for the walk. -/
theorem Row.load {Pp : Nat → Value → Prop} {n E g : Nat} {w : World} (hr : Row Pp n E g w) (o m : Nat) (hom : o + m ≤ n) {ty : TypeId} {d : TypeDesc} (hu : P.underlying ty = some d) (hd : d.isRow = true) (hi : (P.info? ty).map (·.size) = some m) :
    ∃ cs, Cells (fun i => Pp (o + i)) m cs ∧ ∀ W : World, W.heap = w.heap → Sem.run P (loadA ty (.pointer (some ⟨g, o, none⟩))) W = .ok (.agg cs) W := by
  obtain ⟨cs, h1, h2, h3⟩ := hr
  refine ⟨(cs.toList.drop o).take m |>.toArray, ⟨by simp; omega, fun i him => ?_⟩, fun W hW => ?_⟩
  · obtain ⟨v, hv, hp⟩ := h3 (o + i) (by omega)
    refine ⟨v, ?_, hp⟩
    simp only [List.getElem?_toArray, List.getElem?_take, him, if_true, List.getElem?_drop]
    simpa using hv
  · refine run_loadAt_mid W g o ty _ d (fun j v hv => ?_) hu hd (by rw [hi]; simp; omega)
    have hj : j < m := by
      have := (List.getElem?_eq_some_iff.1 hv).1
      simp at this
      omega
    rw [cell_of_row W g (o + j) cs E (0, 0) (by rw [hW]; exact h1)]
    simp only [List.getElem?_take, hj, if_true, List.getElem?_drop] at hv
    simpa using hv
/-- A part of a row is written: a fact for the walk. -/
theorem Row.store {Pp Pq : Nat → Value → Prop} {n E g : Nat} {w : World} (hr : Row Pp n E g w) (o m : Nat) (hom : o + m ≤ n) {ty : TypeId} {cs : Array Value} (hc : Cells Pq m cs) (h1 : ∀ i v, Pq i v → v.oneCell' = true) (hi : (P.info? ty).map (·.size) = some m) (W : World) (hW : W.heap = w.heap) :
    Sem.run P (storeA ty (.pointer (some ⟨g, o, none⟩)) (.agg cs)) W = .ok () (W.setCells g o cs.toList) := by
  have hr' := hr.heap hW
  refine run_storeAt_mid W g o ty cs (fun j hj => ?_) (by rw [hi, hc.1]) (hc.one h1)
  obtain ⟨v, hv, _⟩ := hr'.get (i := o + j) (by have := hc.1; omega)
  exact ⟨by rw [hv]; rfl, hr'.free _⟩
theorem Cells.list {Pp : Nat → Value → Prop} {n : Nat} {cs : Array Value} (h : Cells Pp n cs) : ∀ j v, cs.toList[j]? = some v → Pp j v := fun j v hv => by
  have hv' : cs[j]? = some v := by simpa using hv
  have hj : j < n := by rw [← h.1]; exact (Array.getElem?_eq_some_iff.1 hv').1
  obtain ⟨u, hu, hp⟩ := h.2 j hj
  rw [hv'] at hu
  obtain rfl := Option.some.inj hu
  exact hp
theorem ints_set {k : IntKind} {l : List Value} {n : Nat} (h : Ints k n l.toArray) (q : Nat) (x : Int) : Ints k n (l.set q (.int k x)).toArray := by
  refine ⟨by simpa using h.1, fun i hi => ?_⟩
  obtain ⟨v, hv, hp⟩ := h.2 i hi
  have hl : i < l.length := by have := h.1; simp at this; omega
  by_cases e : q = i
  · subst e; exact ⟨_, by simp [hl], ⟨x, rfl⟩⟩
  · exact ⟨v, by simpa [e] using hv, hp⟩
end
/-- The types that the walk takes whole. -/
def aggTy (ty : TypeId) : Bool := [73, 75, 77, 78, 80, 82, 138, 140, 155].contains ty
@[go_sem] theorem aggTy73 : aggTy 73 = true := by decide
@[go_sem] theorem aggTy75 : aggTy 75 = true := by decide
@[go_sem] theorem aggTy77 : aggTy 77 = true := by decide
@[go_sem] theorem aggTy78 : aggTy 78 = true := by decide
@[go_sem] theorem aggTy80 : aggTy 80 = true := by decide
@[go_sem] theorem aggTy82 : aggTy 82 = true := by decide
@[go_sem] theorem aggTy138 : aggTy 138 = true := by decide
@[go_sem] theorem aggTy140 : aggTy 140 = true := by decide
@[go_sem] theorem aggTy155 : aggTy 155 = true := by decide
@[go_sem ↓] theorem exec_loadD {P : Program} (ty : TypeId) (ρ : Operand → Value) (dst : Option Tmp) (x : Operand) (t : TypeId) (ps : String) (af : Array Edge) (gd : Option (Nat × Bool)) (W : World) (_h : aggTy ty = true) :
    Sem.run P (execOp ρ { dst := dst, op := .load ty x, type := t, pos := ps, after := af, guard := gd }) W = (Sem.run P (loadA ty (ρ x)) W).andThen fun a w' => .ok (.value a) w' := exec_loadA ty ρ dst x t ps af gd W
@[go_sem ↓] theorem exec_storeD {P : Program} (ty : TypeId) (ρ : Operand → Value) (dst : Option Tmp) (x y : Operand) (t : TypeId) (ps : String) (af : Array Edge) (gd : Option (Nat × Bool)) (W : World) (_h : aggTy ty = true) :
    Sem.run P (execOp ρ { dst := dst, op := .store ty x y, type := t, pos := ps, after := af, guard := gd }) W = (Sem.run P (storeA ty (ρ x) (ρ y)) W).andThen fun _ w' => .ok .skip w' := exec_storeA ty ρ dst x y t ps af gd W
end Go.Proofs.YtcebfkhfnjbfjaaGreatDoor
