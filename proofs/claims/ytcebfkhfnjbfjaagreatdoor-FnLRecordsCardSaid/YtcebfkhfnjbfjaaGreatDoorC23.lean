/- Maps of texts that the call makes: what they hold, exactly. -/
import Derived.Test.YtcebfkhfnjbfjaaGreatDoorC14
import Derived.MapKept
import Derived.WideMake
namespace Go.Proofs.YtcebfkhfnjbfjaaGreatDoor
open Go.RowKit
set_option linter.unusedVariables false
set_option linter.unusedSimpArgs false
/-- Tags and their values. -/
abbrev KVs := List (List UInt8 × List UInt8)
/-- Block b is a map of these tags, in the order of their laying. -/
def MapIs (b : Nat) (kvs : KVs) (w : World) : Prop :=
  ∃ es clock, w.heap[b]? = some (.map es clock) ∧ es.toList.map (fun e => (e.key, e.val)) = kvs.map fun p => (Value.string (str p.1), Value.string (str p.2))
theorem MapIs.new (w : World) : MapIs w.heap.size [] (w.alloc (.map #[] 0)) := ⟨#[], 0, heap_alloc_new w _, rfl⟩
theorem MapIs.lt {b : Nat} {kvs : KVs} {w : World} (h : MapIs b kvs w) : b < w.heap.size := by
  obtain ⟨es, c, h1, _⟩ := h
  exact (Array.getElem?_eq_some_iff.1 h1).1
theorem MapIs.keep {b B : Nat} {kvs : KVs} {w w' : World} (h : MapIs b kvs w) (hb : Below B w w') (hB : w.heap.size ≤ B) : MapIs b kvs w' := by
  have hl := h.lt
  obtain ⟨es, c, h1, h2⟩ := h
  exact ⟨es, c, by rw [hb.block b (by omega)]; exact h1, h2⟩
theorem MapIs.grown {b : Nat} {kvs : KVs} {w w' : World} {r : Option Nat} (h : MapIs b kvs w) (hg : w.grownBy w' r) (hne : some b ≠ r) : MapIs b kvs w' := by
  have hl := h.lt
  obtain ⟨es, c, h1, h2⟩ := h
  exact ⟨es, c, by rw [hg.block b hl hne]; exact h1, h2⟩
theorem str_beq (a b : List UInt8) : (str a == str b) = (a == b) := by
  have : (str a == str b) = (a.toArray == b.toArray) := rfl
  rw [this]
  simp
theorem findNow_str (k : List UInt8) : ∀ (es : List MapEntry) (kvs : KVs) (i : Nat), es.map (fun e => (e.key, e.val)) = kvs.map (fun p => (Value.string (str p.1), Value.string (str p.2))) →
    ∃ j, Instr.findNow .string (.string (str k)) es i = some ((kvs.lookup k).map fun v => (j, .string (str v)))
  | [], kvs, i, h => by
    cases kvs with
    | nil => exact ⟨0, rfl⟩
    | cons p r => simp at h
  | e :: es, kvs, i, h => by
    cases kvs with
    | nil => simp at h
    | cons p r =>
      simp only [List.map_cons, List.cons.injEq, Prod.mk.injEq] at h
      obtain ⟨⟨h1, h2⟩, h3⟩ := h
      have hs : Instr.sameNow .string (.string (str k)) e.key = some (k == p.1) := by
        rw [h1]
        show some (str k == str p.1) = _
        rw [str_beq]
      unfold Instr.findNow
      rw [hs]
      rw [List.lookup_cons]
      cases hk : (k == p.1) with
      | true => exact ⟨i, by rw [h2]; rfl⟩
      | false => exact findNow_str k es r (i + 1) h3
section
variable {P : Program} {t kt et : TypeId} (hm : P.underlying t = some (.map kt et)) (hk : P.underlying kt = some .string) {b : Nat} {kvs : KVs} {w : World}
include hm hk
theorem MapIs.lookup2 (hz : ∀ W, Sem.run P (zeroValue et) W = .ok (.string (str [])) W) (h : MapIs b kvs w) (k : List UInt8) :
    ∀ W : World, W.heap = w.heap → Sem.run P (Instr.lookup t (.map (some b)) (.string (str k)) true) W = .ok (.tuple #[.string (str ((kvs.lookup k).getD [])), .bool (kvs.lookup k).isSome]) W := by
  intro W hW
  obtain ⟨es, c, h1, h2⟩ := h
  rw [← hW] at h1
  obtain ⟨j, hf⟩ := findNow_str k es.toList kvs 0 h2
  have hc : (Instr.checkKey es.isEmpty 10000 kt (.string (str k))).run P W = .ok () W := MapKept.run_checkKey (k := .string (str k)) hk (by simp [MapKept.IsKey]) es.isEmpty 9999
  cases hq : kvs.lookup k with
  | none =>
    rw [hq] at hf
    have hz' := hz W
    simp [Instr.lookup, run_underlying hm, MapKept.run_getObj_map h1, hc, MapKept.run_findKey hk hf, hz']
  | some v =>
    rw [hq] at hf
    simp [Instr.lookup, run_underlying hm, MapKept.run_getObj_map h1, hc, MapKept.run_findKey hk hf]
theorem MapIs.lookup1 (hz : ∀ W, Sem.run P (zeroValue et) W = .ok (.string (str [])) W) (h : MapIs b kvs w) (k : List UInt8) :
    ∀ W : World, W.heap = w.heap → Sem.run P (Instr.lookup t (.map (some b)) (.string (str k)) false) W = .ok (.string (str ((kvs.lookup k).getD []))) W := by
  intro W hW
  obtain ⟨es, c, h1, h2⟩ := h
  rw [← hW] at h1
  obtain ⟨j, hf⟩ := findNow_str k es.toList kvs 0 h2
  have hc : (Instr.checkKey es.isEmpty 10000 kt (.string (str k))).run P W = .ok () W := MapKept.run_checkKey (k := .string (str k)) hk (by simp [MapKept.IsKey]) es.isEmpty 9999
  cases hq : kvs.lookup k with
  | none =>
    rw [hq] at hf
    have hz' := hz W
    simp [Instr.lookup, run_underlying hm, MapKept.run_getObj_map h1, hc, MapKept.run_findKey hk hf, hz']
  | some v =>
    rw [hq] at hf
    simp [Instr.lookup, run_underlying hm, MapKept.run_getObj_map h1, hc, MapKept.run_findKey hk hf]
theorem MapIs.update (h : MapIs b kvs w) (k v : List UInt8) (hn : kvs.lookup k = none) :
    ∃ w', Sem.run P (Instr.mapUpdate t (.map (some b)) (.string (str k)) (.string (str v))) w = .ok () w' ∧ MapIs b (kvs ++ [(k, v)]) w' ∧ w.grownBy w' (some b) := by
  have hl := h.lt
  obtain ⟨es, c, h1, h2⟩ := h
  obtain ⟨j, hf⟩ := findNow_str k es.toList kvs 0 h2
  rw [hn] at hf
  have hc : (Instr.checkKey false 10000 kt (.string (str k))).run P w = .ok () w := MapKept.run_checkKey (k := .string (str k)) hk (by simp [MapKept.IsKey]) false 9999
  refine ⟨{ w with heap := w.heap.setIfInBounds b (.map (es.push { key := .string (str k), val := .string (str v), born := c }) (c + 1)) }, ?_, ⟨es.push { key := .string (str k), val := .string (str v), born := c }, c + 1, ?_, ?_⟩, ⟨rfl, rfl, rfl, by simp, fun i hi hne => ?_⟩⟩
  · simp [Instr.mapUpdate, run_underlying hm, MapKept.run_getObj_map h1, hc, MapKept.run_findKey hk hf, MapKept.run_setObj_map _ h1]
  · simp [hl]
  · simp [h2]
  · have : b ≠ i := fun e => hne (by rw [e])
    simp [this]
/-- The walk over a store of a new tag. -/
theorem wpList_tag {ops : Array Oper} {rest : List Oper} {o : Oper} {a : Act} {Q : Exit → Act → World → Prop} (hg : o.guard = none) (m x v : Operand) (hop : o.op = Op.mapUpdate t m x v)
    (hm' : a.eval m = .map (some b)) (k u : List UInt8) (hx : a.eval x = .string (str k)) (hv : a.eval v = .string (str u)) (h : MapIs b kvs w) (hn : kvs.lookup k = none)
    (hK : ∀ w', MapIs b (kvs ++ [(k, u)]) w' → w.grownBy w' (some b) → wpList P ops Q rest (a.put o.dst undef) w') : wpList P ops Q (o :: rest) a w := by
  refine wpList_plain hg fun K' hK' => ?_
  obtain ⟨w', hrun, r1, r2⟩ := h.update hm hk k u hn
  unfold Oper.wp
  simp [execOp, hop, hm', hx, hv, hrun, Result.andThen]
  exact hK' _ _ (hK w' r1 r2)
end
end Go.Proofs.YtcebfkhfnjbfjaaGreatDoor
