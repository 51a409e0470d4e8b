/- Made slices; texts as lists of bytes. Slices that came in, and the options that came in. -/
import Derived.Test.YtcebfkhfnjbfjaaGreatDoorC10
import Derived.OwnWalk
namespace Go.Proofs.YtcebfkhfnjbfjaaGreatDoor
open Go.RowKit
set_option linter.unusedVariables false
set_option linter.unusedSimpArgs false
section
variable {P : Program} {base E : Nat} {v : Value} {xs : List Value} {w : World}
theorem Own.ofOwns {n : Nat} (h : w.ownsRow base E 1 v n xs) : Own base E v xs w := by
  obtain ⟨hl, h⟩ := h
  rw [Nat.mul_one] at hl
  rcases h with ⟨rfl, rfl⟩ | ⟨g, cap, cur, rfl, hb, hg, h1, h2, h3, h4⟩
  · exact .inl ⟨rfl, List.eq_nil_of_length_eq_zero hl⟩
  · rw [Nat.mul_one] at h3 h4
    refine .inr ⟨g, cap, cur, (0, 0), by rw [hl], hb, hg, by omega, by omega, h2, by rw [hl]; exact h4, fun i _ h => Nat.not_lt_zero i h.2⟩
theorem madeCells_one {z : Value} (hzc : z.cells = #[z]) (m : Nat) : (madeCells z.cells m).toList = List.replicate m z := by
  rw [hzc]
  apply List.ext_getElem
  · simp [madeCells]
  · intro i h1 h2
    simp [madeCells, Nat.mod_one]
/-- The walk over a make of so many noughts. -/
theorem wpList_makeL {ops : Array Oper} {rest : List Oper} {o : Oper} {a : Act} {Q : Exit → Act → World → Prop}
    (hg : o.guard = none) (l c : Operand) (t : TypeId) (hop : o.op = Op.makeSlice t l c) (e : TypeId) {z : Value} {bytes : Nat} (ht : P.underlying t = some (.slice e)) (hinfo : (P.info? e).map (fun i => (i.zero, i.size, i.bytes)) = some (some z, 1, bytes)) (hzc : z.cells = #[z])
    (kl kc : IntKind) (L C : Int) (n : Nat) (hl : a.eval l = .int kl L) (hc : a.eval c = .int kc C) (hL : L = (n : Int)) (hC : C = (n : Int)) (b2 : bytes * n ≤ 281474976710656) (b3 : n ≤ maxLen)
    (hK : ∀ w', Own w.heap.size e (.slice (some ⟨w.heap.size, 0, none⟩) n n) (List.replicate n z) w' → w.grownBy w' none → wpList P ops Q rest (a.put o.dst (.slice (some ⟨w.heap.size, 0, none⟩) n n)) w') :
    wpList P ops Q (o :: rest) a w := by
  obtain ⟨i, hi, hz, hs, hby⟩ := info_of hinfo
  refine wpList_make_full w hg l c t hop w.heap.size e i z 1 ht hi hz hs kl kc L C n hl hc hL hC (by rw [hby]; exact b2) b3 (Nat.le_refl _) fun w' ho hgr => ?_
  have ho' := Own.ofOwns ho
  rw [Nat.mul_one, madeCells_one hzc] at ho'
  exact hK w' ho' hgr
theorem below_grownNone {B : Nat} {w0 w w' : World} (hb : Below B w0 w) (hg : w.grownBy w' none) (hB : B ≤ w.heap.size) : Below B w0 w' := below_grown hb hg (by simp) hB
theorem grown_below {w w' : World} (hg : w.grownBy w' none) : Below w.heap.size w w' := ⟨hg.os, hg.tape, hg.output, hg.size, fun k hk => hg.block k hk (by simp)⟩
/-- What is read below what a grown slice owns. -/
theorem Sl.grown {w' : World} {r : Option Nat} (h : Sl v xs w) (hg : w.grownBy w' r) (hne : ∀ g o m cap, v = .slice (some ⟨g, o, none⟩) m cap → some g ≠ r) : Sl v xs w' := by
  obtain ⟨a, cap, h1, h2, h3, h4⟩ := h
  refine ⟨a, cap, h1, h2, h3, ?_⟩
  rcases h4 with h4 | ⟨g, o, rfl, h6⟩
  · exact .inl h4
  · refine .inr ⟨g, o, rfl, fun i x hx => ?_⟩
    have h7 := h6 i x hx
    have hlt := World.block_lt_of_cell? w _ h7
    rw [World.cell?_of_block (w := w) (w' := w') (a := ⟨g, o + i, none⟩) (hg.block g (by dsimp only at hlt; omega) (hne g o _ _ h1))]
    exact h7
end
/-- A text of these bytes. -/
def str (l : List UInt8) : ByteArray := ⟨l.toArray⟩
theorem str_toList (s : ByteArray) : str s.data.toList = s := by simp [str]
theorem str_size (l : List UInt8) : (str l).size = l.length := by simp [str, ByteArray.size]
theorem str_data (l : List UInt8) : (str l).data.toList = l := by simp [str]
theorem str_inj {a b : List UInt8} (h : str a = str b) : a = b := by
  have := congrArg (fun s : ByteArray => s.data.toList) h
  simpa [str] using this
/-- Bytes as values. -/
abbrev bs (l : List UInt8) : List Value := l.map fun (b : UInt8) => Value.int .u8 (b.toNat : Int)
theorem bytesVals_str (l : List UInt8) : bytesVals (str l) = bs l := by simp [bytesVals, str]
theorem bytesVals_bs (s : ByteArray) : bytesVals s = bs s.data.toList := rfl
theorem strOfNums_bs (l : List UInt8) : strOfNums (l.map fun b => (b.toNat : Int)) = str l := by
  apply ByteArray.ext
  apply Array.toList_inj.1
  rw [strOfNums_data, List.map_map]
  simp only [str, List.toList_toArray]
  have : ∀ l : List UInt8, l.map ((fun n : Int => UInt8.ofNat n.toNat) ∘ fun x : UInt8 => (x.toNat : Int)) = l := by
    intro l
    induction l with
    | nil => rfl
    | cons x r ih => simp [ih]
  exact this l
/-- The text of a slice of bytes: a fact for the walk. -/
theorem Sl.text {P : Program} {v : Value} {l : List UInt8} {w : World} {src dst : TypeId} (h : Sl v (bs l) w) (hs : P.underlying src = some (.slice 5)) (he : P.underlying 5 = some (.int .u8)) (hd : P.underlying dst = some .string) :
    ∀ W : World, W.heap = w.heap → Sem.run P (convert src dst v) W = .ok (.string (str l)) W := by
  intro W hW
  obtain ⟨a, cap, rfl, h2, h3, h4⟩ := h
  rcases h4 with ⟨h4, rfl⟩ | ⟨g, o, rfl, h6⟩
  · obtain rfl : l = [] := by simpa [bs] using h4
    exact run_convert_bytes_nil (P := P) W src 5 hs he 0 cap dst hd
  · rw [← strOfNums_bs l]
    refine run_convert_bytes_arg (P := P) W src 5 hs he g o _ cap _ (by simp) (fun i hi => ?_) dst hd
    have hi' : i < l.length := by simpa using hi
    rw [World.cell?_of_block (w := w) (w' := W) (a := ⟨g, o + i, none⟩) (by rw [hW])]
    rw [h6 i (.int .u8 (l[i].toNat : Int)) (by simp [bs, hi'])]
    simp [List.getD_eq_getElem?_getD, hi']
end Go.Proofs.YtcebfkhfnjbfjaaGreatDoor
namespace Go.Proofs.YtcebfkhfnjbfjaaGreatDoor
open Go.RowKit
set_option linter.unusedVariables false
set_option linter.unusedSimpArgs false
/-- The value is a slice whose elements, of one cell each, are xs; where there is none, it may lie anywhere. -/
def SlI (v : Value) (xs : List Value) (w : World) : Prop :=
  ∃ a cap, v = .slice a xs.length cap ∧ xs.length ≤ cap ∧ cap ≤ maxLen ∧ (xs = [] ∨ ∃ g o, a = some ⟨g, o, none⟩ ∧ ∀ i x, xs[i]? = some x → w.cell? ⟨g, o + i, none⟩ = some x)
section
variable {v : Value} {xs : List Value} {w : World}
theorem Sl.toI (h : Sl v xs w) : SlI v xs w := by
  obtain ⟨a, cap, h1, h2, h3, h4⟩ := h
  exact ⟨a, cap, h1, h2, h3, h4.imp (fun h => h.1) id⟩
theorem SlI.sl (h : SlI v xs w) (hne : 0 < xs.length) : Sl v xs w := by
  obtain ⟨a, cap, h1, h2, h3, h4⟩ := h
  refine ⟨a, cap, h1, h2, h3, .inr ?_⟩
  rcases h4 with rfl | h4
  · simp at hne
  · exact h4
theorem SlI.below {w' : World} {B : Nat} (h : SlI v xs w) (hb : Below B w w') (hB : w.heap.size ≤ B) : SlI v xs w' := by
  obtain ⟨a, cap, h1, h2, h3, h4⟩ := h
  refine ⟨a, cap, h1, h2, h3, ?_⟩
  rcases h4 with h4 | ⟨g, o, h5, h6⟩
  · exact .inl h4
  · refine .inr ⟨g, o, h5, fun i x hx => ?_⟩
    have h7 := h6 i x hx
    have hlt := World.block_lt_of_cell? w _ h7
    rw [World.cell?_of_block (a := ⟨g, o + i, none⟩) (hb.block g (by dsimp only at hlt; omega))]
    exact h7
theorem SlI.alloc (h : SlI v xs w) (o : Obj) : SlI v xs (w.alloc o) := h.below ((Below.refl _ _).alloc (Nat.le_refl _) o) (Nat.le_refl _)
theorem SlI.cell (h : SlI v xs w) {i : Nat} {x : Value} (hx : xs[i]? = some x) : ∃ g o cap, v = .slice (some ⟨g, o, none⟩) xs.length cap ∧ w.cell? ⟨g, o + i, none⟩ = some x := by
  obtain ⟨a, cap, h1, h2, h3, h4⟩ := h
  rcases h4 with rfl | ⟨g, o, rfl, h6⟩
  · simp at hx
  · exact ⟨g, o, cap, h1, h6 i x hx⟩
theorem SlI.len (h : SlI v xs w) : ∃ a cap, v = .slice a xs.length cap := by
  obtain ⟨a, cap, h1, _⟩ := h
  exact ⟨a, cap, h1⟩
theorem SlI.le (h : SlI v xs w) : xs.length ≤ maxLen := by
  obtain ⟨a, cap, h1, h2, h3, h4⟩ := h
  omega
end
/-- Some truth value is returned. -/
def BoolE (e : Ending) : Prop := ∃ b : Bool, e = .returned (.bool b)
/-- Some truth value is returned; true says p. -/
def BoolP (p : Prop) (e : Ending) : Prop := ∃ b : Bool, e = .returned (.bool b) ∧ (b = true → p)
/-- Texts as values. -/
abbrev strs (l : List (List UInt8)) : List Value := l.map fun s => Value.string (str s)
/-- The options that came in. -/
structure Opts where
  (dom sel idn kind seed n e d hdr body : List UInt8)
  all : Bool
  (exp now : Int)
  (keys query : List (List UInt8))
  (vs vk vq : Value)
/-- Their cells. -/
def Opts.cells (o : Opts) : Array Value := #[.string (str o.dom), .string (str o.sel), .string (str o.idn), .string (str o.kind), o.vs, .string (str o.n), .string (str o.e), .string (str o.d), .string (str o.hdr), .string (str o.body), o.vk, .bool o.all, .int .i64 o.exp, .int .i64 o.now, o.vq]
/-- What their slices hold. -/
structure Opts.Ok (o : Opts) (w : World) : Prop where
  seed : SlI o.vs (bs o.seed) w
  keys : SlI o.vk (strs o.keys) w
  query : SlI o.vq (strs o.query) w
  lens : ∀ l ∈ [o.dom, o.sel, o.idn, o.kind, o.n, o.e, o.d, o.hdr, o.body], l.length ≤ maxLen
theorem Opts.Ok.below {o : Opts} {w w' : World} {B : Nat} (h : o.Ok w) (hb : Below B w w') (hB : w.heap.size ≤ B) : o.Ok w' := ⟨h.seed.below hb hB, h.keys.below hb hB, h.query.below hb hB, h.lens⟩
/-- Block b holds them. -/
def OptAt (o : Opts) (b : Nat) (w : World) : Prop := w.heap[b]? = some (.cells o.cells 25 (0, 0))
theorem OptAt.new (o : Opts) (w : World) : OptAt o w.heap.size (w.alloc (.cells o.cells 25)) := heap_alloc_new w _
theorem OptAt.lt {o : Opts} {b : Nat} {w : World} (h : OptAt o b w) : b < w.heap.size := (Array.getElem?_eq_some_iff.1 h).1
theorem OptAt.below {o : Opts} {b B : Nat} {w w' : World} (h : OptAt o b w) (hb : Below B w w') (hlt : b < B) : OptAt o b w' := by
  unfold OptAt at h ⊢
  rw [hb.block b hlt]
  exact h
theorem OptAt.keep {o : Opts} {b B : Nat} {w w' : World} (h : OptAt o b w) (hb : Below B w w') (hB : w.heap.size ≤ B) : OptAt o b w' := h.below hb (Nat.lt_of_lt_of_le h.lt hB)
theorem OptAt.alloc {o : Opts} {b : Nat} {w : World} (h : OptAt o b w) (ob : Obj) : OptAt o b (w.alloc ob) := h.keep ((Below.refl _ _).alloc (Nat.le_refl _) ob) (Nat.le_refl _)
theorem OptAt.cell {o : Opts} {b : Nat} {w : World} (h : OptAt o b w) (i : Nat) : w.cell? ⟨b, i, none⟩ = o.cells[i]? := cell_of_row w b i _ 25 (0, 0) h
section
variable {o : Opts} {b : Nat} {w : World}
theorem OptAt.c0 (h : OptAt o b w) : w.cell? ⟨b, 0, none⟩ = some (.string (str o.dom)) := h.cell 0
theorem OptAt.c1 (h : OptAt o b w) : w.cell? ⟨b, 1, none⟩ = some (.string (str o.sel)) := h.cell 1
theorem OptAt.c2 (h : OptAt o b w) : w.cell? ⟨b, 2, none⟩ = some (.string (str o.idn)) := h.cell 2
theorem OptAt.c3 (h : OptAt o b w) : w.cell? ⟨b, 3, none⟩ = some (.string (str o.kind)) := h.cell 3
theorem OptAt.c4 (h : OptAt o b w) : w.cell? ⟨b, 4, none⟩ = some o.vs := h.cell 4
theorem OptAt.c5 (h : OptAt o b w) : w.cell? ⟨b, 5, none⟩ = some (.string (str o.n)) := h.cell 5
theorem OptAt.c6 (h : OptAt o b w) : w.cell? ⟨b, 6, none⟩ = some (.string (str o.e)) := h.cell 6
theorem OptAt.c7 (h : OptAt o b w) : w.cell? ⟨b, 7, none⟩ = some (.string (str o.d)) := h.cell 7
theorem OptAt.c8 (h : OptAt o b w) : w.cell? ⟨b, 8, none⟩ = some (.string (str o.hdr)) := h.cell 8
theorem OptAt.c9 (h : OptAt o b w) : w.cell? ⟨b, 9, none⟩ = some (.string (str o.body)) := h.cell 9
theorem OptAt.c10 (h : OptAt o b w) : w.cell? ⟨b, 10, none⟩ = some o.vk := h.cell 10
theorem OptAt.c11 (h : OptAt o b w) : w.cell? ⟨b, 11, none⟩ = some (.bool o.all) := h.cell 11
theorem OptAt.c12 (h : OptAt o b w) : w.cell? ⟨b, 12, none⟩ = some (.int .i64 o.exp) := h.cell 12
theorem OptAt.c13 (h : OptAt o b w) : w.cell? ⟨b, 13, none⟩ = some (.int .i64 o.now) := h.cell 13
theorem OptAt.c14 (h : OptAt o b w) : w.cell? ⟨b, 14, none⟩ = some o.vq := h.cell 14
end
end Go.Proofs.YtcebfkhfnjbfjaaGreatDoor
