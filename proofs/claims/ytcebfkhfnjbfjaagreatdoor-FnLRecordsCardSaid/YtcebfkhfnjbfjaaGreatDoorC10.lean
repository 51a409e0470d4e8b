/- Slices that a call itself makes and grows: their elements, kept by every write and growth. The walk's laws for growing an owned slice. Slices that are read, and natural numbers of words of 32 bits; the contract of lBare. -/
import Derived.Test.YtcebfkhfnjbfjaaGreatDoorC09
import Derived.Laws.AppendOwn
import Derived.Laws.IdiomCopy
namespace Go.Proofs.YtcebfkhfnjbfjaaGreatDoor
open Go.RowKit
set_option linter.unusedVariables false
set_option linter.unusedSimpArgs false
/-- The value is nil, or a slice from a row's head in a block from base on, whose elements are xs and which may be written up to its capacity. -/
def Own (base : Nat) (E : TypeId) (v : Value) (xs : List Value) (w : World) : Prop :=
  (v = .slice none 0 0 ∧ xs = []) ∨
  ∃ g cap cs fr, v = .slice (some ⟨g, 0, none⟩) xs.length cap ∧ base ≤ g ∧ w.heap[g]? = some (.cells cs E fr) ∧ xs.length ≤ cap ∧ cap ≤ cs.size ∧ cap ≤ maxLen ∧ cs.toList.take xs.length = xs ∧ ∀ i, i < cap → ¬ (fr.1 ≤ i ∧ i < fr.2)
section
variable {P : Program} {base : Nat} {E : TypeId} {v : Value} {xs : List Value} {w : World}
theorem Own.nil (base : Nat) (E : TypeId) (w : World) : Own base E (.slice none 0 0) [] w := .inl ⟨rfl, rfl⟩
theorem Own.len (h : Own base E v xs w) : ∃ a cap, v = .slice a xs.length cap := by
  rcases h with ⟨rfl, rfl⟩ | ⟨g, cap, _, _, rfl, _⟩
  · exact ⟨none, 0, rfl⟩
  · exact ⟨_, cap, rfl⟩
theorem Own.size (h : Own base E v xs w) : xs.length ≤ maxLen := by
  rcases h with ⟨rfl, rfl⟩ | ⟨g, cap, _, _, _, _, _, h1, _, h2, _⟩
  · simp
  · omega
theorem Own.lt (h : Own base E v xs w) : ∀ k, v.ownBlock = some k → base ≤ k ∧ k < w.heap.size := by
  intro k hk
  rcases h with ⟨rfl, _⟩ | ⟨g, cap, cs, fr, rfl, hb, hg, _⟩
  · simp [Value.ownBlock] at hk
  · simp [Value.ownBlock] at hk
    subst hk
    exact ⟨hb, (Array.getElem?_eq_some_iff.1 hg).1⟩
theorem Own.grown {w' : World} {row : Option Nat} (h : Own base E v xs w) (hg : w.grownBy w' row) (hne : v.ownBlock = none ∨ v.ownBlock ≠ row) : Own base E v xs w' := by
  rcases h with hn | ⟨g, cap, cs, fr, rfl, hb, hgg, rest⟩
  · exact .inl hn
  · refine .inr ⟨g, cap, cs, fr, rfl, hb, ?_, rest⟩
    rw [hg.block g (Array.getElem?_eq_some_iff.1 hgg).1 (by simpa [Value.ownBlock] using hne)]
    exact hgg
theorem Own.below {w' : World} {B : Nat} (h : Own base E v xs w) (hb : Below B w w') (hB : w.heap.size ≤ B) : Own base E v xs w' := by
  rcases h with hn | ⟨g, cap, cs, fr, rfl, hb', hgg, rest⟩
  · exact .inl hn
  · refine .inr ⟨g, cap, cs, fr, rfl, hb', ?_, rest⟩
    rw [hb.block g (by have := (Array.getElem?_eq_some_iff.1 hgg).1; omega)]
    exact hgg
theorem Own.drew (h : Own base E v xs w) : Own base E v xs w.drew := h
theorem Own.heap {w' : World} (h : Own base E v xs w) (e : w'.heap = w.heap) : Own base E v xs w' := by
  unfold Own at h ⊢
  rw [e]
  exact h
theorem Own.alloc (h : Own base E v xs w) (o : Obj) : Own base E v xs (w.alloc o) :=
  h.grown (World.grownBy_alloc w o none) (by cases hv : v.ownBlock <;> simp)
theorem Own.from {B : Nat} (h : Own base E v xs w) (hB : B ≤ base) : Own B E v xs w := by
  rcases h with hn | ⟨g, cap, cs, fr, rfl, hb, rest⟩
  · exact .inl hn
  · exact .inr ⟨g, cap, cs, fr, rfl, by omega, rest⟩
theorem grownBy_setCell (w : World) (a : Addr) (u : Value) : w.grownBy (w.setCell a u) (some a.block) :=
  ⟨rfl, rfl, rfl, by simp, fun k hk hne => heap_setCell_other w a k u (fun e => hne (by rw [e]))⟩
theorem grownBy_trans {w1 w2 w3 : World} {r : Option Nat} (h : w1.grownBy w2 r) (h' : w2.grownBy w3 r) : w1.grownBy w3 r :=
  ⟨h'.os.trans h.os, h'.tape.trans h.tape, h'.output.trans h.output, Nat.le_trans h.size h'.size, fun k hk hne => (h'.block k (by have := h.size; omega) hne).trans (h.block k hk hne)⟩
theorem grownBy_setCells (g : Nat) : ∀ (vs : List Value) (o : Nat) (w : World), w.grownBy (w.setCells g o vs) (some g)
  | [], _, w => ⟨rfl, rfl, rfl, Nat.le_refl _, fun _ _ _ => rfl⟩
  | u :: r, o, w => by
    rw [World.setCells]
    exact grownBy_trans (grownBy_setCell w ⟨g, o, none⟩ u) (grownBy_setCells g r (o + 1) _)
theorem grownBy_below {w w' : World} {B : Nat} {r : Option Nat} (h : Below B w w') (hB : w.heap.size ≤ B) : w.grownBy w' r :=
  ⟨h.os, h.tape, h.output, h.size, fun k hk _ => h.block k (by omega)⟩
theorem Own.setOther (h : Own base E v xs w) {a : Addr} (hne : v.ownBlock ≠ some a.block) (u : Value) : Own base E v xs (w.setCell a u) :=
  h.grown (grownBy_setCell w a u) (.inr hne)
theorem below_grown {B : Nat} {w0 w w' : World} {r : Option Nat} (hb : Below B w0 w) (hg : w.grownBy w' r) (hr : ∀ k, r = some k → B ≤ k) (hB : B ≤ w.heap.size) : Below B w0 w' :=
  hb.trans ⟨hg.os, hg.tape, hg.output, hg.size, fun k hk => hg.block k (by omega) (fun e => by have := hr k e.symm; omega)⟩
/-- Below, kept by what an owned slice's growth does. -/
theorem Own.belowGrown {B : Nat} {w0 w' : World} (h : Own base E v xs w) (hb : Below B w0 w) (hg : w.grownBy w' v.ownBlock) (hB : B ≤ base) (hs : B ≤ w.heap.size) : Below B w0 w' :=
  below_grown hb hg (fun k hk => by have := (h.lt k hk).1; omega) hs
theorem Row.grown {Pp : Nat → Value → Prop} {n E b : Nat} {w w' : World} {r : Option Nat} (h : Row Pp n E b w) (hg : w.grownBy w' r) (hne : some b ≠ r) : Row Pp n E b w' := by
  have hl := h.lt
  obtain ⟨cs, h1, h2⟩ := h
  exact ⟨cs, by rw [hg.block b hl hne]; exact h1, h2⟩
theorem Own.get (h : Own base E v xs w) : ∀ i x, xs[i]? = some x → ∃ g cap, v = .slice (some ⟨g, 0, none⟩) xs.length cap ∧ w.cell? ⟨g, i, none⟩ = some x ∧ w.frozen? ⟨g, i, none⟩ = false := by
  intro i x hx
  have hi : i < xs.length := (List.getElem?_eq_some_iff.1 hx).1
  rcases h with ⟨rfl, rfl⟩ | ⟨g, cap, cs, fr, rfl, hb, hg, h1, h2, h3, h4, h5⟩
  · simp at hx
  · refine ⟨g, cap, rfl, ?_, ?_⟩
    · rw [cell_of_row w g i cs E fr hg]
      rw [← h4, List.getElem?_take, if_pos hi] at hx
      simpa using hx
    · obtain ⟨lo, hi'⟩ := fr
      have := h5 i (by omega)
      simp only [World.frozen?, hg]
      simpa using this
theorem Own.set (h : Own base E v xs w) (i : Nat) (u : Value) {g n cap : Nat} (hv : v = .slice (some ⟨g, 0, none⟩) n cap) : Own base E v (xs.set i u) (w.setCell ⟨g, i, none⟩ u) := by
  rcases h with ⟨rfl, rfl⟩ | ⟨g', cap', cs, fr, rfl, hb, hg, h1, h2, h3, h4, h5⟩
  · simp at hv
  · simp only [Value.slice.injEq, Option.some.injEq, Addr.mk.injEq] at hv
    obtain ⟨⟨rfl, _⟩, rfl, rfl⟩ := hv
    refine .inr ⟨g', cap', _, fr, by simp, hb, heap_setCell_mark w g' i cs E fr u hg, by simpa using h1, by simpa using h2, h3, ?_, h5⟩
    simp only [Array.toList_setIfInBounds, List.length_set, List.take_set, h4]
theorem Own.cells (h : Own base E v xs w) {a : Addr} {n cap : Nat} (hv : v = .slice (some a) n cap) : n = xs.length ∧ ∀ j u, xs[j]? = some u → w.cell? (a.add j) = some u := by
  rcases h with ⟨rfl, rfl⟩ | ⟨g', cap', cs, fr, rfl, hb, hg, h1, h2, h3, h4, h5⟩
  · simp at hv
  · simp only [Value.slice.injEq, Option.some.injEq] at hv
    obtain ⟨rfl, rfl, rfl⟩ := hv
    refine ⟨rfl, fun j u hu => ?_⟩
    have hadd : (⟨g', 0, none⟩ : Addr).add j = ⟨g', j, none⟩ := by unfold Addr.add; split <;> simp_all
    rw [hadd, cell_of_row w g' j cs E fr hg]
    have hj : j < xs.length := (List.getElem?_eq_some_iff.1 hu).1
    rw [← h4, List.getElem?_take, if_pos hj] at hu
    simpa using hu
theorem Own.made (w : World) (cs : List Value) (base : Nat) (cap : Nat) (E : TypeId) (hb : base ≤ w.heap.size) (hc : cap = cs.length) (hm : cap ≤ maxLen) : Own base E (.slice (some ⟨w.heap.size, 0, none⟩) cs.length cap) cs (w.alloc (.cells cs.toArray E)) :=
  .inr ⟨w.heap.size, cap, cs.toArray, (0, 0), rfl, hb, heap_alloc_new w _, by omega, by rw [List.size_toArray]; omega, hm, by rw [List.toList_toArray, List.take_length], fun i _ h => Nat.not_lt_zero i h.2⟩
/-- The bytes of a text as values. -/
def bytesVals (s : ByteArray) : List Value := s.data.toList.map fun b => .int .u8 b.toNat
theorem bytesVals_length (s : ByteArray) : (bytesVals s).length = s.size := by
  rw [bytesVals, List.length_map, Array.length_toList]
  rfl
theorem Own.ofBytes (w : World) (s : ByteArray) (base : Nat) (hb : base ≤ w.heap.size) (hs : s.size ≤ maxLen) : Own base 5 (.slice (some ⟨w.heap.size, 0, none⟩) s.size (grownCap w s.size 0 5)) (bytesVals s) (Lib.bytesWorld w 5 s) := by
  have hge := grownCap_ge w s.size 0 5
  refine .inr ⟨w.heap.size, grownCap w s.size 0 5, _, _, by rw [bytesVals_length], hb, Lib.bytesWorld_at_new w 5 s, by rw [bytesVals_length]; exact hge, ?_, grownCap_le_maxLen w s.size 0 5 hs, ?_, ?_⟩
  · simp only [Lib.bytesCells, Array.size_append, Array.size_map, Array.size_replicate]
    have : s.data.size = s.size := rfl
    omega
  · rw [bytesVals_length]
    simp only [Lib.bytesCells, Array.toList_append, Array.toList_map]
    have hl : s.size = (bytesVals s).length := (bytesVals_length s).symm
    rw [hl]
    exact List.take_left
  · intro i hi h
    have h1 := h.1
    simp only [Lib.bytesCells, Array.size_append, Array.size_map, Array.size_replicate] at h1
    have : s.data.size = s.size := rfl
    omega
theorem grownBy_bytes (w : World) (s : ByteArray) (r : Option Nat) : w.grownBy (Lib.bytesWorld w 5 s) r :=
  ⟨rfl, rfl, rfl, by rw [Lib.bytesWorld_size]; omega, fun i hi _ => Lib.bytesWorld_at_old w 5 s i hi⟩
/-- What an append must say: the new value, and the world. -/
def Appended (base : Nat) (E : TypeId) (v : Value) (xs news : List Value) (w : World) (r : Result Value) : Prop :=
  ∃ v' w', r = .ok v' w' ∧ Own base E v' (xs ++ news) w' ∧ w.grownBy w' v.ownBlock
theorem appended_room {g cap : Nat} {cs : Array Value} {fr : Nat × Nat} {news : List Value} (hb : base ≤ g) (hg : w.heap[g]? = some (.cells cs E fr)) (h1 : xs.length ≤ cap) (h2 : cap ≤ cs.size) (h3 : cap ≤ maxLen) (h4 : cs.toList.take xs.length = xs) (h5 : ∀ i, i < cap → ¬ (fr.1 ≤ i ∧ i < fr.2))
    (hroom : xs.length + news.length ≤ cap) : Own base E (.slice (some ⟨g, 0, none⟩) (xs.length + news.length) cap) (xs ++ news) (w.setCells g xs.length news) ∧ w.grownBy (w.setCells g xs.length news) (some g) := by
  refine ⟨.inr ⟨g, cap, (cs.toList.take xs.length ++ news ++ cs.toList.drop (xs.length + news.length)).toArray, fr, by simp, hb, ?_, by simpa using hroom, by simp; omega, h3, ?_, h5⟩, grownBy_setCells g _ _ _⟩
  · have key : ∀ (vs : List Value) (o : Nat) (cs : Array Value) (w : World), w.heap[g]? = some (.cells cs E fr) → o + vs.length ≤ cs.size → (w.setCells g o vs).heap[g]? = some (.cells (cs.toList.take o ++ vs ++ cs.toList.drop (o + vs.length)).toArray E fr) := by
      intro vs
      induction vs with
      | nil => intro o cs w hg _; simp [World.setCells, hg]
      | cons u r ih =>
        intro o cs w hg hl
        rw [World.setCells]
        simp only [List.length_cons] at hl
        have := ih (o + 1) (cs.setIfInBounds o u) (w.setCell ⟨g, o, none⟩ u) (heap_setCell_mark w g o cs E fr u hg) (by simp; omega)
        rw [this]
        congr 3
        simp only [Array.toList_setIfInBounds]
        have ho : o < cs.toList.length := by simp; omega
        rw [List.take_add_one, List.take_set_of_le (Nat.le_refl o), List.getElem?_set_self ho, List.drop_set_of_lt (by omega)]
        simp [Nat.add_assoc, Nat.add_comm 1]
    exact key news xs.length cs w hg (by omega)
  · rw [h4]
    have : xs.length + news.length = (xs ++ news).length := by simp
    simp only [List.length_append, List.toList_toArray]
    rw [this]
    exact List.take_left
theorem run_storeCells_own {g cap : Nat} {cs : Array Value} {fr : Nat × Nat} (hg : w.heap[g]? = some (.cells cs E fr)) (h2 : cap ≤ cs.size) (h5 : ∀ i, i < cap → ¬ (fr.1 ≤ i ∧ i < fr.2)) (o : Nat) (news : List Value) (hroom : o + news.length ≤ cap) (h1 : ∀ u ∈ news, u.oneCell' = true) :
    (storeCells ⟨g, o, none⟩ news 0).run P w = .ok () (w.setCells g o news) := by
  have := run_storeCells_cells (P := P) g o news 0 w (fun j hj => by
      rw [cell_of_row w g _ cs E fr hg]
      simp; omega) (fun j hj => by
      obtain ⟨lo, hi'⟩ := fr
      have := h5 (o + 0 + j) (by omega)
      simp only [World.frozen?, hg]
      simpa using this) h1
  simpa using this
theorem appended_grown {z : Value} (hzs : z.cells.size = 1) (xs news : List Value) (hbase : base ≤ w.heap.size) (old : Nat) (h63 : xs.length + news.length ≤ maxLen) (r : Option Nat) :
    Own base E (.slice (some ⟨w.heap.size, 0, none⟩) (xs.length + news.length) (grownCap w (xs.length + news.length) old E)) (xs ++ news) (w.drew.alloc (.cells (xs.toArray ++ news.toArray ++ Builtin.zeroCells z.cells (grownCap w (xs.length + news.length) old E - (xs.length + news.length))) E)) ∧
    w.grownBy (w.drew.alloc (.cells (xs.toArray ++ news.toArray ++ Builtin.zeroCells z.cells (grownCap w (xs.length + news.length) old E - (xs.length + news.length))) E)) r := by
  have hge := grownCap_ge w (xs.length + news.length) old E
  have hcm := grownCap_le_maxLen w (xs.length + news.length) old E h63
  refine ⟨.inr ⟨w.heap.size, _, _, (0, 0), by simp, hbase, heap_alloc_new w.drew _, by simpa using hge, ?_, hcm, ?_, fun i _ h => Nat.not_lt_zero i h.2⟩, ⟨rfl, rfl, rfl, by simp, fun k hk _ => Below.heap_alloc w.drew _ k hk⟩⟩
  · simp only [Array.size_append, List.size_toArray, size_zeroCells, hzs]
    omega
  · simp only [Array.toList_append, List.append_assoc]
    rw [← List.append_assoc]
    exact List.take_left
/-- Append of a slice's elements to an owned slice of cells of one. -/
theorem run_append_Own (t ty e : TypeId) (i : TypeInfo) (z : Value) (bytes : Nat) (ht : P.underlying t = some (.slice e)) (hi : P.info? e = some i) (hz : i.zero = some z) (hsize : i.size = 1) (hby : i.bytes = bytes) (hzs : z.cells.size = 1)
    (hown : Own base e v xs w) (a : Addr) (m c : Nat) (news : List Value) (hl : news.length = m) (hnews : ∀ j u, news[j]? = some u → w.cell? (a.add j) = some u) (h1 : ∀ u ∈ news, u.oneCell' = true)
    (hbytes : (xs.length + m) * bytes ≤ 140737488355328) (hmax : xs.length + m ≤ maxLen) (hbase : base ≤ w.heap.size) :
    Appended base e v xs news w ((Builtin.append_ #[t, t] ty #[v, .slice (some a) m c]).run P w) := by
  subst hby hl
  have h63 : xs.length + news.length ≤ 9223372036854775807 := by simp only [maxLen] at hmax; omega
  rcases hown with ⟨rfl, rfl⟩ | ⟨g, cap, cs, fr, rfl, hb, hg, h11, h2, h3, h4, h5⟩
  · by_cases hm : news.length = 0
    · have hn : news = [] := List.eq_nil_of_length_eq_zero hm
      subst hn
      refine ⟨.slice none 0 0, w, ?_, Own.nil _ _ _, ⟨rfl, rfl, rfl, Nat.le_refl _, fun _ _ _ => rfl⟩⟩
      simp [Builtin.append_, run_underlying ht, sizeOf, typeInfo, hi, Builtin.lenOf, Builtin.firstCells, loadCells, loadCellsFrom]
    · have hr := run_append_nil (P := P) w t ty e i z ht hi hz a news.length c news (by rw [hsize]; omega) hnews (by omega) (by simp at h63; omega) (by simp at hbytes; omega)
      have hgr := appended_grown (w := w) (E := e) hzs [] news hbase 0 hmax (Value.ownBlock (.slice none 0 0))
      simp only [List.length_nil, Nat.zero_add, List.nil_append, Array.empty_append] at hgr ⊢
      exact ⟨_, _, hr, hgr.1, hgr.2⟩
  · by_cases hroom : xs.length + news.length ≤ cap
    · have hf := run_firstCells_some (P := P) w 1 news.length a news.length c news (by omega) hnews
      have hst := run_storeCells_own (P := P) hg h2 h5 xs.length news hroom h1
      have hA := appended_room (w := w) (news := news) hb hg h11 h2 h3 h4 h5 hroom
      refine ⟨_, _, ?_, hA.1, hA.2⟩
      simp [Builtin.append_, run_underlying ht, sizeOf, typeInfo, hi, hsize, Builtin.lenOf, hroom, hf, Addr.add_lit, hst]
    · have hcells : ∀ j u, xs[j]? = some u → w.cell? ((⟨g, 0, none⟩ : Addr).add j) = some u := fun j u hu => ((show Own base e (.slice (some ⟨g, 0, none⟩) xs.length cap) xs w from .inr ⟨g, cap, cs, fr, rfl, hb, hg, h11, h2, h3, h4, h5⟩).cells rfl).2 j u hu
      have hr := run_append_grow (P := P) w t ty e i z ht hi hz ⟨g, 0, none⟩ xs.length cap xs (by rw [hsize]; omega) hcells a news.length c news (by rw [hsize]; omega) hnews (by omega) (by omega) (growslice_fits (by omega) hbytes)
      have hgr := appended_grown (w := w) (E := e) hzs xs news hbase cap hmax (Value.ownBlock (.slice (some ⟨g, 0, none⟩) xs.length cap))
      exact ⟨_, _, hr, hgr.1, hgr.2⟩
theorem oneCell_bytes (s : ByteArray) : ∀ u ∈ bytesVals s, u.oneCell' = true := by
  intro u hu
  simp only [bytesVals, List.mem_map] at hu
  obtain ⟨b, _, rfl⟩ := hu
  rfl
theorem bytesVals_array (s : ByteArray) : (Array.map (fun b : UInt8 => Value.int IntKind.u8 (b.toNat : Int)) s.data) = (bytesVals s).toArray := by
  apply Array.ext'
  simp [bytesVals]
theorem bytes_extract_all (s : ByteArray) : (Array.map (fun b : UInt8 => Value.int IntKind.u8 (b.toNat : Int)) (s.extract 0 s.size).data) = (bytesVals s).toArray := by
  rw [← bytesVals_array]
  congr 1
  simp
theorem run_firstCells_bytes (size : Nat) (s : ByteArray) (W : World) : (Builtin.firstCells size s.size (.string s)).run P W = .ok (bytesVals s).toArray W := by
  have h : (Builtin.firstCells size s.size (.string s)).run P W = .ok (Array.map (fun b : UInt8 => Value.int IntKind.u8 (b.toNat : Int)) (s.extract 0 s.size).data) W := rfl
  rw [h, bytes_extract_all]
theorem zeroCells_one {z : Value} (hzc : z.cells = #[z]) (m : Nat) : Builtin.zeroCells z.cells m = (List.replicate m z).toArray := by
  rw [hzc]
  apply Array.ext
  · simp [Builtin.zeroCells]
  · intro i h1 h2
    simp [Builtin.zeroCells, Nat.mod_one]
/-- Append of a text's bytes. -/
theorem run_append_OwnStr (t u ty e : TypeId) (i : TypeInfo) (z : Value) (ht : P.underlying t = some (.slice e)) (hu : P.underlying u = some .string) (hi : P.info? e = some i) (hz : i.zero = some z) (hsize : i.size = 1) (hby : i.bytes = 1) (hzs : z.cells.size = 1)
    (hown : Own base e v xs w) (s : ByteArray)
    (hbytes : xs.length + s.size ≤ 140737488355328) (hbase : base ≤ w.heap.size) :
    Appended base e v xs (bytesVals s) w ((Builtin.append_ #[t, u] ty #[v, .string s]).run P w) := by
  have hl := bytesVals_length s
  have hmax : xs.length + (bytesVals s).length ≤ maxLen := by simp only [maxLen]; omega
  rcases hown with ⟨rfl, rfl⟩ | ⟨g, cap, cs, fr, rfl, hb, hg, h11, h2, h3, h4, h5⟩
  · by_cases hm : s.size = 0
    · have hn : bytesVals s = [] := List.eq_nil_of_length_eq_zero (by omega)
      rw [hn]
      refine ⟨.slice none 0 0, w, ?_, Own.nil _ _ _, ⟨rfl, rfl, rfl, Nat.le_refl _, fun _ _ _ => rfl⟩⟩
      simp [Builtin.append_, run_underlying ht, run_underlying hu, sizeOf, typeInfo, hi, Builtin.lenOf, Builtin.firstCells, hm]
    · have hr := run_append_nil_string (P := P) w t u ty e i z ht hu hi hz s (by omega) (by simp only [List.length_nil] at hbytes; omega) (by rw [hby]; simp only [List.length_nil] at hbytes; omega)
      have hgr := appended_grown (w := w) (E := e) hzs [] (bytesVals s) hbase 0 hmax (Value.ownBlock (.slice none 0 0))
      simp only [List.length_nil, Nat.zero_add, List.nil_append, Array.empty_append, hl] at hgr ⊢
      rw [bytesVals_array] at hr
      exact ⟨_, _, hr, hgr.1, hgr.2⟩
  · by_cases hroom : xs.length + (bytesVals s).length ≤ cap
    · have hst := run_storeCells_own (P := P) hg h2 h5 xs.length (bytesVals s) hroom (oneCell_bytes s)
      have hA := appended_room (w := w) (news := bytesVals s) hb hg h11 h2 h3 h4 h5 hroom
      rw [hl] at hroom hA
      refine ⟨_, _, ?_, hA.1, hA.2⟩
      simp [Builtin.append_, run_underlying ht, run_underlying hu, sizeOf, typeInfo, hi, hsize, Builtin.lenOf, hroom, Builtin.firstCells, bytes_extract_all, Addr.add_lit, hst]
      rw [List.take_of_length_le (by rw [List.length_map, Array.length_toList]; exact Nat.le_refl _)]
      rw [show List.map (fun b : UInt8 => Value.int IntKind.u8 (b.toNat : Int)) s.data.toList = bytesVals s from rfl, hst]
      rfl
    · have hcells : ∀ j u, xs[j]? = some u → w.cell? ((⟨g, 0, none⟩ : Addr).add j) = some u := fun j u hu => ((show Own base e (.slice (some ⟨g, 0, none⟩) xs.length cap) xs w from .inr ⟨g, cap, cs, fr, rfl, hb, hg, h11, h2, h3, h4, h5⟩).cells rfl).2 j u hu
      have hgr := appended_grown (w := w) (E := e) hzs xs (bytesVals s) hbase cap hmax (Value.ownBlock (.slice (some ⟨g, 0, none⟩) xs.length cap))
      rw [hl] at hroom hgr
      have hfit := growslice_fits (need := xs.length + s.size) (old := cap) (bytes := 1) (by omega) (by omega)
      have h48' : ¬ (281474976710656 < Builtin.nextslicecap (xs.length + s.size) cap) := by omega
      have hfo := run_firstCells_some (P := P) w.drew i.size xs.length ⟨g, 0, none⟩ xs.length cap xs (by rw [hsize]; omega) (by simpa using hcells)
      refine ⟨_, _, ?_, hgr.1, hgr.2⟩
      simp only [hsize] at hfo
      simp [Builtin.append_, run_underlying ht, run_underlying hu, sizeOf, typeInfo, zeroValue, hi, hz, hby, hsize, Builtin.lenOf, hroom, h48', Question.forced, hfo, newRow, grownCap, run_firstCells_bytes, -List.append_toArray]
/-- Append of zeros. -/
theorem run_append_OwnZeros (t u ty e : TypeId) (i : TypeInfo) (z : Value) (k : IntKind) (ht : P.underlying t = some (.slice e)) (hu : P.underlying u = some (.int k)) (hi : P.info? e = some i) (hz : i.zero = some z) (hsize : i.size = 1) (hby : i.bytes = 1) (hzc : z.cells = #[z]) (hz1 : z.oneCell' = true)
    (hown : Own base e v xs w) (m : Nat) (hm0 : 0 < m)
    (hbytes : xs.length + m ≤ 140737488355328) (hbase : base ≤ w.heap.size) :
    Appended base e v xs (List.replicate m z) w ((Builtin.append_ #[t, u] ty #[v, .int k m]).run P w) := by
  have hmax : xs.length + (List.replicate m z).length ≤ maxLen := by simp only [maxLen, List.length_replicate]; omega
  have hwr : IntKind.i64.wrap (m : Int) = m := IntWalk.i64_in _ (by omega)
  have hzs : z.cells.size = 1 := by rw [hzc]; rfl
  have hn0 : ¬ (m : Int) < 0 := by omega
  have hn1 : ¬ (281474976710656 < (m : Int)) := by omega
  have hm1 : m ≠ 0 := by omega
  rcases hown with ⟨rfl, rfl⟩ | ⟨g, cap, cs, fr, rfl, hb, hg, h11, h2, h3, h4, h5⟩
  · have hgr := appended_grown (w := w) (E := e) hzs [] (List.replicate m z) hbase 0 hmax (Value.ownBlock (.slice none 0 0))
    have h48' : ¬ (281474976710656 < Builtin.nextslicecap m 0) := by rw [nextslicecap_zero hm0]; simp only [List.length_nil] at hbytes; omega
    simp only [List.length_nil, Nat.zero_add, List.nil_append, Array.empty_append, List.length_replicate] at hgr ⊢
    refine ⟨_, _, ?_, hgr.1, hgr.2⟩
    simp [Builtin.append_, run_underlying ht, run_underlying hu, sizeOf, typeInfo, zeroValue, hi, hz, hby, hsize, Builtin.lenOf, h48', Question.forced, newRow, grownCap, asInt, asIntOf, hwr, hn0, hn1, hm1, run_firstCells_none, zeroCells_one hzc]
    intro h
    omega
  · by_cases hroom : xs.length + (List.replicate m z).length ≤ cap
    · have hst := run_storeCells_own (P := P) hg h2 h5 xs.length (List.replicate m z) hroom (by intro u hu; rw [List.eq_of_mem_replicate hu]; exact hz1)
      have hA := appended_room (w := w) (news := List.replicate m z) hb hg h11 h2 h3 h4 h5 hroom
      rw [List.length_replicate] at hroom hA
      refine ⟨_, _, ?_, hA.1, hA.2⟩
      simp [Builtin.append_, run_underlying ht, run_underlying hu, sizeOf, typeInfo, zeroValue, hi, hz, hby, hsize, Builtin.lenOf, hroom, asInt, asIntOf, hwr, hn0, hn1, hm1, zeroCells_one hzc, Addr.add_lit, hst]
    · have hcells : ∀ j u, xs[j]? = some u → w.cell? ((⟨g, 0, none⟩ : Addr).add j) = some u := fun j u hu => ((show Own base e (.slice (some ⟨g, 0, none⟩) xs.length cap) xs w from .inr ⟨g, cap, cs, fr, rfl, hb, hg, h11, h2, h3, h4, h5⟩).cells rfl).2 j u hu
      have hgr := appended_grown (w := w) (E := e) hzs xs (List.replicate m z) hbase cap hmax (Value.ownBlock (.slice (some ⟨g, 0, none⟩) xs.length cap))
      rw [List.length_replicate] at hroom hgr
      have hfit := growslice_fits (need := xs.length + m) (old := cap) (bytes := 1) (by omega) (by omega)
      have h48' : ¬ (281474976710656 < Builtin.nextslicecap (xs.length + m) cap) := by omega
      have hfo := run_firstCells_some (P := P) w.drew i.size xs.length ⟨g, 0, none⟩ xs.length cap xs (by rw [hsize]; omega) (by simpa using hcells)
      refine ⟨_, _, ?_, hgr.1, hgr.2⟩
      simp only [hsize] at hfo
      have h64 : ¬ (9223372036854775807 < (xs.length : Int) + (m : Int)) := by omega
      simp [Builtin.append_, run_underlying ht, run_underlying hu, sizeOf, typeInfo, zeroValue, hi, hz, hby, hsize, Builtin.lenOf, hroom, h48', Question.forced, hfo, newRow, grownCap, asInt, asIntOf, hwr, hn0, hn1, hm1, h64, zeroCells_one hzc]
end
end Go.Proofs.YtcebfkhfnjbfjaaGreatDoor
namespace Go.Proofs.YtcebfkhfnjbfjaaGreatDoor
open Go.RowKit
set_option linter.unusedVariables false
set_option linter.unusedSimpArgs false
section
variable {P : Program} {base : Nat} {E : TypeId} {v : Value} {xs : List Value} {w : World}
theorem info_of {e : TypeId} {z : Value} {n m : Nat} (h : (P.info? e).map (fun i => (i.zero, i.size, i.bytes)) = some (some z, n, m)) : ∃ i, P.info? e = some i ∧ i.zero = some z ∧ i.size = n ∧ i.bytes = m := by
  cases hi : P.info? e with
  | none => rw [hi] at h; simp at h
  | some i =>
    rw [hi] at h
    simp only [Option.map_some, Option.some.injEq, Prod.mk.injEq] at h
    exact ⟨i, rfl, h.1, h.2.1, h.2.2⟩
/-- The walk over an append whose law is told. -/
theorem wpList_app {ops : Array Oper} {rest : List Oper} {o : Oper} {a : Act} {Q : Exit → Act → World → Prop} {news : List Value} (hgd : o.guard = none) (s x : Operand) (t u : TypeId)
    (ho : o.op = .call { callee := .builtin .append, args := #[s, x], argTypes := #[t, u] }) (v xv : Value) (hs : a.eval s = v) (hx : a.eval x = xv)
    (happ : Appended base E v xs news w ((Builtin.append_ #[t, u] o.type #[v, xv]).run P w))
    (h : ∀ v' w', Own base E v' (xs ++ news) w' → w.grownBy w' v.ownBlock → wpList P ops Q rest (a.put o.dst v') w') : wpList P ops Q (o :: rest) a w := by
  obtain ⟨v', w', hr, h2, h3⟩ := happ
  refine wpList_plain hgd fun _ hK => ?_
  unfold Oper.wp execOp
  simp only [ho, resolve, invoke, builtin, Sem.run_bind, Sem.run_pure, Result.andThen_ok, List.map_toArray, List.map_cons, List.map_nil, hs, hx, hr]
  exact hK _ _ (h v' w' h2 h3)
/-- One more element, just laid in a row of its own. -/
theorem app_one (t ty e : TypeId) {z : Value} {bytes : Nat} (ht : P.underlying t = some (.slice e)) (hinfo : (P.info? e).map (fun i => (i.zero, i.size, i.bytes)) = some (some z, 1, bytes)) (hzs : z.cells.size = 1)
    (hown : Own base e v xs w) (x : Value) (hx1 : x.oneCell' = true) (hb : (xs.length + 1) * bytes ≤ 140737488355328) (hmax : xs.length + 1 ≤ maxLen) (hbase : base ≤ w.heap.size) :
    Appended base e v xs [x] (w.alloc (.cells #[x] e)) ((Builtin.append_ #[t, t] ty #[v, .slice (some ⟨w.heap.size, 0, none⟩) 1 1]).run P (w.alloc (.cells #[x] e))) := by
  obtain ⟨i, hi, hz, hs, hby⟩ := info_of hinfo
  refine run_append_Own t t e i z bytes ht hi hz hs hby hzs (hown.alloc _) ⟨w.heap.size, 0, none⟩ 1 1 [x] rfl (fun j u hu => ?_) (by intro u hu; simp at hu; rw [hu]; exact hx1) hb hmax (by simp; omega)
  have hj : j = 0 := by
    have := (List.getElem?_eq_some_iff.1 hu).1
    simp at this
    exact this
  subst hj
  simp at hu
  subst hu
  have hadd : (⟨w.heap.size, 0, none⟩ : Addr).add 0 = ⟨w.heap.size, 0, none⟩ := by unfold Addr.add; split <;> simp_all
  rw [hadd, cell_of_row _ _ 0 #[x] e (0, 0) (heap_alloc_new w _)]
  rfl
end
theorem info5 : (Tryz.prog.info? 5).map (fun i => (i.zero, i.size, i.bytes)) = some (some (.int .u8 0), 1, 1) := by kernel_rfl
theorem info9 : (Tryz.prog.info? 9).map (fun i => (i.zero, i.size, i.bytes)) = some (some (.string ⟨#[]⟩), 1, 16) := by kernel_rfl
theorem info45 : (Tryz.prog.info? 45).map (fun i => (i.zero, i.size, i.bytes)) = some (some (.int .u32 0), 1, 4) := by kernel_rfl
section
variable {base : Nat} {v : Value} {xs : List Value} {w : World}
theorem app_byte (ty : TypeId) (b : Int) (hown : Own base 5 v xs w) (hb : xs.length + 1 ≤ 140737488355328) (hbase : base ≤ w.heap.size) :
    Appended base 5 v xs [.int .u8 b] (w.alloc (.cells #[.int .u8 b] 5)) ((Builtin.append_ #[22, 22] ty #[v, .slice (some ⟨w.heap.size, 0, none⟩) 1 1]).run Tryz.prog (w.alloc (.cells #[.int .u8 b] 5))) :=
  app_one 22 ty 5 Tryz.underlying22 info5 rfl hown _ rfl (by omega) (by simp only [maxLen]; omega) hbase
theorem app_str1 (ty : TypeId) (s : ByteArray) (hown : Own base 9 v xs w) (hb : xs.length + 1 ≤ 8796093022208) (hbase : base ≤ w.heap.size) :
    Appended base 9 v xs [.string s] (w.alloc (.cells #[.string s] 9)) ((Builtin.append_ #[23, 23] ty #[v, .slice (some ⟨w.heap.size, 0, none⟩) 1 1]).run Tryz.prog (w.alloc (.cells #[.string s] 9))) :=
  app_one 23 ty 9 Tryz.underlying23 info9 rfl hown _ rfl (by omega) (by simp only [maxLen]; omega) hbase
theorem app_word (ty : TypeId) (b : Int) (hown : Own base 45 v xs w) (hb : xs.length + 1 ≤ 35184372088832) (hbase : base ≤ w.heap.size) :
    Appended base 45 v xs [.int .u32 b] (w.alloc (.cells #[.int .u32 b] 45)) ((Builtin.append_ #[30, 30] ty #[v, .slice (some ⟨w.heap.size, 0, none⟩) 1 1]).run Tryz.prog (w.alloc (.cells #[.int .u32 b] 45))) :=
  app_one 30 ty 45 Tryz.underlying30 info45 rfl hown _ rfl (by omega) (by simp only [maxLen]; omega) hbase
theorem app_zeros (ty : TypeId) (m : Nat) (hm : 0 < m) (hown : Own base 5 v xs w) (hb : xs.length + m ≤ 140737488355328) (hbase : base ≤ w.heap.size) :
    Appended base 5 v xs (List.replicate m (.int .u8 0)) w ((Builtin.append_ #[22, 3] ty #[v, .int .i64 m]).run Tryz.prog w) := by
  obtain ⟨i, hi, hz, hs, hby⟩ := info_of info5
  exact run_append_OwnZeros 22 3 ty 5 i _ .i64 Tryz.underlying22 Tryz.underlying3 hi hz hs hby rfl rfl hown m hm hb hbase
theorem app_text (ty : TypeId) (s : ByteArray) (hown : Own base 5 v xs w) (hb : xs.length + s.size ≤ 140737488355328) (hbase : base ≤ w.heap.size) :
    Appended base 5 v xs (bytesVals s) w ((Builtin.append_ #[22, 9] ty #[v, .string s]).run Tryz.prog w) := by
  obtain ⟨i, hi, hz, hs, hby⟩ := info_of info5
  exact run_append_OwnStr 22 9 ty 5 i _ Tryz.underlying22 Tryz.underlying9 hi hz hs hby rfl hown s hb hbase
end
end Go.Proofs.YtcebfkhfnjbfjaaGreatDoor
namespace Go.Proofs.YtcebfkhfnjbfjaaGreatDoor
open Go.RowKit
set_option linter.unusedVariables false
set_option linter.unusedSimpArgs false
/-- The value is a slice whose elements, of one cell each, are xs. -/
def Sl (v : Value) (xs : List Value) (w : World) : Prop :=
  ∃ a cap, v = .slice a xs.length cap ∧ xs.length ≤ cap ∧ cap ≤ maxLen ∧ ((xs = [] ∧ a = none) ∨ ∃ g o, a = some ⟨g, o, none⟩ ∧ ∀ i x, xs[i]? = some x → w.cell? ⟨g, o + i, none⟩ = some x)
section
variable {P : Program} {v : Value} {xs : List Value} {w : World}
theorem Sl.nil (w : World) : Sl (.slice none 0 0) [] w := ⟨none, 0, rfl, Nat.le_refl _, by simp [maxLen], .inl ⟨rfl, rfl⟩⟩
theorem Sl.below {w' : World} {B : Nat} (h : Sl v xs w) (hb : Below B w w') (hB : w.heap.size ≤ B) : Sl v xs w' := by
  obtain ⟨a, cap, h1, h2, h3, h4⟩ := h
  refine ⟨a, cap, h1, h2, h3, ?_⟩
  rcases h4 with h4 | ⟨g, o, h5, h6⟩
  · exact .inl h4
  · refine .inr ⟨g, o, h5, fun i x hx => ?_⟩
    have h7 := h6 i x hx
    have hlt := World.block_lt_of_cell? w _ h7
    rw [World.cell?_of_block (a := ⟨g, o + i, none⟩) (hb.block g (by dsimp only at hlt; omega))]
    exact h7
theorem Sl.alloc (h : Sl v xs w) (o : Obj) : Sl v xs (w.alloc o) := h.below ((Below.refl _ _).alloc (Nat.le_refl _) o) (Nat.le_refl _)
theorem Sl.drew (h : Sl v xs w) : Sl v xs w.drew := h.below ⟨rfl, rfl, rfl, Nat.le_refl _, fun _ _ => rfl⟩ (Nat.le_refl _)
theorem Sl.heap {w' : World} (h : Sl v xs w) (e : w'.heap = w.heap) : Sl v xs w' := by
  obtain ⟨a, cap, h1, h2, h3, h4⟩ := h
  refine ⟨a, cap, h1, h2, h3, ?_⟩
  rcases h4 with h4 | ⟨g, o, h5, h6⟩
  · exact .inl h4
  · refine .inr ⟨g, o, h5, fun i x hx => ?_⟩
    rw [World.cell?_of_block (w := w) (w' := w') (a := ⟨g, o + i, none⟩) (by rw [e])]
    exact h6 i x hx
/-- What lies in blocks below B is kept by writes from B on. -/
theorem Own.sl {base E : Nat} (h : Own base E v xs w) : Sl v xs w := by
  rcases h with ⟨rfl, rfl⟩ | ⟨g, cap, cs, fr, rfl, hb, hg, h1, h2, h3, h4, h5⟩
  · exact Sl.nil w
  · have ho : Own base E (.slice (some ⟨g, 0, none⟩) xs.length cap) xs w := .inr ⟨g, cap, cs, fr, rfl, hb, hg, h1, h2, h3, h4, h5⟩
    refine ⟨_, cap, rfl, h1, h3, .inr ⟨g, 0, rfl, fun i x hx => ?_⟩⟩
    obtain ⟨g', cap', e, hc, _⟩ := ho.get i x hx
    simp only [Value.slice.injEq, Option.some.injEq, Addr.mk.injEq] at e
    obtain ⟨⟨rfl, _⟩, _⟩ := e
    simpa using hc
theorem Sl.cell (h : Sl v xs w) {i : Nat} {x : Value} (hx : xs[i]? = some x) : ∃ g o cap, v = .slice (some ⟨g, o, none⟩) xs.length cap ∧ w.cell? ⟨g, o + i, none⟩ = some x := by
  obtain ⟨a, cap, h1, h2, h3, h4⟩ := h
  rcases h4 with ⟨rfl, _⟩ | ⟨g, o, rfl, h6⟩
  · simp at hx
  · exact ⟨g, o, cap, h1, h6 i x hx⟩
/-- The first n elements. -/
theorem Sl.take {a : Option Addr} {m cap : Nat} (h : Sl (.slice a m cap) xs w) (n : Nat) (hn : n ≤ m) : Sl (.slice a n cap) (xs.take n) w := by
  obtain ⟨a', cap', h1, h2, h3, h4⟩ := h
  simp only [Value.slice.injEq] at h1
  obtain ⟨rfl, rfl, rfl⟩ := h1
  have hl : (xs.take n).length = n := by simp; omega
  refine ⟨a, cap, by rw [hl], by omega, h3, ?_⟩
  rcases h4 with ⟨rfl, e⟩ | ⟨g, o, rfl, h6⟩
  · exact .inl ⟨by simp, e⟩
  · refine .inr ⟨g, o, rfl, fun i x hx => h6 i x ?_⟩
    rw [List.getElem?_take] at hx
    split at hx
    · exact hx
    · cases hx
end
/-- The words of a natural number, as values. -/
abbrev words (xs : List Nat) : List Value := xs.map fun (x : Nat) => Value.int .u32 (x : Int)
/-- The value is the number of these words. -/
def Num (v : Value) (xs : List Nat) (w : World) : Prop := (∀ x ∈ xs, x < 4294967296) ∧ Sl v (words xs) w
theorem Num.below {v : Value} {xs : List Nat} {w w' : World} {B : Nat} (h : Num v xs w) (hb : Below B w w') (hB : w.heap.size ≤ B) : Num v xs w' := ⟨h.1, h.2.below hb hB⟩
theorem Num.alloc {v : Value} {xs : List Nat} {w : World} (h : Num v xs w) (o : Obj) : Num v xs (w.alloc o) := ⟨h.1, h.2.alloc o⟩
theorem Num.drew {v : Value} {xs : List Nat} {w : World} (h : Num v xs w) : Num v xs w.drew := ⟨h.1, h.2.drew⟩
/-- A number without noughts at its end. -/
def bareL (xs : List Nat) : List Nat := (xs.reverse.dropWhile (· == 0)).reverse
theorem bareL_zero (ys : List Nat) : bareL (ys ++ [0]) = bareL ys := by simp [bareL]
theorem bareL_last (ys : List Nat) (x : Nat) (hx : x ≠ 0) : bareL (ys ++ [x]) = ys ++ [x] := by
  have : (x == 0) = false := by simpa using hx
  simp [bareL, List.dropWhile_cons, this]
set_option maxHeartbeats 1000000 in
set_option maxRecDepth 100000 in
theorem lBare_any (v : Value) (xs : List Nat) (w : World) (h : Num v xs w) :
    Calls Tryz.prog 35 #[v] w fun e w' => (∃ v', e = .returned v' ∧ Num v' (bareL xs) w') ∧ Below w.heap.size w w' := by
  have hb := Below.refl w.heap.size w
  go_enter Tryz.func35, Tryz.ntmps35
  go_wp2
  go_loopw [0] (fun v W => ∃ ys : List Nat, Num v ys W ∧ bareL ys = bareL xs ∧ Below w.heap.size w W) (fun v _ => match v with | .slice _ n _ => n | _ => 0)
  case atStart => exact ⟨xs, h, rfl, hb⟩
  case round =>
    clear h hb
    obtain ⟨ys, h, hys, hb⟩ := hrel
    rcases List.eq_nil_or_concat ys with rfl | ⟨zs, x, rfl⟩
    · obtain ⟨a, cap, rfl, hc1, hc2, h4⟩ := h.2
      simp only [words, List.map_nil, List.length_nil] at h ⊢
      go_wp2
      go_ret
      rw [← hys]
      exact ⟨⟨_, rfl, h⟩, hb⟩
    · rw [List.concat_eq_append] at h hys
      obtain ⟨g, o, cap, rfl, hc⟩ := h.2.cell (i := zs.length) (x := .int .u32 x) (by simp)
      have hcap : zs.length + 1 ≤ cap := by
        obtain ⟨a', cap', h1, h2, _⟩ := h.2
        simp only [Value.slice.injEq] at h1
        obtain ⟨_, _, rfl⟩ := h1
        simpa using h2
      have hmax : zs.length + 1 ≤ maxLen := by
        obtain ⟨a', cap', h1, h2, h3, _⟩ := h.2
        simp at h2
        omega
      simp only [maxLen] at hmax
      have htk := h.2.take zs.length (by simp)
      simp only [words, List.map_append, List.map_cons, List.map_nil, List.length_append, List.length_map, List.length_cons, List.length_nil, Nat.zero_add] at htk ⊢
      have hn0 := h.1
      have hz : ∀ y ∈ zs, y < 4294967296 := fun y hy => hn0 y (by simp [hy])
      replace htk : Num (.slice (some ⟨g, o, none⟩) zs.length cap) zs wr := ⟨hz, by simpa [words] using htk⟩
      obtain ⟨n, hn⟩ : ∃ n, zs.length = n := ⟨_, rfl⟩
      rw [hn] at hc hcap htk hmax ⊢
      by_cases hx : x = 0
      · subst hx
        rw [bareL_zero] at hys
        go_wp2
        go_roundw
        case rel => exact ⟨zs, htk, hys, hb⟩
        case measure => simp
      · have hdx : decide ((x : Int) = 0) = false := by simpa using hx
        go_wp2
        go_ret
        rw [← hys, bareL_last zs x hx]
        simp only [words, List.map_append, List.map_cons, List.map_nil, List.length_append, List.length_map, List.length_cons, List.length_nil, Nat.zero_add, hn] at h
        exact ⟨⟨_, rfl, h⟩, hb⟩
end Go.Proofs.YtcebfkhfnjbfjaaGreatDoor
