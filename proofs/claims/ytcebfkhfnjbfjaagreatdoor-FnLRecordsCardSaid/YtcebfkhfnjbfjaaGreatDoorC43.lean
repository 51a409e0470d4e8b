/- What stands while FnLRecords runs. Texts by kinds, for the regions of FnLRecords that draw. -/
import Derived.Test.YtcebfkhfnjbfjaaGreatDoorC20
import Derived.Test.YtcebfkhfnjbfjaaGreatDoorC25
import Derived.Test.YtcebfkhfnjbfjaaGreatDoorC42
import Derived.Test.YtcebfkhfnjbfjaaGreatDoorC34
import Derived.Great.BuildSlice
namespace Go.Proofs.YtcebfkhfnjbfjaaGreatDoor
open Go.RowKit
set_option linter.unusedVariables false
set_option linter.unusedSimpArgs false
theorem KeyIs.ed {key : List UInt8} (h : key.length = 32) : KeyIs edT key key 256 0 (EdV key) :=
  ⟨.inl ⟨h, rfl, rfl⟩, .inl ⟨h, rfl, rfl, rfl, rfl, rfl⟩, by rintro rfl; simp at h, by omega, by omega, by omega⟩
theorem KeyIs.rsa {N E : List Nat} {key : List UInt8} (h : RsaN N E) (hm : key = innerF N E ∨ key = outerF N E) (hl : key.length ≤ 20000) :
    KeyIs rsaT key (modF N) (bitsL N : Int) (E.getD 0 0 : Int) (RsaV (modF N) (E.getD 0 0)) := by
  have hb := h.bare
  have hx := h.exp
  have hl1 := h.modLen
  have hk := h.key
  rw [innerF_B, outerF_B] at hm
  refine ⟨.inr ⟨rfl, cnF N, cnF E, hk, hm, by rw [hb]; exact hl1.1, by rw [hb, hx.1]⟩, .inr ⟨rfl, cnF N, cnF E, by rw [hb]; exact hl1.1, hk.n, hb.symm, by rw [hx.1], by rw [hb]; exact h.bits, by rw [hb, hx.1]⟩, ?_, hl, by omega, by omega⟩
  rcases hm with rfl | rfl
  · intro e
    have := itemF_pos 48 (itemF 2 (cnF N) ++ itemF 2 (cnF E))
    rw [show itemF 48 (itemF 2 (cnF N) ++ itemF 2 (cnF E)) = innerB (cnF N) (cnF E) from rfl, e] at this
    simp at this
  · intro e
    have := itemF_pos 48 (itemF 48 headT ++ itemF 3 (0 :: innerB (cnF N) (cnF E)))
    rw [show itemF 48 (itemF 48 headT ++ itemF 3 (0 :: innerB (cnF N) (cnF E))) = outerB (cnF N) (cnF E) from rfl, e] at this
    simp at this
theorem rsaN_of {o : Opts} (h : keyOk o = true) (hr : o.kind = rsaT) (hb : bitsL (ofF (hexD o.n)) ≤ 2048) (hn : ∀ x ∈ keyN o, x < 4294967296) : RsaN (keyN o) (keyE o) := by
  have e1 : keyN o = ofF (hexD o.n) := by unfold keyN; rw [if_pos hr]
  have e2 : keyE o = ofF (hexD o.e) := by unfold keyE; rw [if_pos hr]
  unfold keyOk at h
  rw [if_pos hr] at h
  simp only [ch6, ch5, ch4, ch3, oddF, Bool.and_eq_true, decide_eq_true_eq] at h
  obtain ⟨⟨⟨⟨_, h2⟩, _⟩, _⟩, h1⟩ := h
  rw [e1, e2]
  rw [e1] at hn
  exact ⟨hn, h1, hb, h2.1.1.1.2, h2.1.2, h2.2⟩
theorem kind_of {o : Opts} (h : keyOk o = true) : o.kind = rsaT ∨ o.kind = edT := by
  by_cases hr : o.kind = rsaT
  · exact .inl hr
  · unfold keyOk at h
    rw [if_neg hr, Bool.and_eq_true] at h
    exact .inr (by simpa using h.1)
theorem key_lens {o : Opts} (h : OptOk o) : (keyN o).length ≤ 1000 ∧ (keyE o).length ≤ 1000 := by
  have h1 := h.n
  have h2 := h.e
  have h3 := hexD_length o.n
  have h4 := hexD_length o.e
  have h5 := ofF_length (hexD o.n)
  have h6 := ofF_length (hexD o.e)
  constructor
  · unfold keyN; split
    · omega
    · simp
  · unfold keyE; split
    · omega
    · simp
/-- What the record shall say of the key. -/
def SaysKey (o : Opts) (key B : List UInt8) (bits x : Int) : Prop :=
  (o.kind = edT ∧ B = key ∧ bits = 256) ∨ (o.kind = rsaT ∧ RsaN (keyN o) (keyE o) ∧ B = modF (keyN o) ∧ bits = (bitsL (keyN o) : Int) ∧ x = ((keyE o).getD 0 0 : Int))
/-- What stands while the law runs. -/
structure Law (o : Opts) (vb : Value) (w W : World) : Prop where
  g0 : W.heap[w.heap.size]? = some (.cells o.cells 25 (0, 0))
  g1 : W.heap[w.heap.size + 1]? = some (.cells #[vb] 22 (0, 0))
  below : Below w.heap.size w W
section
variable {o : Opts} {vb : Value} {w W W' : World}
theorem Law.lt (h : Law o vb w W) : w.heap.size + 2 ≤ W.heap.size := by
  have := (Array.getElem?_eq_some_iff.1 h.g1).1
  omega
theorem Law.grown (h : Law o vb w W) {r : Option Nat} (hg : W.grownBy W' r) (hr : ∀ k, r = some k → w.heap.size + 2 ≤ k) : Law o vb w W' := by
  have hl := h.lt
  refine ⟨(hg.block _ (by omega) fun e => by have := hr _ e.symm; omega).trans h.g0, (hg.block _ (by omega) fun e => by have := hr _ e.symm; omega).trans h.g1, below_grown h.below hg (fun k hk => by have := hr k hk; omega) (by omega)⟩
theorem Law.keep (h : Law o vb w W) (hb : Below W.heap.size W W') : Law o vb w W' := h.grown (r := none) (grownBy_below hb (Nat.le_refl _)) (fun k hk => by cases hk)
theorem Law.alloc (h : Law o vb w W) (ob : Obj) : Law o vb w (W.alloc ob) := h.grown (World.grownBy_alloc W ob none) (fun k hk => by cases hk)
theorem Law.ok (h : Law o vb w W) (hok : o.Ok w) : o.Ok W := hok.below h.below (Nat.le_refl _)
end
/-- What stands while the closure's count is n. -/
structure LawN (o : Opts) (vb : Value) (w : World) (C0 n : Nat) (W : World) : Prop where
  law : Law o vb w W
  cell : W.heap[C0]? = some (.cells #[.int .i64 (n : Int)] 3 (0, 0))
  past : w.heap.size + 2 ≤ C0
section
variable {o : Opts} {vb : Value} {w W W' : World} {C0 n : Nat}
theorem LawN.lt (h : LawN o vb w C0 n W) : C0 < W.heap.size := (Array.getElem?_eq_some_iff.1 h.cell).1
theorem LawN.grown (h : LawN o vb w C0 n W) {r : Option Nat} (hg : W.grownBy W' r) (hr : ∀ k, r = some k → w.heap.size + 2 ≤ k ∧ k ≠ C0) : LawN o vb w C0 n W' :=
  ⟨h.law.grown hg fun k hk => (hr k hk).1, (hg.block _ h.lt fun e => (hr _ e.symm).2 rfl).trans h.cell, h.past⟩
theorem LawN.keep (h : LawN o vb w C0 n W) (hb : Below W.heap.size W W') : LawN o vb w C0 n W' := h.grown (r := none) (grownBy_below hb (Nat.le_refl _)) (fun k hk => by cases hk)
theorem LawN.alloc (h : LawN o vb w C0 n W) (ob : Obj) : LawN o vb w C0 n (W.alloc ob) := h.grown (World.grownBy_alloc W ob none) (fun k hk => by cases hk)
/-- The closure by is called. -/
theorem LawN.by (h : LawN o vb w C0 n W) {l : List UInt8} (h0 : SlI vb (bs l) w) (hn : n ≤ 1000000) :
    Calls Tryz.prog 10 #[.pointer (some ⟨w.heap.size + 1, 0, none⟩), .pointer (some ⟨C0, 0, none⟩)] W fun e W' => ∃ k n' s, k ≤ 3 ∧ blank k = s ∧ e = .returned (.string (str s)) ∧ n ≤ n' ∧ n' ≤ n + 1 ∧ LawN o vb w C0 n' W' ∧ W.grownBy W' (some C0) := by
  have hp := h.past
  refine (by_any (w.heap.size + 1) C0 n vb l w W h0 h.law.below (by omega) (by omega) (by omega) h.law.g1 h.cell).mono ?_
  rintro e W' ⟨⟨k, hk, rfl⟩, hg, n', h1, h2, h3⟩
  exact ⟨k, n', _, hk, rfl, rfl, h1, h2, ⟨h.law.grown hg fun j hj => by cases hj; exact hp, h3, hp⟩, hg⟩
end
end Go.Proofs.YtcebfkhfnjbfjaaGreatDoor
namespace Go.Proofs.YtcebfkhfnjbfjaaGreatDoor
open Go.RowKit
set_option linter.unusedVariables false
set_option linter.unusedSimpArgs false
/-- A text of which p is said. -/
def TxK (p : List UInt8 → Prop) (v : Value) : Prop := ∃ s, v = .string (str s) ∧ p s
theorem safe_addS {P : Program} {T : Tmp → Value → Prop} {I : World → Prop} {d : Tmp} {x y : Operand} {tx ty t : TypeId} {ps : String} {af : Array Edge} {gd : Option (Nat × Bool)} (p q r : List UInt8 → Prop) (hx : Opd T x (TxK p)) (hy : Opd T y (TxK q))
    (hl : ∀ a b, p a → q b → a.length + b.length ≤ 1000000000) (h : ∀ a b, p a → q b → r (a ++ b)) (hT : ∀ v, TxK r v → T d v) :
    SafeOp P T I { dst := some d, op := .binOp .add tx x y ty, type := t, pos := ps, after := af, guard := gd } :=
  safe_bin _ _ hx hy fun u v W ⟨a, hu, hp⟩ ⟨b, hv, hq⟩ => by
    subst hu hv
    have hs : (str a).size + (str b).size ≤ 9223372036854775807 := by have := hl a b hp hq; rw [str_size, str_size]; omega
    refine ⟨.string (str (a ++ b)), ?_, guard_other _ _ _ _ _ ⟨by simp, by simp⟩ _ _, fun d' hd => by cases hd; exact hT _ ⟨_, rfl, h a b hp hq⟩⟩
    rw [show Sem.run P (binOp .add tx (.string (str a)) (.string (str b))) W = Sem.run P (Op.stringOp .add (str a) (str b)) W from rfl, run_string_add_sum W _ _ hs, str_append]
theorem safeC_move {P : Program} {Tin T : Tmp → World → Value → Prop} {I : World → Prop} {R : World → World → Prop} {C : Nat → World → Prop} {d : Tmp} {x : Operand} {t : TypeId} {ps : String} {af : Array Edge} {gd : Option (Nat × Bool)} (hR : ∀ W, R W W) (hC : ∀ k W, C (k + 1) W → C k W) (h : OpdW Tin I x (T d)) :
    SafeOpC P Tin T I R C { dst := some d, op := .move x, type := t, pos := ps, after := af, guard := gd } := by
  intro k ρ w hI hk hT hc hf
  exact ⟨hR w, ⟨hI, hC _ _ hk⟩, fun d' hd => by cases hd; exact h.at_ (l := #[x]) (by simp) hI hT hc⟩
theorem safeC_assign {P : Program} {Tin T : Tmp → World → Value → Prop} {I : World → Prop} {R : World → World → Prop} {C : Nat → World → Prop} {d : Tmp} {x : Operand} {t : TypeId} {ps : String} {af : Array Edge} {gd : Option (Nat × Bool)} (hR : ∀ W, R W W) (hC : ∀ k W, C (k + 1) W → C k W) (h : OpdW Tin I x (T d)) :
    SafeOpC P Tin T I R C { dst := some d, op := .assign x, type := t, pos := ps, after := af, guard := gd } := by
  intro k ρ w hI hk hT hc hf
  exact ⟨hR w, ⟨hI, hC _ _ hk⟩, fun d' hd => by cases hd; exact h.at_ (l := #[x]) (by simp) hI hT hc⟩
/-- The six texts of the tags. -/
def sixF (a b : List UInt8) : Array Value := #[.string (str a), .string (str b), .string ⟨#[116, 61, 115]⟩, .string ⟨#[110, 61, 110, 111, 116, 101]⟩, .string ⟨#[115, 61, 101, 109, 97, 105, 108]⟩, .string ⟨#[104, 61, 115, 104, 97, 50, 53, 54]⟩]
theorem run_build6 (a b : ByteArray) (W : World) :
    Sem.run Tryz.prog (Instr.buildSlice 23 6 #[(0, .string a), (1, .string b), (2, .string ⟨#[116, 61, 115]⟩), (3, .string ⟨#[110, 61, 110, 111, 116, 101]⟩), (4, .string ⟨#[115, 61, 101, 109, 97, 105, 108]⟩), (5, .string ⟨#[104, 61, 115, 104, 97, 50, 53, 54]⟩)]) W
      = .ok (.slice (some ⟨W.heap.size, 0, none⟩) 6 6) (W.alloc (.cells #[.string a, .string b, .string ⟨#[116, 61, 115]⟩, .string ⟨#[110, 61, 110, 111, 116, 101]⟩, .string ⟨#[115, 61, 101, 109, 97, 105, 108]⟩, .string ⟨#[104, 61, 115, 104, 97, 50, 53, 54]⟩] 9)) := by
  obtain ⟨i, hi, hz, hs, hby⟩ := info_of info9
  refine run_buildSlice W 23 9 6 _ _ i _ Tryz.underlying23 hi hz (by rw [hs]; decide) (by rw [hs]; decide) ?_
  rw [hs]
  exact Great.fill_flat [.string a, .string b, .string ⟨#[116, 61, 115]⟩, .string ⟨#[110, 61, 110, 111, 116, 101]⟩, .string ⟨#[115, 61, 101, 109, 97, 105, 108]⟩, .string ⟨#[104, 61, 115, 104, 97, 50, 53, 54]⟩] _ (fun v hv => by
    simp only [List.mem_cons, List.not_mem_nil, or_false] at hv
    rcases hv with rfl | rfl | rfl | rfl | rfl | rfl <;> rfl) (by simp)
set_option maxRecDepth 100000 in
theorem safeC_build6 {T : Tmp → World → Value → Prop} {I : World → Prop} {R : World → World → Prop} {C : Nat → World → Prop} {d : Tmp} {x y : Operand} {t : TypeId} {ps : String} {af : Array Edge} {gd : Option (Nat × Bool)} (p q : List UInt8 → Prop) (hx : OpdW T I x fun _ => TxK p) (hy : OpdW T I y fun _ => TxK q)
    (h : ∀ k W a b, I W → C (k + 1) W → p a → q b → R W (W.alloc (.cells (sixF a b) 9)) ∧ (I (W.alloc (.cells (sixF a b) 9)) ∧ C k (W.alloc (.cells (sixF a b) 9))) ∧ T d (W.alloc (.cells (sixF a b) 9)) (.slice (some ⟨W.heap.size, 0, none⟩) 6 6)) :
    SafeOpC Tryz.prog T T I R C { dst := some d, op := .buildSlice 23 6 #[(0, x), (1, y), (2, .const (.string ⟨#[116, 61, 115]⟩)), (3, .const (.string ⟨#[110, 61, 110, 111, 116, 101]⟩)), (4, .const (.string ⟨#[115, 61, 101, 109, 97, 105, 108]⟩)), (5, .const (.string ⟨#[104, 61, 115, 104, 97, 50, 53, 54]⟩))], type := t, pos := ps, after := af, guard := gd } := by
  intro k ρ w hI hk hT hc hf
  have hm : ∀ u, Operand.tmp u ∈ #[x, y] → T u w (ρ (.tmp u)) := fun u hu => hT u (by
    simp only [Op.operands, List.map_toArray, List.map_cons, List.map_nil, List.mem_toArray, List.mem_cons, List.not_mem_nil, or_false] at hu ⊢
    rcases hu with h | h
    · exact Or.inl h
    · exact Or.inr (Or.inl h))
  have hx1 : TxK p (ρ x) := hx.at_ (l := #[x, y]) (ρ := ρ) (by simp) hI hm hc
  have hy1 : TxK q (ρ y) := hy.at_ (l := #[x, y]) (ρ := ρ) (by simp) hI hm hc
  obtain ⟨a, ha, hp⟩ := hx1
  obtain ⟨b, hb, hq⟩ := hy1
  have e : Sem.run Tryz.prog (execOp ρ { dst := some d, op := .buildSlice 23 6 #[(0, x), (1, y), (2, .const (.string ⟨#[116, 61, 115]⟩)), (3, .const (.string ⟨#[110, 61, 110, 111, 116, 101]⟩)), (4, .const (.string ⟨#[115, 61, 101, 109, 97, 105, 108]⟩)), (5, .const (.string ⟨#[104, 61, 115, 104, 97, 50, 53, 54]⟩))], type := t, pos := ps, after := af, guard := gd }) w = .ok (.value (.slice (some ⟨w.heap.size, 0, none⟩) 6 6)) (w.alloc (.cells (sixF a b) 9)) := by
    have := run_build6 (str a) (str b) w
    have e1 : (#[(0, x), (1, y), (2, Operand.const (.string ⟨#[116, 61, 115]⟩)), (3, .const (.string ⟨#[110, 61, 110, 111, 116, 101]⟩)), (4, .const (.string ⟨#[115, 61, 101, 109, 97, 105, 108]⟩)), (5, .const (.string ⟨#[104, 61, 115, 104, 97, 50, 53, 54]⟩))] : Array (Nat × Operand)).map (fun (i, x) => (i, ρ x)) = #[(0, ρ x), (1, ρ y), (2, ρ (.const (.string ⟨#[116, 61, 115]⟩))), (3, ρ (.const (.string ⟨#[110, 61, 110, 111, 116, 101]⟩))), (4, ρ (.const (.string ⟨#[115, 61, 101, 109, 97, 105, 108]⟩))), (5, ρ (.const (.string ⟨#[104, 61, 115, 104, 97, 50, 53, 54]⟩)))] := by simp only [List.map_toArray, List.map_cons, List.map_nil]
    rw [ha, hb, hc, hc, hc, hc] at e1
    unfold execOp
    dsimp only
    rw [e1, Sem.run_bind, this, Result.andThen_ok, Sem.run_pure]
    rfl
  rw [e]
  obtain ⟨h1, h2, h3⟩ := h k w a b hI hk hp hq
  exact ⟨h1, h2, fun d' hd => by cases hd; exact h3⟩
/-- A block of tags. -/
def TagsAt (G : Nat) (tg : List Tag) (W : World) : Prop := W.heap[G]? = some (.cells (strs (tg.map Tag.bytes)).toArray 9 (0, 0))
theorem sixF_tags (a1 b1 a2 b2 : Nat) (K P : List UInt8) : sixF (Tag.bytes ⟨107, a1, b1, K⟩) (Tag.bytes ⟨112, a2, b2, P⟩) = (strs ((tags0 a1 b1 a2 b2 K P).map Tag.bytes)).toArray := rfl
section
variable {o : Opts} {vb : Value} {w W W' : World} {C0 n G : Nat} {tg : List Tag}
theorem TagsAt.lt (h : TagsAt G tg W) : G < W.heap.size := (Array.getElem?_eq_some_iff.1 h).1
theorem TagsAt.grown (h : TagsAt G tg W) {r : Option Nat} (hg : W.grownBy W' r) (hr : r ≠ some G) : TagsAt G tg W' := (hg.block G h.lt (fun e => hr e.symm)).trans h
theorem TagsAt.cell (h : TagsAt G tg W) {i : Nat} {t : Tag} (ht : tg[i]? = some t) : W.cell? ⟨G, i, none⟩ = some (.string (str t.bytes)) := by
  rw [cell_of_row W G i _ 9 (0, 0) h]
  simp [strs, ht]
theorem LawN.drew (h : LawN o vb w C0 n W) : LawN o vb w C0 n W.drew := h.keep ⟨rfl, rfl, rfl, Nat.le_refl _, fun _ _ => rfl⟩
theorem TagsAt.drew (h : TagsAt G tg W) : TagsAt G tg W.drew := h
theorem call10 (args : Array Value) (W : World) : Sem.run Tryz.prog (callFunc 10 args) W = .ok (.enter 10 args) W := run_callGo (fn := Tryz.f10) (by kernel_rfl) (by kernel_rfl) (by kernel_rfl) args W
end
/-- Some blanks. -/
def B3 (s : List UInt8) : Prop := ∃ k, k ≤ 3 ∧ s = blank k
def T1 (c : UInt8) (s : List UInt8) : Prop := ∃ k, k ≤ 3 ∧ s = c :: blank k
def T2 (c : UInt8) (s : List UInt8) : Prop := ∃ k, k ≤ 3 ∧ s = c :: (blank k ++ [61])
def T3 (c : UInt8) (s : List UInt8) : Prop := ∃ k m, k ≤ 3 ∧ m ≤ 3 ∧ s = c :: (blank k ++ 61 :: blank m)
def TagK (c : UInt8) (V s : List UInt8) : Prop := ∃ k m, k ≤ 3 ∧ m ≤ 3 ∧ s = Tag.bytes ⟨c, k, m, V⟩
def SixK (B C0 : Nat) (K acc : List UInt8) (W : World) (v : Value) : Prop := ∃ G a1 b1 a2 b2, v = .slice (some ⟨G, 0, none⟩) 6 6 ∧ a1 ≤ 3 ∧ b1 ≤ 3 ∧ a2 ≤ 3 ∧ b2 ≤ 3 ∧ B + 2 ≤ G ∧ G ≠ C0 ∧ TagsAt G (tags0 a1 b1 a2 b2 K acc) W
theorem B3.len {s : List UInt8} (h : B3 s) : s.length ≤ 3 := by obtain ⟨k, hk, rfl⟩ := h; simpa [blank_length] using hk
theorem T1.len {c : UInt8} {s : List UInt8} (h : T1 c s) : s.length ≤ 4 := by obtain ⟨k, hk, rfl⟩ := h; simp [blank_length]; omega
theorem T2.len {c : UInt8} {s : List UInt8} (h : T2 c s) : s.length ≤ 5 := by obtain ⟨k, hk, rfl⟩ := h; simp [blank_length]; omega
theorem T3.len {c : UInt8} {s : List UInt8} (h : T3 c s) : s.length ≤ 8 := by obtain ⟨k, m, hk, hm, rfl⟩ := h; simp [blank_length]; omega
theorem t1_of {c : UInt8} : ∀ a b : List UInt8, a = [c] → B3 b → T1 c (a ++ b) := fun a b ha ⟨k, hk, hb⟩ => ⟨k, hk, by rw [ha, hb]; rfl⟩
theorem t2_of {c : UInt8} : ∀ a b : List UInt8, T1 c a → b = [61] → T2 c (a ++ b) := fun a b ⟨k, hk, ha⟩ hb => ⟨k, hk, by rw [ha, hb]; rfl⟩
theorem t3_of {c : UInt8} : ∀ a b : List UInt8, T2 c a → B3 b → T3 c (a ++ b) := fun a b ⟨k, hk, ha⟩ ⟨m, hm, hb⟩ => ⟨k, m, hk, hm, by rw [ha, hb]; simp⟩
theorem tagK_of {c : UInt8} {V : List UInt8} : ∀ a b : List UInt8, T3 c a → b = V → TagK c V (a ++ b) := fun a b ⟨k, m, hk, hm, ha⟩ hb => ⟨k, m, hk, hm, by rw [ha, hb]; simp [Tag.bytes]⟩
theorem opd_const {T : Tmp → Value → Prop} (l : List UInt8) : Opd T (.const (.string (str l))) (TxK (· = l)) := ⟨l, rfl, rfl⟩
theorem SixK.mono {B C0 : Nat} {K acc : List UInt8} {W W' : World} {v : Value} (h : SixK B C0 K acc W v) (hg : W.grownBy W' (some C0)) : SixK B C0 K acc W' v := by
  obtain ⟨G, a1, b1, a2, b2, h1, h2, h3, h4, h5, h6, h7, h8⟩ := h
  exact ⟨G, a1, b1, a2, b2, h1, h2, h3, h4, h5, h6, h7, h8.grown hg fun e => by cases e; exact h7 rfl⟩
theorem cell?_setCell_some {w : World} {p q : Addr} {x v : Value} (h : w.cell? q = some v) : ∃ v', (w.setCell p x).cell? q = some v' := by
  by_cases e : p = q
  · subst e; exact ⟨x, World.cell?_setCell_same w p x h⟩
  · exact ⟨v, (World.cell?_setCell_other w p q x e).trans h⟩
/-- Two tags change places. -/
def swapF (l : List Tag) (i k : Nat) (ti tk : Tag) : List Tag := (l.set i tk).set k ti
theorem swap_perm {l : List Tag} {i k : Nat} {ti tk : Tag} (hi : l[i]? = some ti) (hk : l[k]? = some tk) : (swapF l i k ti tk).Perm l := by
  obtain ⟨h1, rfl⟩ := List.getElem?_eq_some_iff.1 hi
  obtain ⟨h2, rfl⟩ := List.getElem?_eq_some_iff.1 hk
  exact List.set_set_perm h1 h2
theorem TagsAt.swap {G : Nat} {tg : List Tag} {W : World} {i k : Nat} {ti tk : Tag} (h : TagsAt G tg W) (hi : tg[i]? = some ti) (hk : tg[k]? = some tk) :
    TagsAt G (swapF tg i k ti tk) ((W.setCell ⟨G, i, none⟩ (.string (str tk.bytes))).setCell ⟨G, k, none⟩ (.string (str ti.bytes))) := by
  have h1 := heap_setCell_same W G i _ 9 (.string (str tk.bytes)) h
  have h2 := heap_setCell_same _ G k _ 9 (.string (str ti.bytes)) h1
  unfold TagsAt
  rw [h2]
  simp [swapF, strs, List.map_set, List.setIfInBounds_toArray]
theorem tags0_bytes {a1 b1 a2 b2 : Nat} {K acc : List UInt8} (h1 : a1 ≤ 3) (h2 : b1 ≤ 3) (h3 : a2 ≤ 3) (h4 : b2 ≤ 3) (hK : K.length ≤ 10) (ha : acc.length ≤ 40000) : ∀ t ∈ tags0 a1 b1 a2 b2 K acc, t.bytes.length ≤ 40010 := by
  intro t ht
  simp only [tags0, List.mem_cons, List.not_mem_nil, or_false] at ht
  rcases ht with rfl | rfl | rfl | rfl | rfl | rfl <;> simp [Tag.bytes, blank_length] <;> omega
def R1 (R s : List UInt8) : Prop := ∃ k, k ≤ 3 ∧ s = R ++ blank k
def R2 (R s : List UInt8) : Prop := ∃ k, k ≤ 3 ∧ s = R ++ (blank k ++ [59])
def R3 (R s : List UInt8) : Prop := ∃ k m, k ≤ 3 ∧ m ≤ 3 ∧ s = R ++ (blank k ++ 59 :: blank m)
def R4 (R tb s : List UInt8) : Prop := ∃ k m, k ≤ 3 ∧ m ≤ 3 ∧ s = R ++ (blank k ++ 59 :: (blank m ++ tb))
theorem R1.len {R s : List UInt8} (h : R1 R s) : s.length ≤ R.length + 3 := by obtain ⟨k, hk, rfl⟩ := h; simp [blank_length]; omega
theorem R2.len {R s : List UInt8} (h : R2 R s) : s.length ≤ R.length + 4 := by obtain ⟨k, hk, rfl⟩ := h; simp [blank_length]; omega
theorem R3.len {R s : List UInt8} (h : R3 R s) : s.length ≤ R.length + 7 := by obtain ⟨k, m, hk, hm, rfl⟩ := h; simp [blank_length]; omega
theorem r1_of {R : List UInt8} : ∀ a b : List UInt8, a = R → B3 b → R1 R (a ++ b) := fun a b ha ⟨k, hk, hb⟩ => ⟨k, hk, by rw [ha, hb]⟩
theorem r2_of {R : List UInt8} : ∀ a b : List UInt8, R1 R a → b = [59] → R2 R (a ++ b) := fun a b ⟨k, hk, ha⟩ hb => ⟨k, hk, by rw [ha, hb]; simp⟩
theorem r3_of {R : List UInt8} : ∀ a b : List UInt8, R2 R a → B3 b → R3 R (a ++ b) := fun a b ⟨k, hk, ha⟩ ⟨m, hm, hb⟩ => ⟨k, m, hk, hm, by rw [ha, hb]; simp⟩
theorem r4_of {R tb : List UInt8} : ∀ a b : List UInt8, R3 R a → b = tb → R4 R tb (a ++ b) := fun a b ⟨k, m, hk, hm, ha⟩ hb => ⟨k, m, hk, hm, by rw [ha, hb]; simp⟩
theorem recF_end (L : List (Nat × Nat × Tag)) (k m : Nat) (t : Tag) : recF (L ++ [(k, m, t)]) = recF L ++ (blank k ++ 59 :: (blank m ++ t.bytes)) := by
  simp [recF, segF_append, segF]
section
variable {P : Program} {T : Tmp → Value → Prop} {I : World → Prop}
theorem safe_eqI {d : Tmp} {x y : Operand} {tx ty t : TypeId} {ps : String} {af : Array Edge} {gd : Option (Nat × Bool)} {k : IntKind} (a : Int) (hx : Opd T x (· = .int k a)) (hy : Opd T y (· = .int k a)) (h : T d (.bool true)) :
    SafeOp P T I { dst := some d, op := .binOp .eql tx x y ty, type := t, pos := ps, after := af, guard := gd } :=
  safe_bin _ _ hx hy fun u v W hu hv => by
    subst hu hv
    exact ⟨.bool true, by simp [binOp, Op.intCmp], by simp [eqGuard], fun d' hd => by cases hd; exact h⟩
theorem safe_eqS {d : Tmp} {x y : Operand} {tx ty t : TypeId} {ps : String} {af : Array Edge} {gd : Option (Nat × Bool)} (a : ByteArray) (hx : Opd T x (· = .string a)) (hy : Opd T y (· = .string a)) (h : T d (.bool true)) :
    SafeOp P T I { dst := some d, op := .binOp .eql tx x y ty, type := t, pos := ps, after := af, guard := gd } :=
  safe_bin _ _ hx hy fun u v W hu hv => by
    subst hu hv
    exact ⟨.bool true, by simp [binOp, Op.stringOp], by simp [eqGuard], fun d' hd => by cases hd; exact h⟩
/-- A conversion that reads the world. -/
theorem safe_convW {d : Tmp} {x : Operand} {src to_ t : TypeId} {ps : String} {af : Array Edge} {gd : Option (Nat × Bool)} (u r : Value) (hx : Opd T x (· = u)) (h : ∀ W, I W → Sem.run P (convert src to_ u) W = .ok r W) (hT : T d r) :
    SafeOp P T I { dst := some d, op := .convert src to_ x, type := t, pos := ps, after := af, guard := gd } := by
  intro ρ w hI hT' hc hf
  have hp := hx.at_ (l := #[x]) (by simp) hT' hc
  simp only [execOp, Sem.run_bind, hp, h w hI, Result.andThen_ok, Sem.run_pure]
  exact ⟨hI, fun d' hd => by cases hd; exact hT⟩
end
theorem call13 (args : Array Value) (W : World) : Sem.run Tryz.prog (callFunc 13 args) W = .ok (.enter 13 args) W := run_callGo (fn := Tryz.f13) (by kernel_rfl) (by kernel_rfl) (by kernel_rfl) args W
theorem call14 (args : Array Value) (W : World) : Sem.run Tryz.prog (callFunc 14 args) W = .ok (.enter 14 args) W := run_callGo (fn := Tryz.f14) (by kernel_rfl) (by kernel_rfl) (by kernel_rfl) args W
/-- The size of the modulus, its bytes. -/
theorem RsaN.mod {ns es : List Nat} (h : RsaN ns es) : bytesF ns ((bitsL ns + 7) / 8) = some (modF ns) := by
  obtain ⟨v1, v2⟩ := bitsL_val ns h.hn
  rw [modF_be ns h.hn]
  exact bytesF_be ns h.hn _ (Nat.lt_of_lt_of_le v1 (Nat.pow_le_pow_right (by omega) (by omega)))
theorem wrap_small {x : Int} (h0 : 0 ≤ x) (h1 : x < 9223372036854775808) : IntKind.i64.wrap x = x := by
  rw [IntKind.wrap_i64]
  omega
theorem size45 : (Tryz.prog.info? 45).map (·.size) = some 1 := by kernel_rfl
end Go.Proofs.YtcebfkhfnjbfjaaGreatDoor
