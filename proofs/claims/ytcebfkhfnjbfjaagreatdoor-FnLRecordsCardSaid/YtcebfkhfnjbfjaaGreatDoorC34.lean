/- Regions that fill a block, cell by cell, in any order: what it holds behind them. As S18, where what a cell holds is only of a kind. As S10, with a count of the operations that are still to come: C k holds of the world while k are. -/
import Derived.Test.YtcebfkhfnjbfjaaGreatDoorC15
namespace Go.Proofs.YtcebfkhfnjbfjaaGreatDoor
open Go.RowKit
set_option linter.unusedVariables false
set_option linter.unusedSimpArgs false
/-- Cell c of block Q is as it shall be. -/
def AtF (Q : Nat) (E : TypeId) (fin : Array Value) (c : Nat) (W : World) : Prop := ∃ cs, W.heap[Q]? = some (.cells cs E (0, 0)) ∧ cs.size = fin.size ∧ cs[c]? = fin[c]?
structure FillI (w9 : World) (Q : Nat) (E : TypeId) (fin : Array Value) (keep : List Nat) (W : World) : Prop where
  grown : w9.grownBy W (some Q)
  block : ∃ cs, W.heap[Q]? = some (.cells cs E (0, 0)) ∧ cs.size = fin.size
  kept : ∀ c ∈ keep, AtF Q E fin c W
def FillR (Q : Nat) (E : TypeId) (fin : Array Value) (W W' : World) : Prop := ∀ c, AtF Q E fin c W → AtF Q E fin c W'
def FillS (st : List (Nat × Nat)) (Q : Nat) (E : TypeId) (fin : Array Value) (i : Nat) (W : World) : Prop := ∀ c, st.lookup i = some c → AtF Q E fin c W
section
variable {w9 W W' : World} {Q : Nat} {E : TypeId} {fin : Array Value} {keep : List Nat}
theorem FillR.refl (W : World) : FillR Q E fin W W := fun _ h => h
theorem FillI.lt (h : FillI w9 Q E fin keep W) : Q < W.heap.size := by
  obtain ⟨cs, h1, _⟩ := h.block
  exact (Array.getElem?_eq_some_iff.1 h1).1
theorem FillI.sameR (h : FillI w9 Q E fin keep W) (hb : W'.heap[Q]? = W.heap[Q]?) : FillR Q E fin W W' := fun c ⟨cs, h1, h2, h3⟩ => ⟨cs, by rw [hb]; exact h1, h2, h3⟩
theorem FillI.below (h : FillI w9 Q E fin keep W) (hb : Below W.heap.size W W') : FillR Q E fin W W' ∧ FillI w9 Q E fin keep W' := by
  have hR := h.sameR (hb.block Q h.lt)
  refine ⟨hR, grownBy_trans h.grown (grownBy_below hb (Nat.le_refl _)), ?_, fun c hc => hR c (h.kept c hc)⟩
  rw [hb.block Q h.lt]
  exact h.block
theorem FillI.store (h : FillI w9 Q E fin keep W) (c : Nat) (v : Value) (hv : fin[c]? = some v) : FillR Q E fin W (W.setCell ⟨Q, c, none⟩ v) ∧ FillI w9 Q E fin keep (W.setCell ⟨Q, c, none⟩ v) ∧ AtF Q E fin c (W.setCell ⟨Q, c, none⟩ v) := by
  obtain ⟨cs, h1, h2⟩ := h.block
  have h4 := heap_setCell_same W Q c cs E v h1
  have hc : c < cs.size := by rw [h2]; exact (Array.getElem?_eq_some_iff.1 hv).1
  have hat : AtF Q E fin c (W.setCell ⟨Q, c, none⟩ v) := ⟨_, h4, by simpa using h2, by rw [hv]; simp [hc]⟩
  have hR : FillR Q E fin W (W.setCell ⟨Q, c, none⟩ v) := fun c' ⟨cs', h5, h6, h7⟩ => by
    by_cases e : c' = c
    · subst e; exact hat
    · rw [h1] at h5
      simp only [Option.some.injEq, Obj.cells.injEq] at h5
      obtain ⟨rfl, -, -⟩ := h5
      refine ⟨_, h4, by simpa using h6, ?_⟩
      rw [Array.getElem?_setIfInBounds_ne (fun e' => e e'.symm)]
      exact h7
  exact ⟨hR, ⟨grownBy_trans h.grown (grownBy_setCell W _ v), ⟨_, h4, by simpa using h2⟩, fun c' hc' => hR c' (h.kept c' hc')⟩, hat⟩
theorem FillI.cell (h : FillI w9 Q E fin keep W) {c : Nat} (hc : c ∈ keep) {v : Value} (hv : fin[c]? = some v) : W.cell? ⟨Q, c, none⟩ = some v := by
  obtain ⟨cs, h1, h2, h3⟩ := h.kept c hc
  rw [cell_of_row W Q c cs E (0, 0) h1, h3, hv]
theorem FillI.done (h : FillI w9 Q E fin keep W) (hall : ∀ c, c < fin.size → AtF Q E fin c W) : W.heap[Q]? = some (.cells fin E (0, 0)) := by
  obtain ⟨cs, h1, h2⟩ := h.block
  rw [h1]
  congr 2
  refine Array.ext_getElem? fun c => ?_
  by_cases hc : c < fin.size
  · obtain ⟨cs', h3, h4, h5⟩ := hall c hc
    rw [h1] at h3
    simp only [Option.some.injEq, Obj.cells.injEq] at h3
    obtain ⟨rfl, -, -⟩ := h3
    exact h5
  · rw [Array.getElem?_eq_none (by omega), Array.getElem?_eq_none (by omega)]
theorem FillI.start {cs : Array Value} (hQ : w9.heap[Q]? = some (.cells cs E (0, 0))) (hs : cs.size = fin.size) (hk : ∀ c ∈ keep, cs[c]? = fin[c]?) (hW : W.heap = w9.heap) (hos : W.os = w9.os) (htape : W.tape = w9.tape) (hout : W.output = w9.output) : FillI w9 Q E fin keep W :=
  ⟨⟨hos, htape, hout, by rw [hW]; exact Nat.le_refl _, fun k _ _ => by rw [hW]⟩, ⟨cs, by rw [hW]; exact hQ, hs⟩, fun c hc => ⟨cs, by rw [hW]; exact hQ, hs, hk c hc⟩⟩
end
theorem run_store_v {P : Program} {ty : TypeId} (W : World) (a : Addr) (u v : Value) (hc : W.cell? a = some u) (hfr : W.frozen? a = false) (hsz : (P.info? ty).map (·.size) = some 1) (hv : v.cells = #[v]) (h1 : v.oneCell' = true) :
    Sem.run P (Instr.storeAt ty (.pointer (some a)) v) W = .ok () (W.setCell a v) := by
  cases hq : P.info? ty with
  | none => simp [hq] at hsz
  | some i =>
    have hs : i.size = 1 := by simpa [hq] using hsz
    have h0 : a.add 0 = a := by simp [Addr.add]
    have := run_store P W a v .plain h1
    simp [stored, hc, hfr] at this
    simp [Instr.storeAt, Instr.sureAddr, storeVar, Sem.run_bind, sizeOf, typeInfo, hq, hs, hv, storeCells, h0, this]
section
variable {P : Program} {Tin T : Tmp → World → Value → Prop} {w9 : World} {Q : Nat} {E : TypeId} {fin : Array Value} {keep : List Nat}
/-- One cell is filled. -/
theorem safeV_fill {x y : Operand} {ty t : TypeId} {ps : String} {af : Array Edge} {gd : Option (Nat × Bool)} (st : List (Nat × Nat)) (i c : Nat) (v : Value) (hsz : (P.info? ty).map (·.size) = some 1) (hx : OpdW Tin (FillI w9 Q E fin keep) x fun _ u => u = .pointer (some ⟨Q, c, none⟩)) (hy : OpdW Tin (FillI w9 Q E fin keep) y fun _ u => u = v)
    (hv : fin[c]? = some v) (hc : v.cells = #[v]) (h1 : v.oneCell' = true) (hst : st.lookup i = some c) :
    SafeOpV P Tin T (FillI w9 Q E fin keep) (FillR Q E fin) (FillS st Q E fin i) { dst := none, op := .store ty x y, type := t, pos := ps, after := af, guard := gd } := by
  intro ρ w hI hT hk hf
  have hp := hx.at_ (l := #[x, y]) (by simp) hI hT hk
  have hq := hy.at_ (l := #[x, y]) (by simp) hI hT hk
  obtain ⟨cs, h2, h3⟩ := hI.block
  have hlt : c < cs.size := by rw [h3]; exact (Array.getElem?_eq_some_iff.1 hv).1
  have hst' := run_store_v (P := P) (ty := ty) w ⟨Q, c, none⟩ cs[c] v (by rw [cell_of_row w Q c cs E (0, 0) h2]; simp [hlt]) (frozen_of_row w Q c cs E h2) hsz hc h1
  obtain ⟨h4, h5, h6⟩ := hI.store c v hv
  simp only [execOp, Sem.run_bind, hp, hq, hst', Result.andThen_ok, Sem.run_pure]
  exact ⟨h4, h5, fun c' hc' => by rw [hst] at hc'; cases hc'; exact h6, fun d' hd => by cases hd⟩
/-- A pointer is looked at. -/
theorem safe_nilCheck {T : Tmp → Value → Prop} {I : World → Prop} {d : Tmp} {x : Operand} {t : TypeId} {ps : String} {af : Array Edge} {gd : Option (Nat × Bool)} (a : Addr) (hx : Opd T x (· = .pointer (some a))) (h : T d (.pointer (some a))) :
    SafeOp P T I { dst := some d, op := .nilCheck x, type := t, pos := ps, after := af, guard := gd } := by
  intro ρ w hI hT hk hf
  have hp := hx.at_ (l := #[x]) (by simp) hT hk
  have e : Sem.run P (execOp ρ { dst := some d, op := .nilCheck x, type := t, pos := ps, after := af, guard := gd }) w = .ok (.value (.pointer (some a))) w := by
    simp [execOp, hp]
  rw [e]
  exact ⟨hI, fun d' hd => by cases hd; exact h⟩
end
/-- Bytes stand where only a block that holds none is written. -/
theorem Sl.off {v : Value} {l : List UInt8} {w w' : World} {Q : Nat} {E : TypeId} {fr : Nat × Nat} {cs : Array Value} (h : Sl v (bs l) w) (hl : 0 < l.length) (hg : w.grownBy w' (some Q)) (hQ : w.heap[Q]? = some (.cells cs E fr)) (hcs : ∀ x ∈ cs.toList, ∀ n, x ≠ .int .u8 n) : Sl v (bs l) w' := by
  obtain ⟨a, cap, h1, h2, h3, h4⟩ := h
  refine ⟨a, cap, h1, h2, h3, ?_⟩
  rcases h4 with h4 | ⟨g, o, rfl, h5⟩
  · exact .inl h4
  · have h0 := h5 0 (.int .u8 (((l.getD 0 0).toNat : Nat) : Int)) (by
      simp only [bs, List.getElem?_map, List.getElem?_eq_getElem hl, Option.map_some, List.getD_eq_getElem?_getD, Option.getD_some])
    have hne : g ≠ Q := by
      rintro rfl
      rw [cell_of_row w g (o + 0) _ E fr hQ] at h0
      exact hcs _ (Array.mem_toList_iff.2 (Array.mem_of_getElem? h0)) _ rfl
    have hlt := World.block_lt_of_cell? w _ h0
    refine .inr ⟨g, o, rfl, fun i x hx => ?_⟩
    rw [World.cell?_of_block (w := w) (hg.block g hlt (by simpa using hne))]
    exact h5 i x hx
theorem FillS.none {st : List (Nat × Nat)} {Q : Nat} {E : TypeId} {fin : Array Value} {i : Nat} (h : st.lookup i = none) : ∀ W, FillS st Q E fin i W := fun W c hc => by rw [h] at hc; cases hc
end Go.Proofs.YtcebfkhfnjbfjaaGreatDoor
namespace Go.Proofs.YtcebfkhfnjbfjaaGreatDoor
open Go.RowKit
set_option linter.unusedVariables false
set_option linter.unusedSimpArgs false
def AtP (Q : Nat) (E : TypeId) (n : Nat) (p : Nat → World → Value → Prop) (c : Nat) (W : World) : Prop := ∃ cs v, W.heap[Q]? = some (.cells cs E (0, 0)) ∧ cs.size = n ∧ cs[c]? = some v ∧ p c W v
/-- What is kept where only block Q is written. -/
def KeptP (Q : Nat) (p : Nat → World → Value → Prop) : Prop := ∀ c W W' v, W.grownBy W' (some Q) → p c W v → p c W' v
structure FilI (w9 : World) (Q : Nat) (E : TypeId) (n : Nat) (p : Nat → World → Value → Prop) (keep : List Nat) (W : World) : Prop where
  grown : w9.grownBy W (some Q)
  block : ∃ cs, W.heap[Q]? = some (.cells cs E (0, 0)) ∧ cs.size = n
  kept : ∀ c ∈ keep, AtP Q E n p c W
def FilR (Q : Nat) (E : TypeId) (n : Nat) (p : Nat → World → Value → Prop) (W W' : World) : Prop := W.grownBy W' (some Q) ∧ ∀ c, AtP Q E n p c W → AtP Q E n p c W'
def FilS (st : List (Nat × Nat)) (Q : Nat) (E : TypeId) (n : Nat) (p : Nat → World → Value → Prop) (i : Nat) (W : World) : Prop := ∀ c, st.lookup i = some c → AtP Q E n p c W
section
variable {w9 W W' : World} {Q : Nat} {E : TypeId} {n : Nat} {p : Nat → World → Value → Prop} {keep : List Nat}
theorem grownBy_refl (W : World) (r : Option Nat) : W.grownBy W r := ⟨rfl, rfl, rfl, Nat.le_refl _, fun _ _ _ => rfl⟩
theorem FilR.refl (W : World) : FilR Q E n p W W := ⟨grownBy_refl W _, fun _ h => h⟩
theorem FilI.lt (h : FilI w9 Q E n p keep W) : Q < W.heap.size := by
  obtain ⟨cs, h1, _⟩ := h.block
  exact (Array.getElem?_eq_some_iff.1 h1).1
theorem FilI.below (h : FilI w9 Q E n p keep W) (hp : KeptP Q p) (hb : Below W.heap.size W W') : FilR Q E n p W W' ∧ FilI w9 Q E n p keep W' := by
  have hg : W.grownBy W' (some Q) := grownBy_below hb (Nat.le_refl _)
  have hR : FilR Q E n p W W' := ⟨hg, fun c ⟨cs, v, h1, h2, h3, h4⟩ => ⟨cs, v, by rw [hb.block Q h.lt]; exact h1, h2, h3, hp c W W' v hg h4⟩⟩
  refine ⟨hR, grownBy_trans h.grown hg, ?_, fun c hc => hR.2 c (h.kept c hc)⟩
  rw [hb.block Q h.lt]
  exact h.block
theorem FilI.store (h : FilI w9 Q E n p keep W) (hp : KeptP Q p) (c : Nat) (hc : c < n) (v : Value) (hv : p c W v) : FilR Q E n p W (W.setCell ⟨Q, c, none⟩ v) ∧ FilI w9 Q E n p keep (W.setCell ⟨Q, c, none⟩ v) ∧ AtP Q E n p c (W.setCell ⟨Q, c, none⟩ v) := by
  obtain ⟨cs, h1, h2⟩ := h.block
  have h4 := heap_setCell_same W Q c cs E v h1
  have hcs : c < cs.size := by omega
  have hg := grownBy_setCell W ⟨Q, c, none⟩ v
  have hat : AtP Q E n p c (W.setCell ⟨Q, c, none⟩ v) := ⟨_, v, h4, by simpa using h2, by simp [hcs], hp c _ _ v hg hv⟩
  have hR : FilR Q E n p W (W.setCell ⟨Q, c, none⟩ v) := ⟨hg, fun c' ⟨cs', v', h5, h6, h7, h8⟩ => by
    by_cases e : c' = c
    · subst e; exact hat
    · rw [h1] at h5
      simp only [Option.some.injEq, Obj.cells.injEq] at h5
      obtain ⟨rfl, -, -⟩ := h5
      refine ⟨_, v', h4, by simpa using h6, ?_, hp c' _ _ v' hg h8⟩
      rw [Array.getElem?_setIfInBounds_ne (fun e' => e e'.symm)]
      exact h7⟩
  exact ⟨hR, ⟨grownBy_trans h.grown hg, ⟨_, h4, by simpa using h2⟩, fun c' hc' => hR.2 c' (h.kept c' hc')⟩, hat⟩
theorem FilI.done (h : FilI w9 Q E n p keep W) (hall : ∀ c, c < n → AtP Q E n p c W) : ∃ cs, W.heap[Q]? = some (.cells cs E (0, 0)) ∧ cs.size = n ∧ ∀ c, c < n → ∃ v, cs[c]? = some v ∧ p c W v := by
  obtain ⟨cs, h1, h2⟩ := h.block
  refine ⟨cs, h1, h2, fun c hc => ?_⟩
  obtain ⟨cs', v, h3, h4, h5, h6⟩ := hall c hc
  rw [h1] at h3
  simp only [Option.some.injEq, Obj.cells.injEq] at h3
  obtain ⟨rfl, -, -⟩ := h3
  exact ⟨v, h5, h6⟩
theorem FilI.start {cs : Array Value} (hQ : w9.heap[Q]? = some (.cells cs E (0, 0))) (hs : cs.size = n) (hp : KeptP Q p) (hk : ∀ c ∈ keep, ∃ v, cs[c]? = some v ∧ p c w9 v) (hW : W.heap = w9.heap) (hos : W.os = w9.os) (htape : W.tape = w9.tape) (hout : W.output = w9.output) : FilI w9 Q E n p keep W := by
  have hg : w9.grownBy W (some Q) := ⟨hos, htape, hout, by rw [hW]; exact Nat.le_refl _, fun k _ _ => by rw [hW]⟩
  refine ⟨hg, ⟨cs, by rw [hW]; exact hQ, hs⟩, fun c hc => ?_⟩
  obtain ⟨v, h1, h2⟩ := hk c hc
  exact ⟨cs, v, by rw [hW]; exact hQ, hs, h1, hp c _ _ v hg h2⟩
end
section
variable {P : Program} {Tin T : Tmp → World → Value → Prop} {w9 : World} {Q : Nat} {E : TypeId} {n : Nat} {p : Nat → World → Value → Prop} {keep : List Nat}
/-- One cell is filled. -/
theorem safeV_fil {x y : Operand} {ty t : TypeId} {ps : String} {af : Array Edge} {gd : Option (Nat × Bool)} (st : List (Nat × Nat)) (i c : Nat) (hp : KeptP Q p) (hn : c < n) (hsz : (P.info? ty).map (·.size) = some 1) (hx : OpdW Tin (FilI w9 Q E n p keep) x fun _ u => u = .pointer (some ⟨Q, c, none⟩)) (hy : OpdW Tin (FilI w9 Q E n p keep) y fun W u => p c W u ∧ u.cells = #[u] ∧ u.oneCell' = true)
    (hst : st.lookup i = some c) :
    SafeOpV P Tin T (FilI w9 Q E n p keep) (FilR Q E n p) (FilS st Q E n p i) { dst := none, op := .store ty x y, type := t, pos := ps, after := af, guard := gd } := by
  intro ρ w hI hT hk hf
  have hq := hx.at_ (l := #[x, y]) (by simp) hI hT hk
  obtain ⟨hv, hc, h1⟩ := hy.at_ (l := #[x, y]) (by simp) hI hT hk
  obtain ⟨cs, h2, h3⟩ := hI.block
  have hlt : c < cs.size := by omega
  have hst' := run_store_v (P := P) (ty := ty) w ⟨Q, c, none⟩ cs[c] _ (by rw [cell_of_row w Q c cs E (0, 0) h2]; simp [hlt]) (frozen_of_row w Q c cs E h2) hsz hc h1
  obtain ⟨h4, h5, h6⟩ := hI.store hp c hn _ hv
  simp only [execOp, Sem.run_bind, hq, hst', Result.andThen_ok, Sem.run_pure]
  exact ⟨h4, h5, fun c' hc' => by rw [hst] at hc'; cases hc'; exact h6, fun d' hd => by cases hd⟩
end
theorem FilS.none {st : List (Nat × Nat)} {Q : Nat} {E : TypeId} {n : Nat} {p : Nat → World → Value → Prop} {i : Nat} (h : st.lookup i = none) : ∀ W, FilS st Q E n p i W := fun W c hc => by rw [h] at hc; cases hc
end Go.Proofs.YtcebfkhfnjbfjaaGreatDoor
namespace Go.Proofs.YtcebfkhfnjbfjaaGreatDoor
open Go.RowKit
set_option linter.unusedVariables false
set_option linter.unusedSimpArgs false
theorem toCome_all (n : Nat) : toCome (Array.replicate n false) = n := by
  unfold toCome
  simp [Array.toList_replicate, List.countP_replicate]
section
variable {P : Program}
def SafeOpC (P : Program) (Tin T : Tmp → World → Value → Prop) (I : World → Prop) (R : World → World → Prop) (C : Nat → World → Prop) (o : Oper) : Prop :=
  ∀ (k : Nat) (ρ : Operand → Value) (w : World), I w → C (k + 1) w → (∀ u, .tmp u ∈ o.op.operands → Tin u w (ρ (.tmp u))) → (∀ v, ρ (.const v) = v) → (∀ f, ρ (.func f) = .func (.func f) #[] #[]) → GoodW P T (fun W => I W ∧ C k W) R w o.dst (Sem.run P (execOp ρ o) w)
def AllSafeC (P : Program) (Z : List Nat) (T0 T : Tmp → World → Value → Prop) (I : World → Prop) (R : World → World → Prop) (C : Nat → World → Prop) : Nat → List Oper → Prop
  | _, [] => True
  | i, o :: r => SafeOpC P (if Z.contains i then T0 else T) T I R C o ∧ AllSafeC P Z T0 T I R C (i + 1) r
theorem AllSafeC.at_ {Z : List Nat} {T0 T : Tmp → World → Value → Prop} {I : World → Prop} {R : World → World → Prop} {C : Nat → World → Prop} : ∀ {l : List Oper} {k : Nat}, AllSafeC P Z T0 T I R C k l → ∀ i o, l[i]? = some o → SafeOpC P (if Z.contains (k + i) then T0 else T) T I R C o
  | [], _, _, i, o, h => by simp at h
  | x :: r, k, h, 0, o, ho => by
    simp at ho
    subst ho
    exact h.1
  | x :: r, k, h, i + 1, o, ho => by
    have := h.2.at_ i o (by simpa using ho)
    rwa [show k + 1 + i = k + (i + 1) by omega] at this
/-- What keeps the world as it is. -/
theorem SafeOpC.of {T : Tmp → World → Value → Prop} {I : World → Prop} {R : World → World → Prop} {C : Nat → World → Prop} {o : Oper} (hR : ∀ W, R W W) (hC : ∀ k W, C (k + 1) W → C k W) (h : ∀ W, I W → SafeOp P (fun u => T u W) (· = W) o) : SafeOpC P T T I R C o := by
  intro k ρ w hI hk hT hc hf
  have hg := h w hI ρ w rfl hT hc hf
  revert hg
  generalize Sem.run P (execOp ρ o) w = r
  intro hg
  cases r with
  | halt x w' => exact absurd hg (by simp [Good])
  | ok n w' =>
    cases n <;> simp only [Good] at hg
    case value v => obtain ⟨rfl, hg⟩ := hg; exact ⟨hR _, ⟨hI, hC _ _ hk⟩, hg⟩
    case skip => obtain ⟨rfl, hg⟩ := hg; exact ⟨hR _, ⟨hI, hC _ _ hk⟩, hg⟩
    case enter f args => exact Calls.mono hg fun e w'' ⟨v, h1, h2, h3⟩ => by subst h2; exact ⟨v, h1, hR _, ⟨hI, hC _ _ hk⟩, h3⟩
/-- A function value is called, with no arguments of its own. -/
theorem safeC_callv {T : Tmp → World → Value → Prop} {I : World → Prop} {R : World → World → Prop} {C : Nat → World → Prop} {dst : Option Tmp} {x : Operand} {f : FuncId} {cap : Array Value} {ats : Array TypeId} {t : TypeId} {ps : String} {af : Array Edge} {gd : Option (Nat × Bool)} (hx : OpdW T I x fun _ v => v = .func (.func f) #[] cap)
    (hcall : ∀ args W, Sem.run P (callFunc f args) W = .ok (.enter f args) W)
    (h : ∀ k W, I W → C (k + 1) W → Calls P f cap W fun e w' => ∃ v, e = .returned v ∧ R W w' ∧ (I w' ∧ C k w') ∧ ∀ d, dst = some d → T d w' v) :
    SafeOpC P T T I R C { dst := dst, op := .call { callee := .value x, args := #[], argTypes := ats }, type := t, pos := ps, after := af, guard := gd } := by
  intro k ρ w hI hk hT hc hf
  have hp := hx.at_ (l := #[x]) (ρ := ρ) (by simp) hI (fun u hu => hT u (by simpa [Op.operands, Call.operands] using hu)) hc
  have e : execOp ρ { dst := dst, op := .call { callee := .value x, args := #[], argTypes := ats }, type := t, pos := ps, after := af, guard := gd } = callFunc f cap := by
    simp [execOp, resolve, hp, Deferred.ofValue, invoke]
  rw [e, hcall]
  exact h k w hI hk
theorem wpAny_typedC {ops : Array Oper} {Q : Exit → Act → World → Prop} {Z : List Nat} {T0 T : Tmp → World → Value → Prop} {I : World → Prop} {R : World → World → Prop} {C : Nat → World → Prop} (hmono : ∀ u W W' v, I W → I W' → R W W' → T u W v → T u W' v) {a0 : Act} (hok : regionOkZ ops Z a0.tmps.size = true)
    (h0 : ∀ u, u ∈ outReads ops → ∀ W, I W → T u W (a0.tmps.getD u undef)) (hz : ∀ u, u ∈ zReads ops Z → ∀ W, I W → T0 u W (a0.tmps.getD u undef)) (hs : AllSafeC P Z T0 T I R C 0 ops.toList)
    (hQ : ∀ (f : Tmp → Value) (w' : World), I w' → (∃ k, C k w') → (∀ d, d ∈ dstsOf ops → T d w' (f d)) → Q .normal ⟨putAll a0.tmps (dstsOf ops) f, a0.defers⟩ w') :
    ∀ (fuel : Nat) (listed : Array Bool) (a : Act) (w : World), listed.size = ops.size → toCome listed ≤ fuel → WInv ops (fun u => T u w) I a0 listed a w → C (toCome listed) w → wpAny P .any ops Q fuel listed a w := by
  have hok' : (∀ d ∈ dstsOf ops, d < a0.tmps.size) ∧ ∀ i o, ops[i]? = some o → o.guard = none ∧ (∀ e ∈ o.after, Region.binds .any e = true → e.on < i) ∧
      (Z.contains i = true → ∀ u ∈ readsOf o, ∀ (j : Nat) (x : Oper), ops[j]? = some x → x.dst = some u → ∃ e ∈ x.after, Region.binds .any e = true ∧ e.on = i) ∧
      (Z.contains i = false → ∀ u ∈ readsOf o, u ∈ dstsOf ops → ∃ e ∈ o.after, Region.binds .any e = true ∧ ∃ x, ops[e.on]? = some x ∧ x.dst = some u) := by
    simp only [regionOkZ, Bool.and_eq_true, List.all_eq_true, decide_eq_true_eq] at hok
    refine ⟨hok.1, fun i o ho => ?_⟩
    have hm : (o, i) ∈ ops.toList.zipIdx := by
      rw [List.mem_zipIdx_iff_getElem?]
      simpa using ho
    obtain ⟨⟨h1, h2⟩, h3⟩ := hok.2 _ hm
    dsimp only at h3
    refine ⟨by simpa using h1, fun e he hb => ?_, fun hZ u hu j x hj hx => ?_, fun hZ u hu hd => ?_⟩
    · have := h2 e (by simpa using he)
      simpa [hb] using this
    · rw [if_pos hZ] at h3
      have h4 := List.all_eq_true.1 h3 u hu
      have h5 := List.all_eq_true.1 h4 x (by rw [Array.mem_toList_iff]; exact Array.mem_of_getElem? hj)
      simp only [hx, beq_self_eq_true, Bool.not_true, Bool.false_or, List.any_eq_true, Bool.and_eq_true, beq_iff_eq] at h5
      obtain ⟨e, he, hb, hon⟩ := h5
      exact ⟨e, by simpa using he, hb, hon⟩
    · rw [if_neg (by rw [hZ]; decide)] at h3
      have := List.all_eq_true.1 h3 u hu
      simp only [Bool.or_eq_true, Bool.not_eq_true', List.any_eq_true, Bool.and_eq_true] at this
      rcases this with h | ⟨e, he, hb, hx⟩
      · simp [hd] at h
      · obtain ⟨x, hx1, hx2⟩ : ∃ x, ops[e.on]? = some x ∧ x.dst = some u := by
          cases hq : ops[e.on]? with
          | none => simp [hq] at hx
          | some x => exact ⟨x, rfl, by simpa [hq] using hx⟩
        exact ⟨e, by simpa using he, hb, x, hx1, hx2⟩
  -- behind the last one
  have hend : ∀ (listed : Array Bool) (a : Act) (w : World), listed.size = ops.size → Region.ready .any ops listed = [] → WInv ops (fun u => T u w) I a0 listed a w → C (toCome listed) w → Q .normal a w := by
    intro listed a w hl hr ⟨hi, _, _⟩ hC
    have hall : ∀ i, i < ops.size → listed.getD i false = true := by
      intro i
      induction i using Nat.strongRecOn with
      | _ i ih =>
        intro hlt
        by_cases hq : listed.getD i false = true
        · exact hq
        · have : i ∈ Region.ready .any ops listed := mem_ready.2 ⟨by
            have : i < listed.size := by omega
            simp only [Array.getD_eq_getD_getElem?, Array.getElem?_eq_getElem this, Option.getD_some] at hq ⊢
            simpa using hq, ops[i], Array.getElem?_eq_getElem hlt, fun e he hb => ih e.on ((hok'.2 i _ (Array.getElem?_eq_getElem hlt)).2.1 e he hb) (by
              have := (hok'.2 i _ (Array.getElem?_eq_getElem hlt)).2.1 e he hb
              omega)⟩
          rw [hr] at this
          simp at this
    have e : a = ⟨putAll a0.tmps (dstsOf ops) (fun u => a.tmps.getD u undef), a0.defers⟩ := by
      obtain ⟨t, df⟩ := a
      have h1 := hi.defers
      have h2 := hi.size
      have h3 := hi.other
      dsimp only at h1 h2 h3
      subst h1
      congr 1
      apply Array.ext_getElem?
      intro u
      by_cases hu : u < a0.tmps.size
      · rw [putAll_get _ _ _ hu]
        split
        · have hu' : u < t.size := by omega
          simp [Array.getElem?_eq_getElem hu']
        · exact h3 u (by assumption)
      · rw [Array.getElem?_eq_none (by omega), Array.getElem?_eq_none (by rw [putAll_size]; omega)]
    rw [e]
    refine hQ _ _ hi.world ⟨_, hC⟩ fun d hd => ?_
    obtain ⟨o, ho, hod⟩ := List.mem_filterMap.1 hd
    obtain ⟨i, hi', he⟩ := List.mem_iff_getElem.1 ho
    have hi2 : i < ops.size := by simpa using hi'
    exact hi.kind i o d (by rw [Array.getElem?_eq_getElem hi2, ← he]; simp) hod (hall i hi2)
  intro fuel
  induction fuel with
  | zero =>
    intro listed a w hl hc hi hC
    have hr : Region.ready .any ops listed = [] := by
      cases hq : Region.ready .any ops listed with
      | nil => rfl
      | cons i r =>
        have hm : i ∈ Region.ready .any ops listed := by rw [hq]; simp
        obtain ⟨hl1, o, ho, _⟩ := mem_ready.1 hm
        have hlt : i < ops.size := (Array.getElem?_eq_some_iff.1 ho).1
        have hlt' : i < listed.size := by omega
        have : 0 < toCome listed := List.countP_pos_iff.2 ⟨listed[i], by simp, by
          simp only [Array.getD_eq_getD_getElem?, Array.getElem?_eq_getElem hlt', Option.getD_some] at hl1
          simp [hl1]⟩
        omega
    exact ⟨hr, hend listed a w hl hr hi hC⟩
  | succ fuel ih =>
    intro listed a w hl hc hi hC
    refine ⟨fun hr => hend listed a w hl hr hi hC, fun i hm => ?_⟩
    obtain ⟨hl1, o, ho, hdep⟩ := mem_ready.1 hm
    have hlt : i < ops.size := (Array.getElem?_eq_some_iff.1 ho).1
    have hlt' : i < listed.size := by omega
    have hfalse : listed[i]? = some false := by
      simp only [Array.getD_eq_getD_getElem?, Array.getElem?_eq_getElem hlt', Option.getD_some] at hl1
      rw [Array.getElem?_eq_getElem hlt', hl1]
    obtain ⟨hg, hback, hzr, hread⟩ := hok'.2 i o ho
    have hsafe := hs.at_ i o (by simpa using ho)
    rw [Nat.zero_add] at hsafe
    have hts := toCome_set hfalse
    have hgood := hsafe (toCome (listed.setIfInBounds i true)) a.eval w hi.r.world (by rw [hts]; exact hC) (fun u hu => by
      have hu' : u ∈ readsOf o := List.mem_filterMap.2 ⟨.tmp u, by simpa using hu, rfl⟩
      cases hZ : Z.contains i with
      | true =>
        rw [if_pos rfl]
        show T0 u w (a.tmps.getD u undef)
        have hun : a.tmps[u]? = a0.tmps[u]? := hi.init u fun j x hj hx => by
          cases hlj : listed.getD j false with
          | false => rfl
          | true =>
            obtain ⟨e, he, hb, hon⟩ := hzr hZ u hu' j x hj hx
            have h1 := hi.deps j x hj hlj e he hb
            rw [hon] at h1
            simp only [Array.getD_eq_getD_getElem?, hfalse, Option.getD_some] at h1
            cases h1
        rw [Array.getD_eq_getD_getElem?, hun, ← Array.getD_eq_getD_getElem?]
        refine hz u (List.mem_flatMap.2 ⟨i, by simpa using hZ, ?_⟩) w hi.r.world
        rw [ho]
        exact hu'
      | false =>
        rw [if_neg (by decide)]
        show T u w (a.tmps.getD u undef)
        by_cases hd : u ∈ dstsOf ops
        · obtain ⟨e, he, hb, x, hx, hxd⟩ := hread hZ u hu' hd
          exact hi.r.kind e.on x u hx hxd (hdep e he hb)
        · have := h0 u (List.mem_filter.2 ⟨List.mem_flatMap.2 ⟨o, by rw [Array.mem_toList_iff]; exact Array.mem_of_getElem? ho, hu'⟩, by simpa using hd⟩) w hi.r.world
          rw [Array.getD_eq_getD_getElem?, hi.r.other u hd, ← Array.getD_eq_getD_getElem?]
          exact this) (fun _ => rfl) (fun _ => rfl)
    -- behind it
    have hnext : ∀ (v : Value) (w' : World), R w w' → (I w' ∧ C (toCome (listed.setIfInBounds i true)) w') → (∀ d, o.dst = some d → T d w' v) → wpAny P .any ops Q fuel (listed.setIfInBounds i true) (a.put o.dst v) w' := by
      intro v w' hR ⟨hI, hC'⟩ hT
      have hgrow : ∀ u v, T u w v → T u w' v := fun u v h => hmono u w w' v hi.r.world hI hR h
      refine ih _ _ _ (by simpa using hl) (by omega) ⟨⟨hI, ?_, ?_, ?_, ?_⟩, ?_, ?_⟩ hC'
      · cases o.dst <;> exact hi.r.defers
      · cases hd : o.dst <;> simp [Act.put, hi.r.size]
      · intro u hu
        cases hd : o.dst with
        | none => exact hi.r.other u hu
        | some d =>
          have hne : d ≠ u := fun e => hu (by subst e; exact mem_dstsOf ho hd)
          simp only [Act.put]
          rw [Array.getElem?_setIfInBounds_ne hne]
          exact hi.r.other u hu
      · intro j oj d hj hjd hlj
        rw [getD_ite _ _ _ hlt'] at hlj
        cases hd : o.dst with
        | none =>
          by_cases e : i = j
          · subst e; rw [ho] at hj; cases hj; rw [hd] at hjd; cases hjd
          · rw [if_neg e] at hlj
            exact hgrow _ _ (hi.r.kind j oj d hj hjd hlj)
        | some d' =>
          by_cases e : d' = d
          · subst e
            have : d' < a.tmps.size := by rw [hi.r.size]; exact hok'.1 _ (mem_dstsOf ho hd)
            simp only [Act.put, Array.getD_eq_getD_getElem?, Array.getElem?_setIfInBounds_self_of_lt this, Option.getD_some]
            exact hT d' hd
          · have hij : i ≠ j := fun e' => by subst e'; rw [ho] at hj; cases hj; rw [hd] at hjd; cases hjd; exact e rfl
            rw [if_neg hij] at hlj
            have := hgrow _ _ (hi.r.kind j oj d hj hjd hlj)
            simp only [Act.put, Array.getD_eq_getD_getElem?] at this ⊢
            rw [Array.getElem?_setIfInBounds_ne e]
            exact this
      · intro u hu
        have hne : o.dst ≠ some u := fun e => by
          have := hu i o ho e
          rw [getD_ite _ _ _ hlt', if_pos rfl] at this
          cases this
        have hold := hi.init u fun j x hj hx => by
          have := hu j x hj hx
          rw [getD_ite _ _ _ hlt'] at this
          by_cases e : i = j
          · rw [if_pos e] at this; cases this
          · rwa [if_neg e] at this
        cases hd : o.dst with
        | none => exact hold
        | some d =>
          have hdu : d ≠ u := fun e => hne (by rw [hd, e])
          simp only [Act.put]
          rw [Array.getElem?_setIfInBounds_ne hdu]
          exact hold
      · intro j x hj hlj e he hb
        rw [getD_ite _ _ _ hlt'] at hlj ⊢
        by_cases e1 : i = e.on
        · rw [if_pos e1]
        · rw [if_neg e1]
          by_cases e2 : i = j
          · subst e2
            rw [ho] at hj
            cases hj
            exact hdep e he hb
          · rw [if_neg e2] at hlj
            exact hi.deps j x hj hlj e he hb
    unfold wpOp
    simp only [ho]
    have hw : Region.wanted o (yielded ops a.tmps) = true := by simp [Region.wanted, hg]
    rw [if_pos hw]
    left
    unfold Oper.wp
    revert hgood
    generalize Sem.run P (execOp a.eval o) w = r
    intro hgood
    cases r with
    | halt h w' => exact absurd hgood (by simp [GoodW])
    | ok n w' =>
      cases n <;> simp only [GoodW] at hgood
      case value v =>
        obtain ⟨hR, h1, h2⟩ := hgood
        exact hnext v w' hR h1 h2
      case skip =>
        obtain ⟨hR, h1, h2⟩ := hgood
        exact hnext undef w' hR h1 h2
      case enter f args =>
        refine Calls.mono hgood fun e w'' he => ?_
        obtain ⟨v, rfl, hR, hI, hT⟩ := he
        exact hnext v w'' hR hI hT

/-- THE REGION that draws. -/
theorem wp_region_typedC {id : Nat} {ops : Array Oper} {Q : Exit → Act → World → Prop} {a : Act} {w : World} (hm : P.follows .mixedOrders = true) (Z : List Nat) (T0 T : Tmp → World → Value → Prop) (I : World → Prop) (R : World → World → Prop) (C : Nat → World → Prop) (hmono : ∀ u W W' v, I W → I W' → R W W' → T u W v → T u W' v)
    (hok : regionOkZ ops Z a.tmps.size = true) (D : List Tmp) (hD : dstsOf ops = D) (U : List Tmp) (hU : outReads ops = U)
    (h0 : ∀ u, u ∈ U → ∀ W, I W → T u W (a.tmps.getD u undef)) (V : List Tmp) (hV : zReads ops Z = V) (hz : ∀ u, u ∈ V → ∀ W, I W → T0 u W (a.tmps.getD u undef)) (hI : I w.drew) (hC : C ops.size w.drew) (hs : AllSafeC P Z T0 T I R C 0 ops.toList)
    (hQ : ∀ (f : Tmp → Value) (w' : World), I w' → (∃ k, C k w') → (∀ d, d ∈ D → T d w' (f d)) → Q .normal ⟨putAll a.tmps D f, a.defers⟩ w') : (Code.region id ops true).wp P Q a w := by
  subst hD hU hV
  refine wp_region_any hm (wpAny_typedC hmono hok h0 hz hs hQ _ _ _ _ (by simp) ?_ ⟨⟨hI, rfl, rfl, fun _ _ => rfl, fun i o d _ _ h => ?_⟩, fun _ _ => rfl, fun j o _ h => ?_⟩ (by rw [toCome_all]; exact hC))
  · exact Nat.le_trans List.countP_le_length (by simp)
  · by_cases hi : i < ops.size <;> simp [hi] at h
  · by_cases hi : j < ops.size <;> simp [hi] at h
end
end Go.Proofs.YtcebfkhfnjbfjaaGreatDoor
