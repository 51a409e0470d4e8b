/- A region that draws its order, by kinds that speak of the world: R tells how the world may turn, and the kinds are kept by it. Regions by kinds that speak of the world, with guarded operations: GD tells what the guards yield. As S11, where an operation without a slot says what it has done: S tells it, kept by R. More operations for regions by kinds: a choice, a length, a cell, a whole row; a guarded operation. Parts of slices that are read; errors.New; four results. -/
import Derived.Test.YtcebfkhfnjbfjaaGreatDoorC12
import Derived.Test.YtcebfkhfnjbfjaaGreatDoorC14
import Derived.Test.YtcebfkhfnjbfjaaGreatDoorC13
import Derived.OwnWalk
namespace Go.Proofs.YtcebfkhfnjbfjaaGreatDoor
open Go.RowKit
set_option linter.unusedVariables false
set_option linter.unusedSimpArgs false
section
variable {P : Program}
def GoodW (P : Program) (T : Tmp → World → Value → Prop) (I : World → Prop) (R : World → World → Prop) (w : World) (dst : Option Tmp) : Result Next → Prop
  | .ok (.value v) w' => R w w' ∧ I w' ∧ ∀ d, dst = some d → T d w' v
  | .ok .skip w' => R w w' ∧ I w' ∧ ∀ d, dst = some d → T d w' undef
  | .ok (.enter f args) w' => Calls P f args w' fun e w'' => ∃ v, e = .returned v ∧ R w w'' ∧ I w'' ∧ ∀ d, dst = some d → T d w'' v
  | _ => False
def SafeOpW (P : Program) (Tin T : Tmp → World → Value → Prop) (I : World → Prop) (R : World → World → Prop) (o : Oper) : Prop :=
  ∀ (ρ : Operand → Value) (w : World), I w → (∀ u, .tmp u ∈ o.op.operands → Tin u w (ρ (.tmp u))) → (∀ v, ρ (.const v) = v) → (∀ f, ρ (.func f) = .func (.func f) #[] #[]) → GoodW P T I R w o.dst (Sem.run P (execOp ρ o) w)
/-- As regionOk; the operations Z read what their region has not yet written. -/
def regionOkZ (ops : Array Oper) (Z : List Nat) (n : Nat) : Bool :=
  (dstsOf ops).all (· < n) &&
  ops.toList.zipIdx.all fun (o, i) =>
    o.guard.isNone &&
    (o.after.toList.all fun e => !Region.binds .any e || decide (e.on < i)) &&
    if Z.contains i then (readsOf o).all fun u => ops.toList.all fun (x : Oper) => !(x.dst == some u) || (x.after.toList.any fun e => Region.binds .any e && e.on == i)
    else (readsOf o).all fun u => !(dstsOf ops).contains u || (o.after.toList.any fun e => Region.binds .any e && (ops[e.on]?).any fun x => x.dst == some u)
/-- The slots that the operations Z read. -/
def zReads (ops : Array Oper) (Z : List Nat) : List Tmp := Z.flatMap fun i => match ops[i]? with | some o => readsOf o | none => []
structure WInv (ops : Array Oper) (T : Tmp → Value → Prop) (I : World → Prop) (a0 : Act) (listed : Array Bool) (a : Act) (w : World) : Prop where
  r : RInv ops T I a0 listed a w
  init : ∀ u, (∀ j o, ops[j]? = some o → o.dst = some u → listed.getD j false = false) → a.tmps[u]? = a0.tmps[u]?
  deps : ∀ j o, ops[j]? = some o → listed.getD j false = true → ∀ e ∈ o.after, Region.binds .any e = true → listed.getD e.on false = true
def AllSafeW (P : Program) (Z : List Nat) (T0 T : Tmp → World → Value → Prop) (I : World → Prop) (R : World → World → Prop) : Nat → List Oper → Prop
  | _, [] => True
  | i, o :: r => SafeOpW P (if Z.contains i then T0 else T) T I R o ∧ AllSafeW P Z T0 T I R (i + 1) r
theorem AllSafeW.at_ {Z : List Nat} {T0 T : Tmp → World → Value → Prop} {I : World → Prop} {R : World → World → Prop} : ∀ {l : List Oper} {k : Nat}, AllSafeW P Z T0 T I R k l → ∀ i o, l[i]? = some o → SafeOpW P (if Z.contains (k + i) then T0 else T) T I R o
  | [], _, _, i, o, h => by simp at h
  | x :: r, k, h, 0, o, ho => by
    simp at ho
    subst ho
    exact h.1
  | x :: r, k, h, i + 1, o, ho => by
    have := h.2.at_ i o (by simpa using ho)
    rwa [show k + 1 + i = k + (i + 1) by omega] at this
/-- What keeps the world as it is. -/
theorem SafeOpW.of {T : Tmp → World → Value → Prop} {I : World → Prop} {R : World → World → Prop} {o : Oper} (hR : ∀ W, R W W) (h : ∀ W, I W → SafeOp P (fun u => T u W) (· = W) o) : SafeOpW P T T I R o := by
  intro ρ w hI hT hc hf
  have hg := h w hI ρ w rfl hT hc hf
  revert hg
  generalize Sem.run P (execOp ρ o) w = r
  intro hg
  cases r with
  | halt x w' => exact absurd hg (by simp [Good])
  | ok n w' =>
    cases n <;> simp only [Good] at hg
    case value v => obtain ⟨rfl, hg⟩ := hg; exact ⟨hR _, hI, hg⟩
    case skip => obtain ⟨rfl, hg⟩ := hg; exact ⟨hR _, hI, hg⟩
    case enter f args => exact Calls.mono hg fun e w'' ⟨v, h1, h2, h3⟩ => by subst h2; exact ⟨v, h1, hR _, hI, h3⟩
theorem wpAny_typedW {ops : Array Oper} {Q : Exit → Act → World → Prop} {Z : List Nat} {T0 T : Tmp → World → Value → Prop} {I : World → Prop} {R : World → World → Prop} (hmono : ∀ u W W' v, I W → I W' → R W W' → T u W v → T u W' v) {a0 : Act} (hok : regionOkZ ops Z a0.tmps.size = true)
    (h0 : ∀ u, u ∈ outReads ops → ∀ W, I W → T u W (a0.tmps.getD u undef)) (hz : ∀ u, u ∈ zReads ops Z → ∀ W, I W → T0 u W (a0.tmps.getD u undef)) (hs : AllSafeW P Z T0 T I R 0 ops.toList)
    (hQ : ∀ (f : Tmp → Value) (w' : World), I w' → (∀ d, d ∈ dstsOf ops → T d w' (f d)) → Q .normal ⟨putAll a0.tmps (dstsOf ops) f, a0.defers⟩ w') :
    ∀ (fuel : Nat) (listed : Array Bool) (a : Act) (w : World), listed.size = ops.size → toCome listed ≤ fuel → WInv ops (fun u => T u w) I a0 listed a w → wpAny P .any ops Q fuel listed a w := by
  have hok' : (∀ d ∈ dstsOf ops, d < a0.tmps.size) ∧ ∀ i o, ops[i]? = some o → o.guard = none ∧ (∀ e ∈ o.after, Region.binds .any e = true → e.on < i) ∧
      (Z.contains i = true → ∀ u ∈ readsOf o, ∀ (j : Nat) (x : Oper), ops[j]? = some x → x.dst = some u → ∃ e ∈ x.after, Region.binds .any e = true ∧ e.on = i) ∧
      (Z.contains i = false → ∀ u ∈ readsOf o, u ∈ dstsOf ops → ∃ e ∈ o.after, Region.binds .any e = true ∧ ∃ x, ops[e.on]? = some x ∧ x.dst = some u) := by
    simp only [regionOkZ, Bool.and_eq_true, List.all_eq_true, decide_eq_true_eq] at hok
    refine ⟨hok.1, fun i o ho => ?_⟩
    have hm : (o, i) ∈ ops.toList.zipIdx := by
      rw [List.mem_zipIdx_iff_getElem?]
      simpa using ho
    obtain ⟨⟨h1, h2⟩, h3⟩ := hok.2 _ hm
    dsimp only at h3
    refine ⟨by simpa using h1, fun e he hb => ?_, fun hZ u hu j x hj hx => ?_, fun hZ u hu hd => ?_⟩
    · have := h2 e (by simpa using he)
      simpa [hb] using this
    · rw [if_pos hZ] at h3
      have h4 := List.all_eq_true.1 h3 u hu
      have h5 := List.all_eq_true.1 h4 x (by rw [Array.mem_toList_iff]; exact Array.mem_of_getElem? hj)
      simp only [hx, beq_self_eq_true, Bool.not_true, Bool.false_or, List.any_eq_true, Bool.and_eq_true, beq_iff_eq] at h5
      obtain ⟨e, he, hb, hon⟩ := h5
      exact ⟨e, by simpa using he, hb, hon⟩
    · rw [if_neg (by rw [hZ]; decide)] at h3
      have := List.all_eq_true.1 h3 u hu
      simp only [Bool.or_eq_true, Bool.not_eq_true', List.any_eq_true, Bool.and_eq_true] at this
      rcases this with h | ⟨e, he, hb, hx⟩
      · simp [hd] at h
      · obtain ⟨x, hx1, hx2⟩ : ∃ x, ops[e.on]? = some x ∧ x.dst = some u := by
          cases hq : ops[e.on]? with
          | none => simp [hq] at hx
          | some x => exact ⟨x, rfl, by simpa [hq] using hx⟩
        exact ⟨e, by simpa using he, hb, x, hx1, hx2⟩
  -- behind the last one
  have hend : ∀ (listed : Array Bool) (a : Act) (w : World), listed.size = ops.size → Region.ready .any ops listed = [] → WInv ops (fun u => T u w) I a0 listed a w → Q .normal a w := by
    intro listed a w hl hr ⟨hi, _, _⟩
    have hall : ∀ i, i < ops.size → listed.getD i false = true := by
      intro i
      induction i using Nat.strongRecOn with
      | _ i ih =>
        intro hlt
        by_cases hq : listed.getD i false = true
        · exact hq
        · have : i ∈ Region.ready .any ops listed := mem_ready.2 ⟨by
            have : i < listed.size := by omega
            simp only [Array.getD_eq_getD_getElem?, Array.getElem?_eq_getElem this, Option.getD_some] at hq ⊢
            simpa using hq, ops[i], Array.getElem?_eq_getElem hlt, fun e he hb => ih e.on ((hok'.2 i _ (Array.getElem?_eq_getElem hlt)).2.1 e he hb) (by
              have := (hok'.2 i _ (Array.getElem?_eq_getElem hlt)).2.1 e he hb
              omega)⟩
          rw [hr] at this
          simp at this
    have e : a = ⟨putAll a0.tmps (dstsOf ops) (fun u => a.tmps.getD u undef), a0.defers⟩ := by
      obtain ⟨t, df⟩ := a
      have h1 := hi.defers
      have h2 := hi.size
      have h3 := hi.other
      dsimp only at h1 h2 h3
      subst h1
      congr 1
      apply Array.ext_getElem?
      intro u
      by_cases hu : u < a0.tmps.size
      · rw [putAll_get _ _ _ hu]
        split
        · have hu' : u < t.size := by omega
          simp [Array.getElem?_eq_getElem hu']
        · exact h3 u (by assumption)
      · rw [Array.getElem?_eq_none (by omega), Array.getElem?_eq_none (by rw [putAll_size]; omega)]
    rw [e]
    refine hQ _ _ hi.world fun d hd => ?_
    obtain ⟨o, ho, hod⟩ := List.mem_filterMap.1 hd
    obtain ⟨i, hi', he⟩ := List.mem_iff_getElem.1 ho
    have hi2 : i < ops.size := by simpa using hi'
    exact hi.kind i o d (by rw [Array.getElem?_eq_getElem hi2, ← he]; simp) hod (hall i hi2)
  intro fuel
  induction fuel with
  | zero =>
    intro listed a w hl hc hi
    have hr : Region.ready .any ops listed = [] := by
      cases hq : Region.ready .any ops listed with
      | nil => rfl
      | cons i r =>
        have hm : i ∈ Region.ready .any ops listed := by rw [hq]; simp
        obtain ⟨hl1, o, ho, _⟩ := mem_ready.1 hm
        have hlt : i < ops.size := (Array.getElem?_eq_some_iff.1 ho).1
        have hlt' : i < listed.size := by omega
        have : 0 < toCome listed := List.countP_pos_iff.2 ⟨listed[i], by simp, by
          simp only [Array.getD_eq_getD_getElem?, Array.getElem?_eq_getElem hlt', Option.getD_some] at hl1
          simp [hl1]⟩
        omega
    exact ⟨hr, hend listed a w hl hr hi⟩
  | succ fuel ih =>
    intro listed a w hl hc hi
    refine ⟨fun hr => hend listed a w hl hr hi, fun i hm => ?_⟩
    obtain ⟨hl1, o, ho, hdep⟩ := mem_ready.1 hm
    have hlt : i < ops.size := (Array.getElem?_eq_some_iff.1 ho).1
    have hlt' : i < listed.size := by omega
    have hfalse : listed[i]? = some false := by
      simp only [Array.getD_eq_getD_getElem?, Array.getElem?_eq_getElem hlt', Option.getD_some] at hl1
      rw [Array.getElem?_eq_getElem hlt', hl1]
    obtain ⟨hg, hback, hzr, hread⟩ := hok'.2 i o ho
    have hsafe := hs.at_ i o (by simpa using ho)
    rw [Nat.zero_add] at hsafe
    have hgood := hsafe a.eval w hi.r.world (fun u hu => by
      have hu' : u ∈ readsOf o := List.mem_filterMap.2 ⟨.tmp u, by simpa using hu, rfl⟩
      cases hZ : Z.contains i with
      | true =>
        rw [if_pos rfl]
        show T0 u w (a.tmps.getD u undef)
        have hun : a.tmps[u]? = a0.tmps[u]? := hi.init u fun j x hj hx => by
          cases hlj : listed.getD j false with
          | false => rfl
          | true =>
            obtain ⟨e, he, hb, hon⟩ := hzr hZ u hu' j x hj hx
            have h1 := hi.deps j x hj hlj e he hb
            rw [hon] at h1
            simp only [Array.getD_eq_getD_getElem?, hfalse, Option.getD_some] at h1
            cases h1
        rw [Array.getD_eq_getD_getElem?, hun, ← Array.getD_eq_getD_getElem?]
        refine hz u (List.mem_flatMap.2 ⟨i, by simpa using hZ, ?_⟩) w hi.r.world
        rw [ho]
        exact hu'
      | false =>
        rw [if_neg (by decide)]
        show T u w (a.tmps.getD u undef)
        by_cases hd : u ∈ dstsOf ops
        · obtain ⟨e, he, hb, x, hx, hxd⟩ := hread hZ u hu' hd
          exact hi.r.kind e.on x u hx hxd (hdep e he hb)
        · have := h0 u (List.mem_filter.2 ⟨List.mem_flatMap.2 ⟨o, by rw [Array.mem_toList_iff]; exact Array.mem_of_getElem? ho, hu'⟩, by simpa using hd⟩) w hi.r.world
          rw [Array.getD_eq_getD_getElem?, hi.r.other u hd, ← Array.getD_eq_getD_getElem?]
          exact this) (fun _ => rfl) (fun _ => rfl)
    -- behind it
    have hnext : ∀ (v : Value) (w' : World), R w w' → I w' → (∀ d, o.dst = some d → T d w' v) → wpAny P .any ops Q fuel (listed.setIfInBounds i true) (a.put o.dst v) w' := by
      intro v w' hR hI hT
      have hgrow : ∀ u v, T u w v → T u w' v := fun u v h => hmono u w w' v hi.r.world hI hR h
      refine ih _ _ _ (by simpa using hl) (by have := toCome_set hfalse; omega) ⟨⟨hI, ?_, ?_, ?_, ?_⟩, ?_, ?_⟩
      · cases o.dst <;> exact hi.r.defers
      · cases hd : o.dst <;> simp [Act.put, hi.r.size]
      · intro u hu
        cases hd : o.dst with
        | none => exact hi.r.other u hu
        | some d =>
          have hne : d ≠ u := fun e => hu (by subst e; exact mem_dstsOf ho hd)
          simp only [Act.put]
          rw [Array.getElem?_setIfInBounds_ne hne]
          exact hi.r.other u hu
      · intro j oj d hj hjd hlj
        rw [getD_ite _ _ _ hlt'] at hlj
        cases hd : o.dst with
        | none =>
          by_cases e : i = j
          · subst e; rw [ho] at hj; cases hj; rw [hd] at hjd; cases hjd
          · rw [if_neg e] at hlj
            exact hgrow _ _ (hi.r.kind j oj d hj hjd hlj)
        | some d' =>
          by_cases e : d' = d
          · subst e
            have : d' < a.tmps.size := by rw [hi.r.size]; exact hok'.1 _ (mem_dstsOf ho hd)
            simp only [Act.put, Array.getD_eq_getD_getElem?, Array.getElem?_setIfInBounds_self_of_lt this, Option.getD_some]
            exact hT d' hd
          · have hij : i ≠ j := fun e' => by subst e'; rw [ho] at hj; cases hj; rw [hd] at hjd; cases hjd; exact e rfl
            rw [if_neg hij] at hlj
            have := hgrow _ _ (hi.r.kind j oj d hj hjd hlj)
            simp only [Act.put, Array.getD_eq_getD_getElem?] at this ⊢
            rw [Array.getElem?_setIfInBounds_ne e]
            exact this
      · intro u hu
        have hne : o.dst ≠ some u := fun e => by
          have := hu i o ho e
          rw [getD_ite _ _ _ hlt', if_pos rfl] at this
          cases this
        have hold := hi.init u fun j x hj hx => by
          have := hu j x hj hx
          rw [getD_ite _ _ _ hlt'] at this
          by_cases e : i = j
          · rw [if_pos e] at this; cases this
          · rwa [if_neg e] at this
        cases hd : o.dst with
        | none => exact hold
        | some d =>
          have hdu : d ≠ u := fun e => hne (by rw [hd, e])
          simp only [Act.put]
          rw [Array.getElem?_setIfInBounds_ne hdu]
          exact hold
      · intro j x hj hlj e he hb
        rw [getD_ite _ _ _ hlt'] at hlj ⊢
        by_cases e1 : i = e.on
        · rw [if_pos e1]
        · rw [if_neg e1]
          by_cases e2 : i = j
          · subst e2
            rw [ho] at hj
            cases hj
            exact hdep e he hb
          · rw [if_neg e2] at hlj
            exact hi.deps j x hj hlj e he hb
    unfold wpOp
    simp only [ho]
    have hw : Region.wanted o (yielded ops a.tmps) = true := by simp [Region.wanted, hg]
    rw [if_pos hw]
    left
    unfold Oper.wp
    revert hgood
    generalize Sem.run P (execOp a.eval o) w = r
    intro hgood
    cases r with
    | halt h w' => exact absurd hgood (by simp [GoodW])
    | ok n w' =>
      cases n <;> simp only [GoodW] at hgood
      case value v =>
        obtain ⟨hR, h1, h2⟩ := hgood
        exact hnext v w' hR h1 h2
      case skip =>
        obtain ⟨hR, h1, h2⟩ := hgood
        exact hnext undef w' hR h1 h2
      case enter f args =>
        refine Calls.mono hgood fun e w'' he => ?_
        obtain ⟨v, rfl, hR, hI, hT⟩ := he
        exact hnext v w'' hR hI hT

/-- THE REGION that draws. -/
theorem wp_region_typedW {id : Nat} {ops : Array Oper} {Q : Exit → Act → World → Prop} {a : Act} {w : World} (hm : P.follows .mixedOrders = true) (Z : List Nat) (T0 T : Tmp → World → Value → Prop) (I : World → Prop) (R : World → World → Prop) (hmono : ∀ u W W' v, I W → I W' → R W W' → T u W v → T u W' v)
    (hok : regionOkZ ops Z a.tmps.size = true) (D : List Tmp) (hD : dstsOf ops = D) (U : List Tmp) (hU : outReads ops = U)
    (h0 : ∀ u, u ∈ U → ∀ W, I W → T u W (a.tmps.getD u undef)) (V : List Tmp) (hV : zReads ops Z = V) (hz : ∀ u, u ∈ V → ∀ W, I W → T0 u W (a.tmps.getD u undef)) (hI : I w.drew) (hs : AllSafeW P Z T0 T I R 0 ops.toList)
    (hQ : ∀ (f : Tmp → Value) (w' : World), I w' → (∀ d, d ∈ D → T d w' (f d)) → Q .normal ⟨putAll a.tmps D f, a.defers⟩ w') : (Code.region id ops true).wp P Q a w := by
  subst hD hU hV
  refine wp_region_any hm (wpAny_typedW hmono hok h0 hz hs hQ _ _ _ _ (by simp) ?_ ⟨⟨hI, rfl, rfl, fun _ _ => rfl, fun i o d _ _ h => ?_⟩, fun _ _ => rfl, fun j o _ h => ?_⟩)
  · exact Nat.le_trans List.countP_le_length (by simp)
  · by_cases hi : i < ops.size <;> simp [hi] at h
  · by_cases hi : j < ops.size <;> simp [hi] at h
/-- THE REGION that keeps the text's order. -/
theorem wp_region_textW {id : Nat} {ops : Array Oper} {Q : Exit → Act → World → Prop} {a : Act} {w : World} (hv : validB ops (Array.replicate ops.size false) (List.range ops.size) = true) (Z : List Nat) (T0 T : Tmp → World → Value → Prop) (I : World → Prop) (R : World → World → Prop) (hmono : ∀ u W W' v, I W → I W' → R W W' → T u W v → T u W' v)
    (hok : regionOkZ ops Z a.tmps.size = true) (D : List Tmp) (hD : dstsOf ops = D) (U : List Tmp) (hU : outReads ops = U)
    (h0 : ∀ u, u ∈ U → ∀ W, I W → T u W (a.tmps.getD u undef)) (V : List Tmp) (hV : zReads ops Z = V) (hz : ∀ u, u ∈ V → ∀ W, I W → T0 u W (a.tmps.getD u undef)) (hI : I w) (hs : AllSafeW P Z T0 T I R 0 ops.toList)
    (hQ : ∀ (f : Tmp → Value) (w' : World), I w' → (∀ d, d ∈ D → T d w' (f d)) → Q .normal ⟨putAll a.tmps D f, a.defers⟩ w') : (Code.region id ops false).wp P Q a w := by
  subst hD hU hV
  refine wp_region (wpAny_list _ (toCome (Array.replicate ops.size false)) _ _ _ (wpAny_typedW hmono hok h0 hz hs hQ _ _ _ _ (by simp) (Nat.le_refl _) ⟨⟨hI, rfl, rfl, fun _ _ => rfl, fun i o d _ _ h => ?_⟩, fun _ _ => rfl, fun j o _ h => ?_⟩) hv)
  · by_cases hi : i < ops.size <;> simp [hi] at h
  · by_cases hi : j < ops.size <;> simp [hi] at h
section
variable {Tin T : Tmp → World → Value → Prop} {I : World → Prop} {R : World → World → Prop}
/-- The operand is of the kind p, in this world. -/
def OpdW (T : Tmp → World → Value → Prop) (I : World → Prop) (x : Operand) (p : World → Value → Prop) : Prop :=
  match x with
  | .tmp u => ∀ W v, I W → T u W v → p W v
  | .const c => ∀ W, I W → p W c
  | _ => False
theorem OpdW.at_ {x : Operand} {p : World → Value → Prop} (h : OpdW T I x p) {ρ : Operand → Value} {w : World} {l : Array Operand} (hl : x ∈ l) (hI : I w) (hT : ∀ u, .tmp u ∈ l → T u w (ρ (.tmp u))) (hc : ∀ v, ρ (.const v) = v) : p w (ρ x) := by
  cases x with
  | tmp u => exact h _ _ hI (hT u hl)
  | const c => rw [hc]; exact h _ hI
  | global g => exact absurd h (by simp [OpdW])
  | func f => exact absurd h (by simp [OpdW])
theorem safeW_move {d : Tmp} {x : Operand} {t : TypeId} {ps : String} {af : Array Edge} {gd : Option (Nat × Bool)} (hR : ∀ W, R W W) (h : OpdW Tin I x (T d)) :
    SafeOpW P Tin T I R { dst := some d, op := .move x, type := t, pos := ps, after := af, guard := gd } := by
  intro ρ w hI hT hc hf
  exact ⟨hR w, hI, fun d' hd => by cases hd; exact h.at_ (l := #[x]) (by simp) hI hT hc⟩
theorem safeW_assign {d : Tmp} {x : Operand} {t : TypeId} {ps : String} {af : Array Edge} {gd : Option (Nat × Bool)} (hR : ∀ W, R W W) (h : OpdW Tin I x (T d)) :
    SafeOpW P Tin T I R { dst := some d, op := .assign x, type := t, pos := ps, after := af, guard := gd } := by
  intro ρ w hI hT hc hf
  exact ⟨hR w, hI, fun d' hd => by cases hd; exact h.at_ (l := #[x]) (by simp) hI hT hc⟩
theorem safeW_call0 {dst : Option Tmp} {f : FuncId} {ats : Array TypeId} {t : TypeId} {ps : String} {af : Array Edge} {gd : Option (Nat × Bool)}
    (hcall : ∀ args W, Sem.run P (callFunc f args) W = .ok (.enter f args) W)
    (h : ∀ W, I W → Calls P f #[] W fun e w' => ∃ v, e = .returned v ∧ R W w' ∧ I w' ∧ ∀ d, dst = some d → T d w' v) :
    SafeOpW P Tin T I R { dst := dst, op := .call { callee := .value (.func f), args := #[], argTypes := ats }, type := t, pos := ps, after := af, guard := gd } := by
  intro ρ w hI hT hc hf
  have e : execOp ρ { dst := dst, op := .call { callee := .value (.func f), args := #[], argTypes := ats }, type := t, pos := ps, after := af, guard := gd } = callFunc f #[] := by
    simp [execOp, resolve, hf, Deferred.ofValue, invoke]
  rw [e, hcall]
  exact h w hI
theorem safeW_call1 {dst : Option Tmp} {f : FuncId} {x : Operand} {ats : Array TypeId} {t : TypeId} {ps : String} {af : Array Edge} {gd : Option (Nat × Bool)} (p : World → Value → Prop) (hx : OpdW Tin I x p)
    (hcall : ∀ args W, Sem.run P (callFunc f args) W = .ok (.enter f args) W)
    (h : ∀ a W, I W → p W a → Calls P f #[a] W fun e w' => ∃ v, e = .returned v ∧ R W w' ∧ I w' ∧ ∀ d, dst = some d → T d w' v) :
    SafeOpW P Tin T I R { dst := dst, op := .call { callee := .value (.func f), args := #[x], argTypes := ats }, type := t, pos := ps, after := af, guard := gd } := by
  intro ρ w hI hT hc hf
  have hp := hx.at_ (l := #[.func f, x]) (ρ := ρ) (by simp) hI (fun u hu => hT u (by simpa [Op.operands, Call.operands] using hu)) hc
  have e : execOp ρ { dst := dst, op := .call { callee := .value (.func f), args := #[x], argTypes := ats }, type := t, pos := ps, after := af, guard := gd } = callFunc f #[ρ x] := by
    simp [execOp, resolve, hf, Deferred.ofValue, invoke]
  rw [e, hcall]
  exact h _ w hI hp
theorem safeW_call2 {dst : Option Tmp} {f : FuncId} {x y : Operand} {ats : Array TypeId} {t : TypeId} {ps : String} {af : Array Edge} {gd : Option (Nat × Bool)} (p q : World → Value → Prop) (hx : OpdW Tin I x p) (hy : OpdW Tin I y q)
    (hcall : ∀ args W, Sem.run P (callFunc f args) W = .ok (.enter f args) W)
    (h : ∀ a b W, I W → p W a → q W b → Calls P f #[a, b] W fun e w' => ∃ v, e = .returned v ∧ R W w' ∧ I w' ∧ ∀ d, dst = some d → T d w' v) :
    SafeOpW P Tin T I R { dst := dst, op := .call { callee := .value (.func f), args := #[x, y], argTypes := ats }, type := t, pos := ps, after := af, guard := gd } := by
  intro ρ w hI hT hc hf
  have hp := hx.at_ (l := #[.func f, x, y]) (ρ := ρ) (by simp) hI (fun u hu => hT u (by simpa [Op.operands, Call.operands] using hu)) hc
  have hq := hy.at_ (l := #[.func f, x, y]) (ρ := ρ) (by simp) hI (fun u hu => hT u (by simpa [Op.operands, Call.operands] using hu)) hc
  have e : execOp ρ { dst := dst, op := .call { callee := .value (.func f), args := #[x, y], argTypes := ats }, type := t, pos := ps, after := af, guard := gd } = callFunc f #[ρ x, ρ y] := by
    simp [execOp, resolve, hf, Deferred.ofValue, invoke]
  rw [e, hcall]
  exact h _ _ w hI hp hq
/-- A slice of one element. -/
theorem safeW_build1 {d : Tmp} {x : Operand} {ty elem t : TypeId} {ps : String} {af : Array Edge} {gd : Option (Nat × Bool)} {z : Value} {bytes : Nat} (hu : P.underlying ty = some (.slice elem)) (hinfo : (P.info? elem).map (fun i => (i.zero, i.size, i.bytes)) = some (some z, 1, bytes)) (hzc : z.cells = #[z]) (p : World → Value → Prop) (hx : OpdW Tin I x p) (hp1 : ∀ W v, p W v → v.cells = #[v])
    (h : ∀ W v, I W → p W v → R W (W.alloc (.cells #[v] elem)) ∧ I (W.alloc (.cells #[v] elem)) ∧ T d (W.alloc (.cells #[v] elem)) (.slice (some ⟨W.heap.size, 0, none⟩) 1 1)) :
    SafeOpW P Tin T I R { dst := some d, op := .buildSlice ty 1 #[(0, x)], type := t, pos := ps, after := af, guard := gd } := by
  intro ρ w hI hT hc hf
  have hp := hx.at_ (l := #[x]) (ρ := ρ) (by simp) hI (fun u hu => hT u (by simpa [Op.operands] using hu)) hc
  obtain ⟨i, hi, hz, hs, _⟩ := info_of hinfo
  have e : Sem.run P (execOp ρ { dst := some d, op := .buildSlice ty 1 #[(0, x)], type := t, pos := ps, after := af, guard := gd }) w = .ok (.value (.slice (some ⟨w.heap.size, 0, none⟩) 1 1)) (w.alloc (.cells #[ρ x] elem)) := by
    have hfill : Instr.fill (fun i => some (i, 1)) (Array.map (fun x => [z][x % 1]?.getD default) (Array.range 1)) [(0, ρ x)] = some #[ρ x] := by
      have : Array.map (fun x => [z][x % 1]?.getD default) (Array.range 1) = #[z] := by
        apply Array.ext
        · simp
        · intro i h1 h2
          obtain rfl : i = 0 := by simp at h1; exact h1
          simp
      rw [this]
      simp [Instr.fill, hp1 _ _ hp]
    simp [execOp, Instr.buildSlice, run_underlying hu, sizeOf, typeInfo, zeroValue, hi, hz, hs, hp1 _ _ hp, hzc, newRow, hfill]
  rw [e]
  obtain ⟨h1, h2, h3⟩ := h w _ hI hp
  exact ⟨h1, h2, fun d' hd => by cases hd; exact h3⟩
end
end
end Go.Proofs.YtcebfkhfnjbfjaaGreatDoor
namespace Go.Proofs.YtcebfkhfnjbfjaaGreatDoor
open Go.RowKit
set_option linter.unusedVariables false
set_option linter.unusedSimpArgs false
section
variable {P : Program}
theorem lookup_mem : ∀ (l : List (Nat × Bool)) (j : Nat) (c : Bool), l.lookup j = some c → (j, c) ∈ l
  | [], j, c, h => by simp at h
  | (j', c') :: r, j, c, h => by
    rw [List.lookup_cons] at h
    by_cases e' : j = j'
    · subst e'
      simp at h
      rw [h]
      exact List.mem_cons_self
    · have : (j == j') = false := by simpa using e'
      rw [this] at h
      exact List.mem_cons_of_mem _ (lookup_mem r j c h)
/-- Is the operation passed over? -/
def skipX (GD : List (Nat × Bool)) (o : Oper) : Bool :=
  match o.guard with
  | none => false
  | some (j, b) => GD.lookup j != some b
/-- As regionOkZ, with guards that GD decides. -/
def regionOkX (ops : Array Oper) (Z : List Nat) (GD : List (Nat × Bool)) (n : Nat) : Bool :=
  (dstsOf ops).all (· < n) &&
  ops.toList.zipIdx.all fun (o, i) =>
    (match o.guard with
      | none => true
      | some (j, _) => ((GD.lookup j).isSome && (ops[j]?).any fun x => x.dst.isSome) && (o.after.toList.any fun e => Region.binds .any e && e.on == j)) &&
    (o.after.toList.all fun e => !Region.binds .any e || decide (e.on < i)) &&
    if Z.contains i then (readsOf o).all fun u => ops.toList.all fun (x : Oper) => !(x.dst == some u) || (x.after.toList.any fun e => Region.binds .any e && e.on == i)
    else (readsOf o).all fun u => !(dstsOf ops).contains u || (o.after.toList.any fun e => Region.binds .any e && (ops[e.on]?).any fun x => x.dst == some u)
/-- The slots of the guards, and what they hold. -/
def guardSlots (ops : Array Oper) (GD : List (Nat × Bool)) : List (Option Tmp × Bool) := GD.map fun (j, c) => ((ops[j]?).bind (·.dst), c)
def AllSafeX (P : Program) (Z : List Nat) (GD : List (Nat × Bool)) (T0 T : Tmp → World → Value → Prop) (I : World → Prop) (R : World → World → Prop) : Nat → List Oper → Prop
  | _, [] => True
  | i, o :: r => (if skipX GD o then (∀ d, o.dst = some d → ∀ W, I W → T d W undef) else SafeOpW P (if Z.contains i then T0 else T) T I R o) ∧ AllSafeX P Z GD T0 T I R (i + 1) r
theorem AllSafeX.at_ {Z : List Nat} {GD : List (Nat × Bool)} {T0 T : Tmp → World → Value → Prop} {I : World → Prop} {R : World → World → Prop} : ∀ {l : List Oper} {k : Nat}, AllSafeX P Z GD T0 T I R k l → ∀ i o, l[i]? = some o → (if skipX GD o then (∀ d, o.dst = some d → ∀ W, I W → T d W undef) else SafeOpW P (if Z.contains (k + i) then T0 else T) T I R o)
  | [], _, _, i, o, h => by simp at h
  | x :: r, k, h, 0, o, ho => by
    simp at ho
    subst ho
    exact h.1
  | x :: r, k, h, i + 1, o, ho => by
    have := h.2.at_ i o (by simpa using ho)
    rwa [show k + 1 + i = k + (i + 1) by omega] at this
theorem wpAny_typedX {ops : Array Oper} {Q : Exit → Act → World → Prop} {Z : List Nat} {GD : List (Nat × Bool)} {T0 T : Tmp → World → Value → Prop} {I : World → Prop} {R : World → World → Prop} (hmono : ∀ u W W' v, I W → I W' → R W W' → T u W v → T u W' v) {a0 : Act} (hok : regionOkX ops Z GD a0.tmps.size = true)
    (h0 : ∀ u, u ∈ outReads ops → ∀ W, I W → T u W (a0.tmps.getD u undef)) (hz : ∀ u, u ∈ zReads ops Z → ∀ W, I W → T0 u W (a0.tmps.getD u undef)) (hgs : ∀ g c, (some g, c) ∈ guardSlots ops GD → ∀ W v, I W → T g W v → v = .bool c) (hRr : ∀ W, I W → R W W) (hs : AllSafeX P Z GD T0 T I R 0 ops.toList)
    (hQ : ∀ (f : Tmp → Value) (w' : World), I w' → (∀ d, d ∈ dstsOf ops → T d w' (f d)) → Q .normal ⟨putAll a0.tmps (dstsOf ops) f, a0.defers⟩ w') :
    ∀ (fuel : Nat) (listed : Array Bool) (a : Act) (w : World), listed.size = ops.size → toCome listed ≤ fuel → WInv ops (fun u => T u w) I a0 listed a w → wpAny P .any ops Q fuel listed a w := by
  have hok' : (∀ d ∈ dstsOf ops, d < a0.tmps.size) ∧ ∀ i o, ops[i]? = some o → (∀ j b, o.guard = some (j, b) → ((∃ c, GD.lookup j = some c) ∧ ∃ x g, ops[j]? = some x ∧ x.dst = some g) ∧ ∃ e ∈ o.after, Region.binds .any e = true ∧ e.on = j) ∧ (∀ e ∈ o.after, Region.binds .any e = true → e.on < i) ∧
      (Z.contains i = true → ∀ u ∈ readsOf o, ∀ (j : Nat) (x : Oper), ops[j]? = some x → x.dst = some u → ∃ e ∈ x.after, Region.binds .any e = true ∧ e.on = i) ∧
      (Z.contains i = false → ∀ u ∈ readsOf o, u ∈ dstsOf ops → ∃ e ∈ o.after, Region.binds .any e = true ∧ ∃ x, ops[e.on]? = some x ∧ x.dst = some u) := by
    simp only [regionOkX, Bool.and_eq_true, List.all_eq_true, decide_eq_true_eq] at hok
    refine ⟨hok.1, fun i o ho => ?_⟩
    have hm : (o, i) ∈ ops.toList.zipIdx := by
      rw [List.mem_zipIdx_iff_getElem?]
      simpa using ho
    obtain ⟨⟨h1, h2⟩, h3⟩ := hok.2 _ hm
    dsimp only at h3
    refine ⟨fun j b hg => ?_, fun e he hb => ?_, fun hZ u hu j x hj hx => ?_, fun hZ u hu hd => ?_⟩
    · rw [hg] at h1
      simp only [Bool.and_eq_true, List.any_eq_true, beq_iff_eq] at h1
      obtain ⟨⟨h4, h5⟩, e, he, hb, hon⟩ := h1
      refine ⟨⟨Option.isSome_iff_exists.1 h4, ?_⟩, e, by simpa using he, hb, hon⟩
      cases hq : ops[j]? with
      | none => simp [hq] at h5
      | some x =>
        simp only [hq, Option.any_some] at h5
        obtain ⟨g, hg'⟩ := Option.isSome_iff_exists.1 h5
        exact ⟨x, g, rfl, hg'⟩
    · have := h2 e (by simpa using he)
      simpa [hb] using this
    · rw [if_pos hZ] at h3
      have h4 := List.all_eq_true.1 h3 u hu
      have h5 := List.all_eq_true.1 h4 x (by rw [Array.mem_toList_iff]; exact Array.mem_of_getElem? hj)
      simp only [hx, beq_self_eq_true, Bool.not_true, Bool.false_or, List.any_eq_true, Bool.and_eq_true, beq_iff_eq] at h5
      obtain ⟨e, he, hb, hon⟩ := h5
      exact ⟨e, by simpa using he, hb, hon⟩
    · rw [if_neg (by rw [hZ]; decide)] at h3
      have := List.all_eq_true.1 h3 u hu
      simp only [Bool.or_eq_true, Bool.not_eq_true', List.any_eq_true, Bool.and_eq_true] at this
      rcases this with h | ⟨e, he, hb, hx⟩
      · simp [hd] at h
      · obtain ⟨x, hx1, hx2⟩ : ∃ x, ops[e.on]? = some x ∧ x.dst = some u := by
          cases hq : ops[e.on]? with
          | none => simp [hq] at hx
          | some x => exact ⟨x, rfl, by simpa [hq] using hx⟩
        exact ⟨e, by simpa using he, hb, x, hx1, hx2⟩
  -- behind the last one
  have hend : ∀ (listed : Array Bool) (a : Act) (w : World), listed.size = ops.size → Region.ready .any ops listed = [] → WInv ops (fun u => T u w) I a0 listed a w → Q .normal a w := by
    intro listed a w hl hr ⟨hi, _, _⟩
    have hall : ∀ i, i < ops.size → listed.getD i false = true := by
      intro i
      induction i using Nat.strongRecOn with
      | _ i ih =>
        intro hlt
        by_cases hq : listed.getD i false = true
        · exact hq
        · have : i ∈ Region.ready .any ops listed := mem_ready.2 ⟨by
            have : i < listed.size := by omega
            simp only [Array.getD_eq_getD_getElem?, Array.getElem?_eq_getElem this, Option.getD_some] at hq ⊢
            simpa using hq, ops[i], Array.getElem?_eq_getElem hlt, fun e he hb => ih e.on ((hok'.2 i _ (Array.getElem?_eq_getElem hlt)).2.1 e he hb) (by
              have := (hok'.2 i _ (Array.getElem?_eq_getElem hlt)).2.1 e he hb
              omega)⟩
          rw [hr] at this
          simp at this
    have e : a = ⟨putAll a0.tmps (dstsOf ops) (fun u => a.tmps.getD u undef), a0.defers⟩ := by
      obtain ⟨t, df⟩ := a
      have h1 := hi.defers
      have h2 := hi.size
      have h3 := hi.other
      dsimp only at h1 h2 h3
      subst h1
      congr 1
      apply Array.ext_getElem?
      intro u
      by_cases hu : u < a0.tmps.size
      · rw [putAll_get _ _ _ hu]
        split
        · have hu' : u < t.size := by omega
          simp [Array.getElem?_eq_getElem hu']
        · exact h3 u (by assumption)
      · rw [Array.getElem?_eq_none (by omega), Array.getElem?_eq_none (by rw [putAll_size]; omega)]
    rw [e]
    refine hQ _ _ hi.world fun d hd => ?_
    obtain ⟨o, ho, hod⟩ := List.mem_filterMap.1 hd
    obtain ⟨i, hi', he⟩ := List.mem_iff_getElem.1 ho
    have hi2 : i < ops.size := by simpa using hi'
    exact hi.kind i o d (by rw [Array.getElem?_eq_getElem hi2, ← he]; simp) hod (hall i hi2)
  intro fuel
  induction fuel with
  | zero =>
    intro listed a w hl hc hi
    have hr : Region.ready .any ops listed = [] := by
      cases hq : Region.ready .any ops listed with
      | nil => rfl
      | cons i r =>
        have hm : i ∈ Region.ready .any ops listed := by rw [hq]; simp
        obtain ⟨hl1, o, ho, _⟩ := mem_ready.1 hm
        have hlt : i < ops.size := (Array.getElem?_eq_some_iff.1 ho).1
        have hlt' : i < listed.size := by omega
        have : 0 < toCome listed := List.countP_pos_iff.2 ⟨listed[i], by simp, by
          simp only [Array.getD_eq_getD_getElem?, Array.getElem?_eq_getElem hlt', Option.getD_some] at hl1
          simp [hl1]⟩
        omega
    exact ⟨hr, hend listed a w hl hr hi⟩
  | succ fuel ih =>
    intro listed a w hl hc hi
    refine ⟨fun hr => hend listed a w hl hr hi, fun i hm => ?_⟩
    obtain ⟨hl1, o, ho, hdep⟩ := mem_ready.1 hm
    have hlt : i < ops.size := (Array.getElem?_eq_some_iff.1 ho).1
    have hlt' : i < listed.size := by omega
    have hfalse : listed[i]? = some false := by
      simp only [Array.getD_eq_getD_getElem?, Array.getElem?_eq_getElem hlt', Option.getD_some] at hl1
      rw [Array.getElem?_eq_getElem hlt', hl1]
    obtain ⟨hg, hback, hzr, hread⟩ := hok'.2 i o ho
    have hsafe0 := hs.at_ i o (by simpa using ho)
    rw [Nat.zero_add] at hsafe0
    -- behind it
    have hnext : ∀ (v : Value) (w' : World), R w w' → I w' → (∀ d, o.dst = some d → T d w' v) → wpAny P .any ops Q fuel (listed.setIfInBounds i true) (a.put o.dst v) w' := by
      intro v w' hR hI hT
      have hgrow : ∀ u v, T u w v → T u w' v := fun u v h => hmono u w w' v hi.r.world hI hR h
      refine ih _ _ _ (by simpa using hl) (by have := toCome_set hfalse; omega) ⟨⟨hI, ?_, ?_, ?_, ?_⟩, ?_, ?_⟩
      · cases o.dst <;> exact hi.r.defers
      · cases hd : o.dst <;> simp [Act.put, hi.r.size]
      · intro u hu
        cases hd : o.dst with
        | none => exact hi.r.other u hu
        | some d =>
          have hne : d ≠ u := fun e => hu (by subst e; exact mem_dstsOf ho hd)
          simp only [Act.put]
          rw [Array.getElem?_setIfInBounds_ne hne]
          exact hi.r.other u hu
      · intro j oj d hj hjd hlj
        rw [getD_ite _ _ _ hlt'] at hlj
        cases hd : o.dst with
        | none =>
          by_cases e : i = j
          · subst e; rw [ho] at hj; cases hj; rw [hd] at hjd; cases hjd
          · rw [if_neg e] at hlj
            exact hgrow _ _ (hi.r.kind j oj d hj hjd hlj)
        | some d' =>
          by_cases e : d' = d
          · subst e
            have : d' < a.tmps.size := by rw [hi.r.size]; exact hok'.1 _ (mem_dstsOf ho hd)
            simp only [Act.put, Array.getD_eq_getD_getElem?, Array.getElem?_setIfInBounds_self_of_lt this, Option.getD_some]
            exact hT d' hd
          · have hij : i ≠ j := fun e' => by subst e'; rw [ho] at hj; cases hj; rw [hd] at hjd; cases hjd; exact e rfl
            rw [if_neg hij] at hlj
            have := hgrow _ _ (hi.r.kind j oj d hj hjd hlj)
            simp only [Act.put, Array.getD_eq_getD_getElem?] at this ⊢
            rw [Array.getElem?_setIfInBounds_ne e]
            exact this
      · intro u hu
        have hne : o.dst ≠ some u := fun e => by
          have := hu i o ho e
          rw [getD_ite _ _ _ hlt', if_pos rfl] at this
          cases this
        have hold := hi.init u fun j x hj hx => by
          have := hu j x hj hx
          rw [getD_ite _ _ _ hlt'] at this
          by_cases e : i = j
          · rw [if_pos e] at this; cases this
          · rwa [if_neg e] at this
        cases hd : o.dst with
        | none => exact hold
        | some d =>
          have hdu : d ≠ u := fun e => hne (by rw [hd, e])
          simp only [Act.put]
          rw [Array.getElem?_setIfInBounds_ne hdu]
          exact hold
      · intro j x hj hlj e he hb
        rw [getD_ite _ _ _ hlt'] at hlj ⊢
        by_cases e1 : i = e.on
        · rw [if_pos e1]
        · rw [if_neg e1]
          by_cases e2 : i = j
          · subst e2
            rw [ho] at hj
            cases hj
            exact hdep e he hb
          · rw [if_neg e2] at hlj
            exact hi.deps j x hj hlj e he hb
    have hw : Region.wanted o (yielded ops a.tmps) = !skipX GD o := by
      cases hgu : o.guard with
      | none => simp [Region.wanted, skipX, hgu]
      | some jb =>
        obtain ⟨j, b⟩ := jb
        obtain ⟨⟨⟨c, hc⟩, x, g, hxj, hxd⟩, e, he, hb, hon⟩ := hg j b hgu
        have hlj := hdep e he hb
        rw [hon] at hlj
        have hy : yielded ops a.tmps j = some c := by
          have hk := hi.r.kind j x g hxj hxd hlj
          have hmem : (some g, c) ∈ guardSlots ops GD := by
            exact List.mem_map.2 ⟨(j, c), lookup_mem _ j c hc, by simp [hxj, hxd]⟩
          have hv := hgs g c hmem w _ hi.r.world hk
          have hlt2 : g < a.tmps.size := by rw [hi.r.size]; exact hok'.1 _ (mem_dstsOf hxj hxd)
          simp only [yielded, hxj, Option.bind_some, hxd, Array.getElem?_eq_getElem hlt2]
          rw [Array.getD_eq_getD_getElem?, Array.getElem?_eq_getElem hlt2, Option.getD_some] at hv
          rw [hv]
        simp [Region.wanted, skipX, hgu, hy, hc]
        cases b <;> cases c <;> rfl
    unfold wpOp
    simp only [ho]
    cases hsk : skipX GD o with
    | true =>
      rw [hsk] at hsafe0 hw
      rw [if_neg (by rw [hw]; decide)]
      rw [if_pos rfl] at hsafe0
      exact hnext undef w (hRr w hi.r.world) hi.r.world fun d hd => hsafe0 d hd w hi.r.world
    | false =>
    rw [hsk] at hsafe0 hw
    rw [if_neg (by decide)] at hsafe0
    have hsafe := hsafe0
    rw [if_pos (by rw [hw]; rfl)]
    have hgood := hsafe a.eval w hi.r.world (fun u hu => by
      have hu' : u ∈ readsOf o := List.mem_filterMap.2 ⟨.tmp u, by simpa using hu, rfl⟩
      cases hZ : Z.contains i with
      | true =>
        rw [if_pos rfl]
        show T0 u w (a.tmps.getD u undef)
        have hun : a.tmps[u]? = a0.tmps[u]? := hi.init u fun j x hj hx => by
          cases hlj : listed.getD j false with
          | false => rfl
          | true =>
            obtain ⟨e, he, hb, hon⟩ := hzr hZ u hu' j x hj hx
            have h1 := hi.deps j x hj hlj e he hb
            rw [hon] at h1
            simp only [Array.getD_eq_getD_getElem?, hfalse, Option.getD_some] at h1
            cases h1
        rw [Array.getD_eq_getD_getElem?, hun, ← Array.getD_eq_getD_getElem?]
        refine hz u (List.mem_flatMap.2 ⟨i, by simpa using hZ, ?_⟩) w hi.r.world
        rw [ho]
        exact hu'
      | false =>
        rw [if_neg (by decide)]
        show T u w (a.tmps.getD u undef)
        by_cases hd : u ∈ dstsOf ops
        · obtain ⟨e, he, hb, x, hx, hxd⟩ := hread hZ u hu' hd
          exact hi.r.kind e.on x u hx hxd (hdep e he hb)
        · have := h0 u (List.mem_filter.2 ⟨List.mem_flatMap.2 ⟨o, by rw [Array.mem_toList_iff]; exact Array.mem_of_getElem? ho, hu'⟩, by simpa using hd⟩) w hi.r.world
          rw [Array.getD_eq_getD_getElem?, hi.r.other u hd, ← Array.getD_eq_getD_getElem?]
          exact this) (fun _ => rfl) (fun _ => rfl)
    left
    unfold Oper.wp
    revert hgood
    generalize Sem.run P (execOp a.eval o) w = r
    intro hgood
    cases r with
    | halt h w' => exact absurd hgood (by simp [GoodW])
    | ok n w' =>
      cases n <;> simp only [GoodW] at hgood
      case value v =>
        obtain ⟨hR, h1, h2⟩ := hgood
        exact hnext v w' hR h1 h2
      case skip =>
        obtain ⟨hR, h1, h2⟩ := hgood
        exact hnext undef w' hR h1 h2
      case enter f args =>
        refine Calls.mono hgood fun e w'' he => ?_
        obtain ⟨v, rfl, hR, hI, hT⟩ := he
        exact hnext v w'' hR hI hT

/-- THE REGION that draws. -/
theorem wp_region_typedX {id : Nat} {ops : Array Oper} {Q : Exit → Act → World → Prop} {a : Act} {w : World} (hm : P.follows .mixedOrders = true) (Z : List Nat) (GD : List (Nat × Bool)) (T0 T : Tmp → World → Value → Prop) (I : World → Prop) (R : World → World → Prop) (hmono : ∀ u W W' v, I W → I W' → R W W' → T u W v → T u W' v)
    (hok : regionOkX ops Z GD a.tmps.size = true) (D : List Tmp) (hD : dstsOf ops = D) (U : List Tmp) (hU : outReads ops = U)
    (h0 : ∀ u, u ∈ U → ∀ W, I W → T u W (a.tmps.getD u undef)) (V : List Tmp) (hV : zReads ops Z = V) (hz : ∀ u, u ∈ V → ∀ W, I W → T0 u W (a.tmps.getD u undef)) (hI : I w.drew) (GS : List (Option Tmp × Bool)) (hGS : guardSlots ops GD = GS) (hgs : ∀ g c, (some g, c) ∈ GS → ∀ W v, I W → T g W v → v = .bool c) (hRr : ∀ W, I W → R W W) (hs : AllSafeX P Z GD T0 T I R 0 ops.toList)
    (hQ : ∀ (f : Tmp → Value) (w' : World), I w' → (∀ d, d ∈ D → T d w' (f d)) → Q .normal ⟨putAll a.tmps D f, a.defers⟩ w') : (Code.region id ops true).wp P Q a w := by
  subst hD hU hV hGS
  refine wp_region_any hm (wpAny_typedX hmono hok h0 hz hgs hRr hs hQ _ _ _ _ (by simp) ?_ ⟨⟨hI, rfl, rfl, fun _ _ => rfl, fun i o d _ _ h => ?_⟩, fun _ _ => rfl, fun j o _ h => ?_⟩)
  · exact Nat.le_trans List.countP_le_length (by simp)
  · by_cases hi : i < ops.size <;> simp [hi] at h
  · by_cases hi : j < ops.size <;> simp [hi] at h
/-- THE REGION that keeps the text's order. -/
theorem wp_region_textX {id : Nat} {ops : Array Oper} {Q : Exit → Act → World → Prop} {a : Act} {w : World} (hv : validB ops (Array.replicate ops.size false) (List.range ops.size) = true) (Z : List Nat) (GD : List (Nat × Bool)) (T0 T : Tmp → World → Value → Prop) (I : World → Prop) (R : World → World → Prop) (hmono : ∀ u W W' v, I W → I W' → R W W' → T u W v → T u W' v)
    (hok : regionOkX ops Z GD a.tmps.size = true) (D : List Tmp) (hD : dstsOf ops = D) (U : List Tmp) (hU : outReads ops = U)
    (h0 : ∀ u, u ∈ U → ∀ W, I W → T u W (a.tmps.getD u undef)) (V : List Tmp) (hV : zReads ops Z = V) (hz : ∀ u, u ∈ V → ∀ W, I W → T0 u W (a.tmps.getD u undef)) (hI : I w) (GS : List (Option Tmp × Bool)) (hGS : guardSlots ops GD = GS) (hgs : ∀ g c, (some g, c) ∈ GS → ∀ W v, I W → T g W v → v = .bool c) (hRr : ∀ W, I W → R W W) (hs : AllSafeX P Z GD T0 T I R 0 ops.toList)
    (hQ : ∀ (f : Tmp → Value) (w' : World), I w' → (∀ d, d ∈ D → T d w' (f d)) → Q .normal ⟨putAll a.tmps D f, a.defers⟩ w') : (Code.region id ops false).wp P Q a w := by
  subst hD hU hV hGS
  refine wp_region (wpAny_list _ (toCome (Array.replicate ops.size false)) _ _ _ (wpAny_typedX hmono hok h0 hz hgs hRr hs hQ _ _ _ _ (by simp) (Nat.le_refl _) ⟨⟨hI, rfl, rfl, fun _ _ => rfl, fun i o d _ _ h => ?_⟩, fun _ _ => rfl, fun j o _ h => ?_⟩) hv)
  · by_cases hi : i < ops.size <;> simp [hi] at h
  · by_cases hi : j < ops.size <;> simp [hi] at h
end
end Go.Proofs.YtcebfkhfnjbfjaaGreatDoor
namespace Go.Proofs.YtcebfkhfnjbfjaaGreatDoor
open Go.RowKit
set_option linter.unusedVariables false
set_option linter.unusedSimpArgs false
section
variable {P : Program}
def GoodV (P : Program) (T : Tmp → World → Value → Prop) (I : World → Prop) (R : World → World → Prop) (S : World → Prop) (w : World) (dst : Option Tmp) : Result Next → Prop
  | .ok (.value v) w' => R w w' ∧ I w' ∧ S w' ∧ ∀ d, dst = some d → T d w' v
  | .ok .skip w' => R w w' ∧ I w' ∧ S w' ∧ ∀ d, dst = some d → T d w' undef
  | .ok (.enter f args) w' => Calls P f args w' fun e w'' => ∃ v, e = .returned v ∧ R w w'' ∧ I w'' ∧ S w'' ∧ ∀ d, dst = some d → T d w'' v
  | _ => False
def SafeOpV (P : Program) (Tin T : Tmp → World → Value → Prop) (I : World → Prop) (R : World → World → Prop) (S : World → Prop) (o : Oper) : Prop :=
  ∀ (ρ : Operand → Value) (w : World), I w → (∀ u, .tmp u ∈ o.op.operands → Tin u w (ρ (.tmp u))) → (∀ v, ρ (.const v) = v) → (∀ f, ρ (.func f) = .func (.func f) #[] #[]) → GoodV P T I R S w o.dst (Sem.run P (execOp ρ o) w)
/-- What says nothing beside. -/
theorem SafeOpW.v {Tin T : Tmp → World → Value → Prop} {I : World → Prop} {R : World → World → Prop} {S : World → Prop} {o : Oper} (h : SafeOpW P Tin T I R o) (hS : ∀ W, S W) : SafeOpV P Tin T I R S o := by
  intro ρ w hI hT hc hf
  have hg := h ρ w hI hT hc hf
  revert hg
  generalize Sem.run P (execOp ρ o) w = r
  intro hg
  cases r with
  | halt x w' => exact absurd hg (by simp [GoodW])
  | ok n w' =>
    cases n <;> simp only [GoodW] at hg
    case value v => exact ⟨hg.1, hg.2.1, hS _, hg.2.2⟩
    case skip => exact ⟨hg.1, hg.2.1, hS _, hg.2.2⟩
    case enter f args => exact Calls.mono hg fun e w'' ⟨v, h1, h2, h3, h4⟩ => ⟨v, h1, h2, h3, hS _, h4⟩
def AllSafeV (P : Program) (Z : List Nat) (GD : List (Nat × Bool)) (T0 T : Tmp → World → Value → Prop) (I : World → Prop) (R : World → World → Prop) (S : Nat → World → Prop) : Nat → List Oper → Prop
  | _, [] => True
  | i, o :: r => (if skipX GD o then (∀ d, o.dst = some d → ∀ W, I W → T d W undef) ∧ (∀ W, I W → S i W) else SafeOpV P (if Z.contains i then T0 else T) T I R (S i) o) ∧ AllSafeV P Z GD T0 T I R S (i + 1) r
theorem AllSafeV.at_ {Z : List Nat} {GD : List (Nat × Bool)} {T0 T : Tmp → World → Value → Prop} {I : World → Prop} {R : World → World → Prop} {S : Nat → World → Prop} : ∀ {l : List Oper} {k : Nat}, AllSafeV P Z GD T0 T I R S k l → ∀ i o, l[i]? = some o → (if skipX GD o then (∀ d, o.dst = some d → ∀ W, I W → T d W undef) ∧ (∀ W, I W → S (k + i) W) else SafeOpV P (if Z.contains (k + i) then T0 else T) T I R (S (k + i)) o)
  | [], _, _, i, o, h => by simp at h
  | x :: r, k, h, 0, o, ho => by
    simp at ho
    subst ho
    exact h.1
  | x :: r, k, h, i + 1, o, ho => by
    have := h.2.at_ i o (by simpa using ho)
    rwa [show k + 1 + i = k + (i + 1) by omega] at this
structure VInv (ops : Array Oper) (T : Tmp → Value → Prop) (I : World → Prop) (S : Nat → Prop) (a0 : Act) (listed : Array Bool) (a : Act) (w : World) : Prop where
  r : RInv ops T I a0 listed a w
  init : ∀ u, (∀ j o, ops[j]? = some o → o.dst = some u → listed.getD j false = false) → a.tmps[u]? = a0.tmps[u]?
  deps : ∀ j o, ops[j]? = some o → listed.getD j false = true → ∀ e ∈ o.after, Region.binds .any e = true → listed.getD e.on false = true
  said : ∀ j, j < ops.size → listed.getD j false = true → S j
theorem wpAny_typedV {ops : Array Oper} {Q : Exit → Act → World → Prop} {Z : List Nat} {GD : List (Nat × Bool)} {T0 T : Tmp → World → Value → Prop} {I : World → Prop} {R : World → World → Prop} {S : Nat → World → Prop} (hmono : ∀ u W W' v, I W → I W' → R W W' → T u W v → T u W' v) (hmonoS : ∀ i W W', I W → I W' → R W W' → S i W → S i W') {a0 : Act} (hok : regionOkX ops Z GD a0.tmps.size = true)
    (h0 : ∀ u, u ∈ outReads ops → ∀ W, I W → T u W (a0.tmps.getD u undef)) (hz : ∀ u, u ∈ zReads ops Z → ∀ W, I W → T0 u W (a0.tmps.getD u undef)) (hgs : ∀ g c, (some g, c) ∈ guardSlots ops GD → ∀ W v, I W → T g W v → v = .bool c) (hRr : ∀ W, I W → R W W) (hs : AllSafeV P Z GD T0 T I R S 0 ops.toList)
    (hQ : ∀ (f : Tmp → Value) (w' : World), I w' → (∀ i, i < ops.size → S i w') → (∀ d, d ∈ dstsOf ops → T d w' (f d)) → Q .normal ⟨putAll a0.tmps (dstsOf ops) f, a0.defers⟩ w') :
    ∀ (fuel : Nat) (listed : Array Bool) (a : Act) (w : World), listed.size = ops.size → toCome listed ≤ fuel → VInv ops (fun u => T u w) I (fun i => S i w) a0 listed a w → wpAny P .any ops Q fuel listed a w := by
  have hok' : (∀ d ∈ dstsOf ops, d < a0.tmps.size) ∧ ∀ i o, ops[i]? = some o → (∀ j b, o.guard = some (j, b) → ((∃ c, GD.lookup j = some c) ∧ ∃ x g, ops[j]? = some x ∧ x.dst = some g) ∧ ∃ e ∈ o.after, Region.binds .any e = true ∧ e.on = j) ∧ (∀ e ∈ o.after, Region.binds .any e = true → e.on < i) ∧
      (Z.contains i = true → ∀ u ∈ readsOf o, ∀ (j : Nat) (x : Oper), ops[j]? = some x → x.dst = some u → ∃ e ∈ x.after, Region.binds .any e = true ∧ e.on = i) ∧
      (Z.contains i = false → ∀ u ∈ readsOf o, u ∈ dstsOf ops → ∃ e ∈ o.after, Region.binds .any e = true ∧ ∃ x, ops[e.on]? = some x ∧ x.dst = some u) := by
    simp only [regionOkX, Bool.and_eq_true, List.all_eq_true, decide_eq_true_eq] at hok
    refine ⟨hok.1, fun i o ho => ?_⟩
    have hm : (o, i) ∈ ops.toList.zipIdx := by
      rw [List.mem_zipIdx_iff_getElem?]
      simpa using ho
    obtain ⟨⟨h1, h2⟩, h3⟩ := hok.2 _ hm
    dsimp only at h3
    refine ⟨fun j b hg => ?_, fun e he hb => ?_, fun hZ u hu j x hj hx => ?_, fun hZ u hu hd => ?_⟩
    · rw [hg] at h1
      simp only [Bool.and_eq_true, List.any_eq_true, beq_iff_eq] at h1
      obtain ⟨⟨h4, h5⟩, e, he, hb, hon⟩ := h1
      refine ⟨⟨Option.isSome_iff_exists.1 h4, ?_⟩, e, by simpa using he, hb, hon⟩
      cases hq : ops[j]? with
      | none => simp [hq] at h5
      | some x =>
        simp only [hq, Option.any_some] at h5
        obtain ⟨g, hg'⟩ := Option.isSome_iff_exists.1 h5
        exact ⟨x, g, rfl, hg'⟩
    · have := h2 e (by simpa using he)
      simpa [hb] using this
    · rw [if_pos hZ] at h3
      have h4 := List.all_eq_true.1 h3 u hu
      have h5 := List.all_eq_true.1 h4 x (by rw [Array.mem_toList_iff]; exact Array.mem_of_getElem? hj)
      simp only [hx, beq_self_eq_true, Bool.not_true, Bool.false_or, List.any_eq_true, Bool.and_eq_true, beq_iff_eq] at h5
      obtain ⟨e, he, hb, hon⟩ := h5
      exact ⟨e, by simpa using he, hb, hon⟩
    · rw [if_neg (by rw [hZ]; decide)] at h3
      have := List.all_eq_true.1 h3 u hu
      simp only [Bool.or_eq_true, Bool.not_eq_true', List.any_eq_true, Bool.and_eq_true] at this
      rcases this with h | ⟨e, he, hb, hx⟩
      · simp [hd] at h
      · obtain ⟨x, hx1, hx2⟩ : ∃ x, ops[e.on]? = some x ∧ x.dst = some u := by
          cases hq : ops[e.on]? with
          | none => simp [hq] at hx
          | some x => exact ⟨x, rfl, by simpa [hq] using hx⟩
        exact ⟨e, by simpa using he, hb, x, hx1, hx2⟩
  -- behind the last one
  have hend : ∀ (listed : Array Bool) (a : Act) (w : World), listed.size = ops.size → Region.ready .any ops listed = [] → VInv ops (fun u => T u w) I (fun i => S i w) a0 listed a w → Q .normal a w := by
    intro listed a w hl hr ⟨hi, _, _, hsaid⟩
    have hall : ∀ i, i < ops.size → listed.getD i false = true := by
      intro i
      induction i using Nat.strongRecOn with
      | _ i ih =>
        intro hlt
        by_cases hq : listed.getD i false = true
        · exact hq
        · have : i ∈ Region.ready .any ops listed := mem_ready.2 ⟨by
            have : i < listed.size := by omega
            simp only [Array.getD_eq_getD_getElem?, Array.getElem?_eq_getElem this, Option.getD_some] at hq ⊢
            simpa using hq, ops[i], Array.getElem?_eq_getElem hlt, fun e he hb => ih e.on ((hok'.2 i _ (Array.getElem?_eq_getElem hlt)).2.1 e he hb) (by
              have := (hok'.2 i _ (Array.getElem?_eq_getElem hlt)).2.1 e he hb
              omega)⟩
          rw [hr] at this
          simp at this
    have e : a = ⟨putAll a0.tmps (dstsOf ops) (fun u => a.tmps.getD u undef), a0.defers⟩ := by
      obtain ⟨t, df⟩ := a
      have h1 := hi.defers
      have h2 := hi.size
      have h3 := hi.other
      dsimp only at h1 h2 h3
      subst h1
      congr 1
      apply Array.ext_getElem?
      intro u
      by_cases hu : u < a0.tmps.size
      · rw [putAll_get _ _ _ hu]
        split
        · have hu' : u < t.size := by omega
          simp [Array.getElem?_eq_getElem hu']
        · exact h3 u (by assumption)
      · rw [Array.getElem?_eq_none (by omega), Array.getElem?_eq_none (by rw [putAll_size]; omega)]
    rw [e]
    refine hQ _ _ hi.world (fun i hi => hsaid i hi (hall i hi)) fun d hd => ?_
    obtain ⟨o, ho, hod⟩ := List.mem_filterMap.1 hd
    obtain ⟨i, hi', he⟩ := List.mem_iff_getElem.1 ho
    have hi2 : i < ops.size := by simpa using hi'
    exact hi.kind i o d (by rw [Array.getElem?_eq_getElem hi2, ← he]; simp) hod (hall i hi2)
  intro fuel
  induction fuel with
  | zero =>
    intro listed a w hl hc hi
    have hr : Region.ready .any ops listed = [] := by
      cases hq : Region.ready .any ops listed with
      | nil => rfl
      | cons i r =>
        have hm : i ∈ Region.ready .any ops listed := by rw [hq]; simp
        obtain ⟨hl1, o, ho, _⟩ := mem_ready.1 hm
        have hlt : i < ops.size := (Array.getElem?_eq_some_iff.1 ho).1
        have hlt' : i < listed.size := by omega
        have : 0 < toCome listed := List.countP_pos_iff.2 ⟨listed[i], by simp, by
          simp only [Array.getD_eq_getD_getElem?, Array.getElem?_eq_getElem hlt', Option.getD_some] at hl1
          simp [hl1]⟩
        omega
    exact ⟨hr, hend listed a w hl hr hi⟩
  | succ fuel ih =>
    intro listed a w hl hc hi
    refine ⟨fun hr => hend listed a w hl hr hi, fun i hm => ?_⟩
    obtain ⟨hl1, o, ho, hdep⟩ := mem_ready.1 hm
    have hlt : i < ops.size := (Array.getElem?_eq_some_iff.1 ho).1
    have hlt' : i < listed.size := by omega
    have hfalse : listed[i]? = some false := by
      simp only [Array.getD_eq_getD_getElem?, Array.getElem?_eq_getElem hlt', Option.getD_some] at hl1
      rw [Array.getElem?_eq_getElem hlt', hl1]
    obtain ⟨hg, hback, hzr, hread⟩ := hok'.2 i o ho
    have hsafe0 := hs.at_ i o (by simpa using ho)
    rw [Nat.zero_add] at hsafe0
    -- behind it
    have hnext : ∀ (v : Value) (w' : World), R w w' → I w' → S i w' → (∀ d, o.dst = some d → T d w' v) → wpAny P .any ops Q fuel (listed.setIfInBounds i true) (a.put o.dst v) w' := by
      intro v w' hR hI hS hT
      have hgrow : ∀ u v, T u w v → T u w' v := fun u v h => hmono u w w' v hi.r.world hI hR h
      refine ih _ _ _ (by simpa using hl) (by have := toCome_set hfalse; omega) ⟨⟨hI, ?_, ?_, ?_, ?_⟩, ?_, ?_, ?_⟩
      · cases o.dst <;> exact hi.r.defers
      · cases hd : o.dst <;> simp [Act.put, hi.r.size]
      · intro u hu
        cases hd : o.dst with
        | none => exact hi.r.other u hu
        | some d =>
          have hne : d ≠ u := fun e => hu (by subst e; exact mem_dstsOf ho hd)
          simp only [Act.put]
          rw [Array.getElem?_setIfInBounds_ne hne]
          exact hi.r.other u hu
      · intro j oj d hj hjd hlj
        rw [getD_ite _ _ _ hlt'] at hlj
        cases hd : o.dst with
        | none =>
          by_cases e : i = j
          · subst e; rw [ho] at hj; cases hj; rw [hd] at hjd; cases hjd
          · rw [if_neg e] at hlj
            exact hgrow _ _ (hi.r.kind j oj d hj hjd hlj)
        | some d' =>
          by_cases e : d' = d
          · subst e
            have : d' < a.tmps.size := by rw [hi.r.size]; exact hok'.1 _ (mem_dstsOf ho hd)
            simp only [Act.put, Array.getD_eq_getD_getElem?, Array.getElem?_setIfInBounds_self_of_lt this, Option.getD_some]
            exact hT d' hd
          · have hij : i ≠ j := fun e' => by subst e'; rw [ho] at hj; cases hj; rw [hd] at hjd; cases hjd; exact e rfl
            rw [if_neg hij] at hlj
            have := hgrow _ _ (hi.r.kind j oj d hj hjd hlj)
            simp only [Act.put, Array.getD_eq_getD_getElem?] at this ⊢
            rw [Array.getElem?_setIfInBounds_ne e]
            exact this
      · intro u hu
        have hne : o.dst ≠ some u := fun e => by
          have := hu i o ho e
          rw [getD_ite _ _ _ hlt', if_pos rfl] at this
          cases this
        have hold := hi.init u fun j x hj hx => by
          have := hu j x hj hx
          rw [getD_ite _ _ _ hlt'] at this
          by_cases e : i = j
          · rw [if_pos e] at this; cases this
          · rwa [if_neg e] at this
        cases hd : o.dst with
        | none => exact hold
        | some d =>
          have hdu : d ≠ u := fun e => hne (by rw [hd, e])
          simp only [Act.put]
          rw [Array.getElem?_setIfInBounds_ne hdu]
          exact hold
      · intro j x hj hlj e he hb
        rw [getD_ite _ _ _ hlt'] at hlj ⊢
        by_cases e1 : i = e.on
        · rw [if_pos e1]
        · rw [if_neg e1]
          by_cases e2 : i = j
          · subst e2
            rw [ho] at hj
            cases hj
            exact hdep e he hb
          · rw [if_neg e2] at hlj
            exact hi.deps j x hj hlj e he hb
      · intro j hj hlj
        rw [getD_ite _ _ _ hlt'] at hlj
        by_cases e2 : i = j
        · subst e2
          exact hS
        · rw [if_neg e2] at hlj
          exact hmonoS _ _ _ hi.r.world hI hR (hi.said j hj hlj)
    have hw : Region.wanted o (yielded ops a.tmps) = !skipX GD o := by
      cases hgu : o.guard with
      | none => simp [Region.wanted, skipX, hgu]
      | some jb =>
        obtain ⟨j, b⟩ := jb
        obtain ⟨⟨⟨c, hc⟩, x, g, hxj, hxd⟩, e, he, hb, hon⟩ := hg j b hgu
        have hlj := hdep e he hb
        rw [hon] at hlj
        have hy : yielded ops a.tmps j = some c := by
          have hk := hi.r.kind j x g hxj hxd hlj
          have hmem : (some g, c) ∈ guardSlots ops GD := by
            exact List.mem_map.2 ⟨(j, c), lookup_mem _ j c hc, by simp [hxj, hxd]⟩
          have hv := hgs g c hmem w _ hi.r.world hk
          have hlt2 : g < a.tmps.size := by rw [hi.r.size]; exact hok'.1 _ (mem_dstsOf hxj hxd)
          simp only [yielded, hxj, Option.bind_some, hxd, Array.getElem?_eq_getElem hlt2]
          rw [Array.getD_eq_getD_getElem?, Array.getElem?_eq_getElem hlt2, Option.getD_some] at hv
          rw [hv]
        simp [Region.wanted, skipX, hgu, hy, hc]
        cases b <;> cases c <;> rfl
    unfold wpOp
    simp only [ho]
    cases hsk : skipX GD o with
    | true =>
      rw [hsk] at hsafe0 hw
      rw [if_neg (by rw [hw]; decide)]
      rw [if_pos rfl] at hsafe0
      exact hnext undef w (hRr w hi.r.world) hi.r.world (hsafe0.2 w hi.r.world) fun d hd => hsafe0.1 d hd w hi.r.world
    | false =>
    rw [hsk] at hsafe0 hw
    rw [if_neg (by decide)] at hsafe0
    have hsafe := hsafe0
    rw [if_pos (by rw [hw]; rfl)]
    have hgood := hsafe a.eval w hi.r.world (fun u hu => by
      have hu' : u ∈ readsOf o := List.mem_filterMap.2 ⟨.tmp u, by simpa using hu, rfl⟩
      cases hZ : Z.contains i with
      | true =>
        rw [if_pos rfl]
        show T0 u w (a.tmps.getD u undef)
        have hun : a.tmps[u]? = a0.tmps[u]? := hi.init u fun j x hj hx => by
          cases hlj : listed.getD j false with
          | false => rfl
          | true =>
            obtain ⟨e, he, hb, hon⟩ := hzr hZ u hu' j x hj hx
            have h1 := hi.deps j x hj hlj e he hb
            rw [hon] at h1
            simp only [Array.getD_eq_getD_getElem?, hfalse, Option.getD_some] at h1
            cases h1
        rw [Array.getD_eq_getD_getElem?, hun, ← Array.getD_eq_getD_getElem?]
        refine hz u (List.mem_flatMap.2 ⟨i, by simpa using hZ, ?_⟩) w hi.r.world
        rw [ho]
        exact hu'
      | false =>
        rw [if_neg (by decide)]
        show T u w (a.tmps.getD u undef)
        by_cases hd : u ∈ dstsOf ops
        · obtain ⟨e, he, hb, x, hx, hxd⟩ := hread hZ u hu' hd
          exact hi.r.kind e.on x u hx hxd (hdep e he hb)
        · have := h0 u (List.mem_filter.2 ⟨List.mem_flatMap.2 ⟨o, by rw [Array.mem_toList_iff]; exact Array.mem_of_getElem? ho, hu'⟩, by simpa using hd⟩) w hi.r.world
          rw [Array.getD_eq_getD_getElem?, hi.r.other u hd, ← Array.getD_eq_getD_getElem?]
          exact this) (fun _ => rfl) (fun _ => rfl)
    left
    unfold Oper.wp
    revert hgood
    generalize Sem.run P (execOp a.eval o) w = r
    intro hgood
    cases r with
    | halt h w' => exact absurd hgood (by simp [GoodV])
    | ok n w' =>
      cases n <;> simp only [GoodV] at hgood
      case value v =>
        obtain ⟨hR, h1, hS, h2⟩ := hgood
        exact hnext v w' hR h1 hS h2
      case skip =>
        obtain ⟨hR, h1, hS, h2⟩ := hgood
        exact hnext undef w' hR h1 hS h2
      case enter f args =>
        refine Calls.mono hgood fun e w'' he => ?_
        obtain ⟨v, rfl, hR, hI, hS, hT⟩ := he
        exact hnext v w'' hR hI hS hT

/-- THE REGION that draws. -/
theorem wp_region_typedV {id : Nat} {ops : Array Oper} {Q : Exit → Act → World → Prop} {a : Act} {w : World} (hm : P.follows .mixedOrders = true) (Z : List Nat) (GD : List (Nat × Bool)) (T0 T : Tmp → World → Value → Prop) (I : World → Prop) (R : World → World → Prop) (S : Nat → World → Prop) (hmono : ∀ u W W' v, I W → I W' → R W W' → T u W v → T u W' v) (hmonoS : ∀ i W W', I W → I W' → R W W' → S i W → S i W')
    (hok : regionOkX ops Z GD a.tmps.size = true) (D : List Tmp) (hD : dstsOf ops = D) (U : List Tmp) (hU : outReads ops = U)
    (h0 : ∀ u, u ∈ U → ∀ W, I W → T u W (a.tmps.getD u undef)) (V : List Tmp) (hV : zReads ops Z = V) (hz : ∀ u, u ∈ V → ∀ W, I W → T0 u W (a.tmps.getD u undef)) (hI : I w.drew) (GS : List (Option Tmp × Bool)) (hGS : guardSlots ops GD = GS) (hgs : ∀ g c, (some g, c) ∈ GS → ∀ W v, I W → T g W v → v = .bool c) (hRr : ∀ W, I W → R W W) (hs : AllSafeV P Z GD T0 T I R S 0 ops.toList)
    (hQ : ∀ (f : Tmp → Value) (w' : World), I w' → (∀ i, i < ops.size → S i w') → (∀ d, d ∈ D → T d w' (f d)) → Q .normal ⟨putAll a.tmps D f, a.defers⟩ w') : (Code.region id ops true).wp P Q a w := by
  subst hD hU hV hGS
  refine wp_region_any hm (wpAny_typedV hmono hmonoS hok h0 hz hgs hRr hs hQ _ _ _ _ (by simp) ?_ ⟨⟨hI, rfl, rfl, fun _ _ => rfl, fun i o d _ _ h => ?_⟩, fun _ _ => rfl, fun j o _ h => ?_, fun j _ h => ?_⟩)
  · exact Nat.le_trans List.countP_le_length (by simp)
  · by_cases hi : i < ops.size <;> simp [hi] at h
  · by_cases hi : j < ops.size <;> simp [hi] at h
  · by_cases hi : j < ops.size <;> simp [hi] at h
/-- THE REGION that keeps the text's order. -/
theorem wp_region_textV {id : Nat} {ops : Array Oper} {Q : Exit → Act → World → Prop} {a : Act} {w : World} (hv : validB ops (Array.replicate ops.size false) (List.range ops.size) = true) (Z : List Nat) (GD : List (Nat × Bool)) (T0 T : Tmp → World → Value → Prop) (I : World → Prop) (R : World → World → Prop) (S : Nat → World → Prop) (hmono : ∀ u W W' v, I W → I W' → R W W' → T u W v → T u W' v) (hmonoS : ∀ i W W', I W → I W' → R W W' → S i W → S i W')
    (hok : regionOkX ops Z GD a.tmps.size = true) (D : List Tmp) (hD : dstsOf ops = D) (U : List Tmp) (hU : outReads ops = U)
    (h0 : ∀ u, u ∈ U → ∀ W, I W → T u W (a.tmps.getD u undef)) (V : List Tmp) (hV : zReads ops Z = V) (hz : ∀ u, u ∈ V → ∀ W, I W → T0 u W (a.tmps.getD u undef)) (hI : I w) (GS : List (Option Tmp × Bool)) (hGS : guardSlots ops GD = GS) (hgs : ∀ g c, (some g, c) ∈ GS → ∀ W v, I W → T g W v → v = .bool c) (hRr : ∀ W, I W → R W W) (hs : AllSafeV P Z GD T0 T I R S 0 ops.toList)
    (hQ : ∀ (f : Tmp → Value) (w' : World), I w' → (∀ i, i < ops.size → S i w') → (∀ d, d ∈ D → T d w' (f d)) → Q .normal ⟨putAll a.tmps D f, a.defers⟩ w') : (Code.region id ops false).wp P Q a w := by
  subst hD hU hV hGS
  refine wp_region (wpAny_list _ (toCome (Array.replicate ops.size false)) _ _ _ (wpAny_typedV hmono hmonoS hok h0 hz hgs hRr hs hQ _ _ _ _ (by simp) (Nat.le_refl _) ⟨⟨hI, rfl, rfl, fun _ _ => rfl, fun i o d _ _ h => ?_⟩, fun _ _ => rfl, fun j o _ h => ?_, fun j _ h => ?_⟩) hv)
  · by_cases hi : i < ops.size <;> simp [hi] at h
  · by_cases hi : j < ops.size <;> simp [hi] at h
  · by_cases hi : j < ops.size <;> simp [hi] at h
end
end Go.Proofs.YtcebfkhfnjbfjaaGreatDoor
namespace Go.Proofs.YtcebfkhfnjbfjaaGreatDoor
open Go.RowKit
set_option linter.unusedVariables false
set_option linter.unusedSimpArgs false
section
variable {P : Program} {T : Tmp → Value → Prop} {I : World → Prop}
theorem safe_pick {d : Tmp} {c a b : Operand} {t : TypeId} {ps : String} {af : Array Edge} {gd : Option (Nat × Bool)} (cc : Bool) (hc : Opd T c (· = .bool cc)) (ha : cc = true → Opd T a (T d)) (hb : cc = false → Opd T b (T d)) :
    SafeOp P T I { dst := some d, op := .pick c a b, type := t, pos := ps, after := af, guard := gd } := by
  intro ρ w hI hT hk hf
  have h1 := hc.at_ (l := #[c, a, b]) (by simp) hT hk
  have e : Sem.run P (execOp ρ { dst := some d, op := .pick c a b, type := t, pos := ps, after := af, guard := gd }) w = .ok (.value (if cc then ρ a else ρ b)) w := by
    simp [execOp, h1, asBool]
  rw [e]
  refine ⟨hI, fun d' hd => ?_⟩
  cases hd
  cases cc with
  | true => exact (ha rfl).at_ (l := #[c, a, b]) (by simp) hT hk
  | false => exact (hb rfl).at_ (l := #[c, a, b]) (by simp) hT hk
theorem safe_len {d : Tmp} {x : Operand} {ty t : TypeId} {ps : String} {af : Array Edge} {gd : Option (Nat × Bool)} {e : TypeId} (hu : P.underlying ty = some (.slice e)) (n : Nat) (hx : Opd T x fun v => ∃ a c, v = .slice a n c) (h : T d (.int .i64 (n : Int))) :
    SafeOp P T I { dst := some d, op := .call { callee := .builtin .len, args := #[x], argTypes := #[ty] }, type := t, pos := ps, after := af, guard := gd } := by
  intro ρ w hI hT hk hf
  obtain ⟨a, c, h1⟩ := hx.at_ (l := #[x]) (ρ := ρ) (by simp) (fun u hu => hT u (by simpa [Op.operands, Call.operands] using hu)) hk
  have e : Sem.run P (execOp ρ { dst := some d, op := .call { callee := .builtin .len, args := #[x], argTypes := #[ty] }, type := t, pos := ps, after := af, guard := gd }) w = .ok (.value (.int .i64 (n : Int))) w := by
    simp [execOp, resolve, invoke, builtin, h1, Builtin.len_, run_underlying hu, goInt]
  rw [e]
  exact ⟨hI, fun d' hd => by cases hd; exact h⟩
theorem isAgg_of {P : Program} {ty : TypeId} {de : TypeDesc} (hu : P.underlying ty = some de) (hd : de.isRow = false) (W : World) : Sem.run P (isAgg ty) W = .ok false W := by
  unfold isAgg
  rw [Sem.run_bind, run_underlying hu W]
  cases de <;> simp_all [TypeDesc.isRow]
/-- One cell is read. -/
theorem safe_loadC {d : Tmp} {x : Operand} {ty t : TypeId} {ps : String} {af : Array Edge} {gd : Option (Nat × Bool)} {de : TypeDesc} (hu : P.underlying ty = some de) (hd : de.isRow = false) (a : Addr) (hx : Opd T x (· = .pointer (some a))) (c : Value) (hr : ∀ W, I W → W.cell? a = some c) (h : T d c) :
    SafeOp P T I { dst := some d, op := .load ty x, type := t, pos := ps, after := af, guard := gd } :=
  safe_load _ hx fun u W hI hu' => by
    subst hu'
    exact ⟨_, run_load_one W _ _ (hr W hI) (isAgg_of hu hd W), fun d' hd => by cases hd; exact h⟩
/-- A whole block is read. -/
theorem safe_loadB {d : Tmp} {x : Operand} {ty t : TypeId} {ps : String} {af : Array Edge} {gd : Option (Nat × Bool)} {de : TypeDesc} (hu : P.underlying ty = some de) (hd : de.isRow = true) (g : Nat) (cs : Array Value) (E : TypeId) (fr : Nat × Nat) (hi : (P.info? ty).map (·.size) = some cs.size) (hx : Opd T x (· = .pointer (some ⟨g, 0, none⟩))) (hr : ∀ W, I W → W.heap[g]? = some (.cells cs E fr)) (h : T d (.agg cs)) :
    SafeOp P T I { dst := some d, op := .load ty x, type := t, pos := ps, after := af, guard := gd } :=
  safe_load _ hx fun u W hI hu' => by
    subst hu'
    refine ⟨.agg cs, ?_, fun d' hd => by cases hd; exact h⟩
    have := run_loadVar_row (P := P) W g E ty cs fr de (hr W hI) hu (by cases de <;> simp_all [TypeDesc.isRow]) hi
    simp [Instr.loadAt, Instr.sureAddr, Sem.run_bind, this]
theorem safe_cmpI {d : Tmp} {x y : Operand} {tx ty t : TypeId} {ps : String} {af : Array Edge} {gd : Option (Nat × Bool)} {k : IntKind} {op : BinOp} (f : Int → Int → Bool) (hop : ∀ p q W, Sem.run P (binOp op tx (.int k p) (.int k q)) W = .ok (.bool (f p q)) W) (hg : ∀ p q W, Sem.run P (eqGuard op tx x y (.int k p) (.int k q)) W = .ok () W) (p q : Int) (hx : Opd T x (· = .int k p)) (hy : Opd T y (· = .int k q)) (h : T d (.bool (f p q))) :
    SafeOp P T I { dst := some d, op := .binOp op tx x y ty, type := t, pos := ps, after := af, guard := gd } :=
  safe_bin _ _ hx hy fun u v W hu hv => by
    subst hu hv
    exact ⟨_, hop _ _ _, hg _ _ _, fun d' hd => by cases hd; exact h⟩
theorem safe_gtr {d : Tmp} {x y : Operand} {tx ty t : TypeId} {ps : String} {af : Array Edge} {gd : Option (Nat × Bool)} {k : IntKind} (p q : Int) (hx : Opd T x (· = .int k p)) (hy : Opd T y (· = .int k q)) (h : T d (.bool (decide (q < p)))) :
    SafeOp P T I { dst := some d, op := .binOp .gtr tx x y ty, type := t, pos := ps, after := af, guard := gd } :=
  safe_cmpI (fun p q => decide (q < p)) (fun p q W => by simp [binOp, Op.intCmp]) (fun p q W => by simp [eqGuard]) p q hx hy h
theorem safe_lss {d : Tmp} {x y : Operand} {tx ty t : TypeId} {ps : String} {af : Array Edge} {gd : Option (Nat × Bool)} {k : IntKind} (p q : Int) (hx : Opd T x (· = .int k p)) (hy : Opd T y (· = .int k q)) (h : T d (.bool (decide (p < q)))) :
    SafeOp P T I { dst := some d, op := .binOp .lss tx x y ty, type := t, pos := ps, after := af, guard := gd } :=
  safe_cmpI (fun p q => decide (p < q)) (fun p q W => by simp [binOp, Op.intCmp]) (fun p q W => by simp [eqGuard]) p q hx hy h
theorem safe_geq {d : Tmp} {x y : Operand} {tx ty t : TypeId} {ps : String} {af : Array Edge} {gd : Option (Nat × Bool)} {k : IntKind} (p q : Int) (hx : Opd T x (· = .int k p)) (hy : Opd T y (· = .int k q)) (h : T d (.bool (decide (q ≤ p)))) :
    SafeOp P T I { dst := some d, op := .binOp .geq tx x y ty, type := t, pos := ps, after := af, guard := gd } :=
  safe_cmpI (fun p q => decide (q ≤ p)) (fun p q W => by simp [binOp, Op.intCmp]) (fun p q W => by simp [eqGuard]) p q hx hy h
end
section
variable {P : Program} {Tin T T0 : Tmp → World → Value → Prop} {I : World → Prop} {R : World → World → Prop} {S : Nat → World → Prop} {Z : List Nat} {GD : List (Nat × Bool)}
/-- A whole block is written. -/
theorem safeV_storeB {x y : Operand} {ty t : TypeId} {ps : String} {af : Array Edge} {gd : Option (Nat × Bool)} {S : World → Prop} (g : Nat) (cs : Array Value) (E : TypeId) (hi : (P.info? ty).map (·.size) = some cs.size) (hx : OpdW Tin I x fun _ v => v = .pointer (some ⟨g, 0, none⟩)) (hy : OpdW Tin I y fun _ v => v = .agg cs) (h1 : cs.all (·.oneCell') = true) (hr : ∀ W, I W → ∃ old, W.heap[g]? = some (.cells old E (0, 0)) ∧ old.size = cs.size)
    (h : ∀ W, I W → R W (W.setRow g cs) ∧ I (W.setRow g cs) ∧ S (W.setRow g cs)) :
    SafeOpV P Tin T I R S { dst := none, op := .store ty x y, type := t, pos := ps, after := af, guard := gd } := by
  intro ρ w hI hT hc hf
  have hp := hx.at_ (l := #[x, y]) (by simp) hI hT hc
  have hq := hy.at_ (l := #[x, y]) (by simp) hI hT hc
  obtain ⟨old, ho, hs⟩ := hr w hI
  obtain ⟨h3, h4, h5⟩ := h w hI
  have hst : Sem.run P (Instr.storeAt ty (.pointer (some ⟨g, 0, none⟩)) (.agg cs)) w = .ok () (w.setRow g cs) := by
    have := run_storeVar_row (P := P) w g E ty old cs ho hi hs h1
    simp [Instr.storeAt, Instr.sureAddr, Sem.run_bind, this]
  simp only [execOp, Sem.run_bind, hp, hq, hst, Result.andThen_ok, Sem.run_pure]
  exact ⟨h3, h4, h5, fun d' hd => by cases hd⟩
theorem entryV {o : Oper} {i : Nat} (j : Nat) (c b : Bool) (hg : o.guard = some (j, b)) (hl : GD.lookup j = some c) (hd : c ≠ b → ∀ d, o.dst = some d → ∀ W, I W → T d W undef) (hS : ∀ W, I W → S i W) (hrun : c = b → SafeOpV P (if Z.contains i then T0 else T) T I R (S i) o) :
    (if skipX GD o then (∀ d, o.dst = some d → ∀ W, I W → T d W undef) ∧ (∀ W, I W → S i W) else SafeOpV P (if Z.contains i then T0 else T) T I R (S i) o) := by
  have : skipX GD o = (c != b) := by
    simp only [skipX, hg, hl]
    cases c <;> cases b <;> rfl
  rw [this]
  by_cases e : c = b
  · rw [if_neg (by simpa using e)]
    exact hrun e
  · rw [if_pos (by simpa using e)]
    exact ⟨hd e, hS⟩
theorem entry0 {o : Oper} {i : Nat} (hg : o.guard = none) (hrun : SafeOpV P (if Z.contains i then T0 else T) T I R (S i) o) :
    (if skipX GD o then (∀ d, o.dst = some d → ∀ W, I W → T d W undef) ∧ (∀ W, I W → S i W) else SafeOpV P (if Z.contains i then T0 else T) T I R (S i) o) := by
  have : skipX GD o = false := by simp only [skipX, hg]
  rw [this, if_neg (by decide)]
  exact hrun
end
/-- The function returns a whole block and a slot. -/
theorem ret_cell_tmp {P : Program} {fn : Func} {R : Ending → World → Prop} {p q : Tmp} {ty : TypeId} (h : fn.results = #[.cell p ty, .tmp q]) {a : Act} {w : World} (g : Nat) (t : TypeId) (cs : Array Value) (fr : Nat × Nat) (d : TypeDesc)
    (hp : a.tmps.getD p undef = .pointer (some ⟨g, 0, none⟩)) (hg : w.heap[g]? = some (.cells cs t fr)) (hu : P.underlying ty = some d) (hd : d.isRow = true) (hi : (P.info? ty).map (·.size) = some cs.size)
    (hdef : a.defers = []) (hR : R (.returned (.tuple #[.agg cs, a.tmps.getD q undef])) w) : bodyPost P fn R .ret a w := by
  refine bodyPost_ret ?_ hdef hR
  have hp' : a.tmps[p]?.getD undef = .pointer (some ⟨g, 0, none⟩) := by simpa using hp
  simp [results, h, hp', asAddr, run_loadVar_row w g t ty cs fr d hg hu (by cases d <;> simp_all [TypeDesc.isRow]) hi]
/-- A number is kept where only a block of slices is written. -/
theorem Num.keepOff {v : Value} {xs : List Nat} {w w' : World} {O : Nat} (h : Num v xs w) (hg : w.grownBy w' (some O)) {E : TypeId} {fr : Nat × Nat} (hO : w.heap[O]? = some (.cells #[.slice none 0 0, .slice none 0 0, .slice none 0 0] E fr)) : Num v xs w' := by
  obtain ⟨h0, a, cap, h1, h2, h3, h4⟩ := h
  refine ⟨h0, a, cap, h1, h2, h3, ?_⟩
  rcases h4 with h4 | ⟨g, o, h5, h6⟩
  · exact .inl h4
  · refine .inr ⟨g, o, h5, fun i x hx => ?_⟩
    have h7 := h6 i x hx
    have hlt := World.block_lt_of_cell? w _ h7
    have hne : g ≠ O := by
      intro e
      subst e
      rw [cell_of_row w g (o + i) _ E fr hO] at h7
      simp only [words, List.getElem?_map, Option.map_eq_some_iff] at hx
      obtain ⟨y, _, rfl⟩ := hx
      generalize o + i = j at h7
      rcases j with _ | _ | _ | j <;> simp at h7
    rw [World.cell?_of_block (a := ⟨g, o + i, none⟩) (hg.block g (by dsimp only at hlt; omega) (by simpa using hne))]
    exact h7
end Go.Proofs.YtcebfkhfnjbfjaaGreatDoor
namespace Go.Proofs.YtcebfkhfnjbfjaaGreatDoor
open Go.RowKit
set_option linter.unusedVariables false
set_option linter.unusedSimpArgs false
section
variable {P : Program} {v : Value} {xs : List Value} {w : World} {ty e : TypeId}
theorem size_of_info {n : Nat} (h : (P.info? e).map (·.size) = some n) : ∀ W, Sem.run P (sizeOf e) W = .ok n W := by
  intro W
  cases hq : P.info? e with
  | none => simp [hq] at h
  | some i =>
    have : i.size = n := by simpa [hq] using h
    simp [sizeOf, typeInfo, hq, this]
/-- What stands behind the first n elements: a fact for the walk. -/
theorem Sl.drop (h : Sl v xs w) (hu : P.underlying ty = some (.slice e)) (hs : (P.info? e).map (·.size) = some 1) (k : IntKind) (n : Nat) (hn : n ≤ xs.length) :
    ∃ v', (∀ W, Sem.run P (Instr.slice ty v (some (.int k (n : Int))) none none) W = .ok v' W) ∧ Sl v' (xs.drop n) w := by
  obtain ⟨a, cap, rfl, h2, h3, h4⟩ := h
  have hl : (xs.drop n).length = xs.length - n := List.length_drop
  refine ⟨.slice (if cap = n then a else a.map (·.add (n * 1))) (xs.length - n) (cap - n), fun W => ?_, ?_⟩
  · have h5 : (0 : Int) ≤ (n : Int) ∧ (n : Int) ≤ (xs.length : Int) := ⟨by omega, by omega⟩
    simp [Instr.slice, Instr.sliceBounds, Instr.sliceBound, asIntOf, run_underlying hu, h5, size_of_info hs W]
    omega
  · rcases h4 with ⟨rfl, rfl⟩ | ⟨g, o, rfl, h6⟩
    · simp only [List.length_nil] at hn
      obtain rfl : n = 0 := by omega
      exact ⟨none, cap - 0, by simp, by simp, by simpa using h3, .inl ⟨by simp, rfl⟩⟩
    · refine ⟨_, _, by rw [hl], by omega, by omega, .inr ?_⟩
      by_cases hc : cap = n
      · refine ⟨g, o, by simp [hc], fun i x hx => ?_⟩
        have := (List.getElem?_eq_some_iff.1 hx).1
        omega
      · refine ⟨g, o + n, by rw [if_neg hc]; simp [Addr.add_mid], fun i x hx => ?_⟩
        rw [List.getElem?_drop] at hx
        rw [Nat.add_assoc]
        exact h6 _ _ hx
/-- The first n elements: a fact for the walk. -/
theorem Sl.takeF (h : Sl v xs w) (hu : P.underlying ty = some (.slice e)) (hs : (P.info? e).map (·.size) = some 1) (k : IntKind) (n : Nat) (hn : n ≤ xs.length) :
    ∃ v', (∀ W, Sem.run P (Instr.slice ty v none (some (.int k (n : Int))) none) W = .ok v' W) ∧ Sl v' (xs.take n) w := by
  obtain ⟨a, cap, rfl, h2, h3, h4⟩ := h
  have hs' : Sl (.slice a xs.length cap) xs w := ⟨a, cap, rfl, h2, h3, h4⟩
  refine ⟨.slice a n cap, fun W => ?_, hs'.take n hn⟩
  have h5 : (0 : Int) ≤ (n : Int) ∧ (n : Int) ≤ (cap : Int) := ⟨by omega, by omega⟩
  have h6 : n ≤ cap := by omega
  have h7 : (if cap = 0 then a else Option.map (fun x => x.add 0) a) = a := by
    split
    · rfl
    · cases a <;> simp [Addr.add]
  simp [Instr.slice, Instr.sliceBounds, Instr.sliceBound, asIntOf, run_underlying hu, h5, h6, size_of_info hs W, h7]
end
theorem size9 : (Tryz.prog.info? 9).map (·.size) = some 1 := by kernel_rfl
/-- A byte of a slice of bytes. -/
theorem Sl.byte {v : Value} {l : List UInt8} {w : World} (h : Sl v (bs l) w) {i : Nat} (hi : i < l.length) : ∃ g o cap, v = .slice (some ⟨g, o, none⟩) l.length cap ∧ w.cell? ⟨g, o + i, none⟩ = some (.int .u8 (((l.getD i 0).toNat : Nat) : Int)) := by
  obtain ⟨g, o, cap, e, hc⟩ := h.cell (i := i) (x := .int .u8 (((l.getD i 0).toNat : Nat) : Int)) (by
    simp only [bs, List.getElem?_map, List.getElem?_eq_getElem hi, Option.map_some, List.getD_eq_getElem?_getD, Option.getD_some])
  exact ⟨g, o, cap, by rw [e]; simp [bs], hc⟩
theorem Sl.lenB {v : Value} {l : List UInt8} {w : World} (h : Sl v (bs l) w) : ∃ a cap, v = .slice a l.length cap := by
  obtain ⟨a, cap, e, _⟩ := h
  exact ⟨a, cap, by rw [e]; simp [bs]⟩
/-- An error is returned. -/
def ErrE (e : Ending) : Prop := ∃ d x, e = .returned (.iface d x)
set_option maxHeartbeats 1000000 in
set_option maxRecDepth 100000 in
theorem newErr_any (s : ByteArray) (w : World) :
    Calls Tryz.prog 83 #[.string s] w fun e w' => ErrE e ∧ Below w.heap.size w w' := by
  have hbel := (Below.refl w.heap.size w).alloc (Nat.le_refl _) (.cells #[.string s] 160)
  go_enter Tryz.func83, Tryz.ntmps83
  go_wp2
  go_ret
  exact ⟨⟨_, _, rfl⟩, hbel⟩
theorem results_tmp4 {fn : Func} {t u v x : Tmp} (h : fn.results = #[.tmp t, .tmp u, .tmp v, .tmp x]) (tmps : Array Value) (P : Program) (w : World) :
    (results fn tmps).run P w = .ok (.tuple #[tmps.getD t undef, tmps.getD u undef, tmps.getD v undef, tmps.getD x undef]) w := by
  simp [results, h]
end Go.Proofs.YtcebfkhfnjbfjaaGreatDoor
