/- A region that draws its order, by kinds: whatever the order, each slot that it writes is of its kind, and what holds of the world holds behind it. A region that draws its order and makes memory, by kinds: G is the list of the blocks that it has made so far. Contracts of shape for the reference's arithmetic of Curve25519: each call returns and hands back a value of the right shape. -/
import Derived.Test.YtcebfkhfnjbfjaaGreatDoorC01
import Derived.Orders
namespace Go.Proofs.YtcebfkhfnjbfjaaGreatDoor
open Go.RowKit
section
variable {P : Program}

/-- What one operation leaves. -/
def Good (P : Program) (T : Tmp → Value → Prop) (I : World → Prop) (dst : Option Tmp) : Result Next → Prop
  | .ok (.value v) w' => I w' ∧ ∀ d, dst = some d → T d v
  | .ok .skip w' => I w' ∧ ∀ d, dst = some d → T d undef
  | .ok (.enter f args) w' => Calls P f args w' fun e w'' => ∃ v, e = .returned v ∧ I w'' ∧ ∀ d, dst = some d → T d v
  | _ => False
/-- The operation is safe: from operands of their kinds it comes to a value of its kind. -/
def SafeOp (P : Program) (T : Tmp → Value → Prop) (I : World → Prop) (o : Oper) : Prop :=
  ∀ (ρ : Operand → Value) (w : World), I w → (∀ u, .tmp u ∈ o.op.operands → T u (ρ (.tmp u))) → (∀ v, ρ (.const v) = v) → (∀ f, ρ (.func f) = .func (.func f) #[] #[]) → Good P T I o.dst (Sem.run P (execOp ρ o) w)
def AllSafe (P : Program) (T : Tmp → Value → Prop) (I : World → Prop) : List Oper → Prop
  | [] => True
  | o :: r => SafeOp P T I o ∧ AllSafe P T I r
theorem AllSafe.mem {T : Tmp → Value → Prop} {I : World → Prop} : ∀ {l : List Oper}, AllSafe P T I l → ∀ o ∈ l, SafeOp P T I o
  | [], _, o, h => by simp at h
  | x :: r, h, o, ho => by
    rcases List.mem_cons.1 ho with rfl | ho
    · exact h.1
    · exact h.2.mem o ho

/-- The slots that a region writes. -/
def dstsOf (ops : Array Oper) : List Tmp := ops.toList.filterMap (·.dst)
/-- The slots that an operation reads. -/
def readsOf (o : Oper) : List Tmp := o.op.operands.toList.filterMap fun | .tmp t => some t | _ => none
/-- The slots that a region reads and does not write. -/
def outReads (ops : Array Oper) : List Tmp := (ops.toList.flatMap readsOf).filter fun u => !(dstsOf ops).contains u
/-- No guards; what an operation reads of the region's own slots stands behind its writer; edges lead back. -/
def regionOk (ops : Array Oper) (n : Nat) : Bool :=
  (dstsOf ops).all (· < n) &&
  ops.toList.zipIdx.all fun (o, i) =>
    o.guard.isNone &&
    (o.after.toList.all fun e => !Region.binds .any e || decide (e.on < i)) &&
    (readsOf o).all fun u => !(dstsOf ops).contains u || (o.after.toList.any fun e => Region.binds .any e && (ops[e.on]?).any fun x => x.dst == some u)
def putAll (t : Array Value) : List Tmp → (Tmp → Value) → Array Value
  | [], _ => t
  | d :: r, f => (putAll t r f).setIfInBounds d (f d)

theorem putAll_size (t : Array Value) (f : Tmp → Value) : ∀ D : List Tmp, (putAll t D f).size = t.size
  | [] => rfl
  | d :: r => by simp [putAll, putAll_size t f r]
theorem putAll_get (t : Array Value) (f : Tmp → Value) (u : Nat) (hu : u < t.size) : ∀ D : List Tmp, (putAll t D f)[u]? = if u ∈ D then some (f u) else t[u]?
  | [] => by simp [putAll]
  | d :: r => by
    rw [putAll, Array.getElem?_setIfInBounds]
    by_cases e : d = u
    · subst e; simp [putAll_size, hu]
    · rw [if_neg e, putAll_get t f u hu r]
      by_cases h : u ∈ r
      · simp [h]
      · simp [h, Ne.symm e]

structure RInv (ops : Array Oper) (T : Tmp → Value → Prop) (I : World → Prop) (a0 : Act) (listed : Array Bool) (a : Act) (w : World) : Prop where
  world : I w
  defers : a.defers = a0.defers
  size : a.tmps.size = a0.tmps.size
  other : ∀ u, u ∉ dstsOf ops → a.tmps[u]? = a0.tmps[u]?
  kind : ∀ i o d, ops[i]? = some o → o.dst = some d → listed.getD i false = true → T d (a.tmps.getD d undef)

theorem mem_dstsOf {ops : Array Oper} {i : Nat} {o : Oper} {d : Tmp} (h : ops[i]? = some o) (hd : o.dst = some d) : d ∈ dstsOf ops := by
  refine List.mem_filterMap.2 ⟨o, ?_, hd⟩
  rw [Array.mem_toList_iff]
  exact Array.mem_of_getElem? h

theorem getD_ite (listed : Array Bool) (i j : Nat) (hi : i < listed.size) : (listed.setIfInBounds i true).getD j false = if i = j then true else listed.getD j false := by
  by_cases e : i = j
  · subst e; simp [hi]
  · simp [e]

/-- How many are still to come. -/
def toCome (listed : Array Bool) : Nat := listed.toList.countP (· == false)
theorem toCome_set {listed : Array Bool} {i : Nat} (h : listed[i]? = some false) : toCome (listed.setIfInBounds i true) + 1 = toCome listed := by
  have hi : i < listed.size := (Array.getElem?_eq_some_iff.1 h).1
  unfold toCome
  rw [Array.toList_setIfInBounds]
  have hl : i < listed.toList.length := by simpa using hi
  have h2 : listed.toList[i] = false := by
    have := (Array.getElem?_eq_some_iff.1 h).2
    simpa using this
  rw [List.countP_set hl, h2]
  have h0 : 0 < List.countP (fun x => x == false) listed.toList := List.countP_pos_iff.2 ⟨listed.toList[i], List.getElem_mem hl, by simp [h2]⟩
  simp only [beq_self_eq_true, if_true]
  rw [if_neg (by simp)]
  omega

theorem wpAny_typed {ops : Array Oper} {Q : Exit → Act → World → Prop} {T : Tmp → Value → Prop} {I : World → Prop} {a0 : Act} (hok : regionOk ops a0.tmps.size = true)
    (h0 : ∀ u, u ∈ outReads ops → T u (a0.tmps.getD u undef)) (hs : AllSafe P T I ops.toList)
    (hQ : ∀ (f : Tmp → Value) (w' : World), I w' → (∀ d, d ∈ dstsOf ops → T d (f d)) → Q .normal ⟨putAll a0.tmps (dstsOf ops) f, a0.defers⟩ w') :
    ∀ (fuel : Nat) (listed : Array Bool) (a : Act) (w : World), listed.size = ops.size → toCome listed ≤ fuel → RInv ops T I a0 listed a w → wpAny P .any ops Q fuel listed a w := by
  have hok' : (∀ d ∈ dstsOf ops, d < a0.tmps.size) ∧ ∀ i o, ops[i]? = some o → o.guard = none ∧ (∀ e ∈ o.after, Region.binds .any e = true → e.on < i) ∧
      ∀ u ∈ readsOf o, u ∈ dstsOf ops → ∃ e ∈ o.after, Region.binds .any e = true ∧ ∃ x, ops[e.on]? = some x ∧ x.dst = some u := by
    simp only [regionOk, Bool.and_eq_true, List.all_eq_true, decide_eq_true_eq] at hok
    refine ⟨hok.1, fun i o ho => ?_⟩
    have hm : (o, i) ∈ ops.toList.zipIdx := by
      rw [List.mem_zipIdx_iff_getElem?]
      simpa using ho
    obtain ⟨⟨h1, h2⟩, h3⟩ := hok.2 _ hm
    refine ⟨by simpa using h1, fun e he hb => ?_, fun u hu hd => ?_⟩
    · have := h2 e (by simpa using he)
      simpa [hb] using this
    · have := h3 u hu
      simp only [Bool.or_eq_true, Bool.not_eq_true', List.any_eq_true, Bool.and_eq_true] at this
      rcases this with h | ⟨e, he, hb, hx⟩
      · simp [hd] at h
      · obtain ⟨x, hx1, hx2⟩ : ∃ x, ops[e.on]? = some x ∧ x.dst = some u := by
          cases hq : ops[e.on]? with
          | none => simp [hq] at hx
          | some x => exact ⟨x, rfl, by simpa [hq] using hx⟩
        exact ⟨e, by simpa using he, hb, x, hx1, hx2⟩
  -- behind the last one
  have hend : ∀ (listed : Array Bool) (a : Act) (w : World), listed.size = ops.size → Region.ready .any ops listed = [] → RInv ops T I a0 listed a w → Q .normal a w := by
    intro listed a w hl hr hi
    have hall : ∀ i, i < ops.size → listed.getD i false = true := by
      intro i
      induction i using Nat.strongRecOn with
      | _ i ih =>
        intro hlt
        by_cases hq : listed.getD i false = true
        · exact hq
        · have : i ∈ Region.ready .any ops listed := mem_ready.2 ⟨by
            have : i < listed.size := by omega
            simp only [Array.getD_eq_getD_getElem?, Array.getElem?_eq_getElem this, Option.getD_some] at hq ⊢
            simpa using hq, ops[i], Array.getElem?_eq_getElem hlt, fun e he hb => ih e.on ((hok'.2 i _ (Array.getElem?_eq_getElem hlt)).2.1 e he hb) (by
              have := (hok'.2 i _ (Array.getElem?_eq_getElem hlt)).2.1 e he hb
              omega)⟩
          rw [hr] at this
          simp at this
    have e : a = ⟨putAll a0.tmps (dstsOf ops) (fun u => a.tmps.getD u undef), a0.defers⟩ := by
      obtain ⟨t, df⟩ := a
      have h1 := hi.defers
      have h2 := hi.size
      have h3 := hi.other
      dsimp only at h1 h2 h3
      subst h1
      congr 1
      apply Array.ext_getElem?
      intro u
      by_cases hu : u < a0.tmps.size
      · rw [putAll_get _ _ _ hu]
        split
        · have hu' : u < t.size := by omega
          simp [Array.getElem?_eq_getElem hu']
        · exact h3 u (by assumption)
      · rw [Array.getElem?_eq_none (by omega), Array.getElem?_eq_none (by rw [putAll_size]; omega)]
    rw [e]
    refine hQ _ _ hi.world fun d hd => ?_
    obtain ⟨o, ho, hod⟩ := List.mem_filterMap.1 hd
    obtain ⟨i, hi', he⟩ := List.mem_iff_getElem.1 ho
    have hi2 : i < ops.size := by simpa using hi'
    exact hi.kind i o d (by rw [Array.getElem?_eq_getElem hi2, ← he]; simp) hod (hall i hi2)
  intro fuel
  induction fuel with
  | zero =>
    intro listed a w hl hc hi
    have hr : Region.ready .any ops listed = [] := by
      cases hq : Region.ready .any ops listed with
      | nil => rfl
      | cons i r =>
        have hm : i ∈ Region.ready .any ops listed := by rw [hq]; simp
        obtain ⟨hl1, o, ho, _⟩ := mem_ready.1 hm
        have hlt : i < ops.size := (Array.getElem?_eq_some_iff.1 ho).1
        have hlt' : i < listed.size := by omega
        have : 0 < toCome listed := List.countP_pos_iff.2 ⟨listed[i], by simp, by
          simp only [Array.getD_eq_getD_getElem?, Array.getElem?_eq_getElem hlt', Option.getD_some] at hl1
          simp [hl1]⟩
        omega
    exact ⟨hr, hend listed a w hl hr hi⟩
  | succ fuel ih =>
    intro listed a w hl hc hi
    refine ⟨fun hr => hend listed a w hl hr hi, fun i hm => ?_⟩
    obtain ⟨hl1, o, ho, hdep⟩ := mem_ready.1 hm
    have hlt : i < ops.size := (Array.getElem?_eq_some_iff.1 ho).1
    have hlt' : i < listed.size := by omega
    have hfalse : listed[i]? = some false := by
      simp only [Array.getD_eq_getD_getElem?, Array.getElem?_eq_getElem hlt', Option.getD_some] at hl1
      rw [Array.getElem?_eq_getElem hlt', hl1]
    obtain ⟨hg, hback, hread⟩ := hok'.2 i o ho
    have hsafe := hs.mem o (by rw [Array.mem_toList_iff]; exact Array.mem_of_getElem? ho)
    have hgood := hsafe a.eval w hi.world (fun u hu => by
      have hu' : u ∈ readsOf o := List.mem_filterMap.2 ⟨.tmp u, by simpa using hu, rfl⟩
      show T u (a.tmps.getD u undef)
      by_cases hd : u ∈ dstsOf ops
      · obtain ⟨e, he, hb, x, hx, hxd⟩ := hread u hu' hd
        exact hi.kind e.on x u hx hxd (hdep e he hb)
      · have := h0 u (List.mem_filter.2 ⟨List.mem_flatMap.2 ⟨o, by rw [Array.mem_toList_iff]; exact Array.mem_of_getElem? ho, hu'⟩, by simpa using hd⟩)
        rw [Array.getD_eq_getD_getElem?, hi.other u hd, ← Array.getD_eq_getD_getElem?]
        exact this) (fun _ => rfl) (fun _ => rfl)
    -- behind it
    have hnext : ∀ (v : Value) (w' : World), I w' → (∀ d, o.dst = some d → T d v) → wpAny P .any ops Q fuel (listed.setIfInBounds i true) (a.put o.dst v) w' := by
      intro v w' hI hT
      refine ih _ _ _ (by simpa using hl) (by have := toCome_set hfalse; omega) ⟨hI, ?_, ?_, ?_, ?_⟩
      · cases o.dst <;> exact hi.defers
      · cases hd : o.dst <;> simp [Act.put, hi.size]
      · intro u hu
        cases hd : o.dst with
        | none => exact hi.other u hu
        | some d =>
          have hne : d ≠ u := fun e => hu (by subst e; exact mem_dstsOf ho hd)
          simp only [Act.put]
          rw [Array.getElem?_setIfInBounds_ne hne]
          exact hi.other u hu
      · intro j oj d hj hjd hlj
        rw [getD_ite _ _ _ hlt'] at hlj
        cases hd : o.dst with
        | none =>
          by_cases e : i = j
          · subst e; rw [ho] at hj; cases hj; rw [hd] at hjd; cases hjd
          · rw [if_neg e] at hlj
            exact hi.kind j oj d hj hjd hlj
        | some d' =>
          by_cases e : d' = d
          · subst e
            have : d' < a.tmps.size := by rw [hi.size]; exact hok'.1 _ (mem_dstsOf ho hd)
            simp only [Act.put, Array.getD_eq_getD_getElem?, Array.getElem?_setIfInBounds_self_of_lt this, Option.getD_some]
            exact hT d' hd
          · have hij : i ≠ j := fun e' => by subst e'; rw [ho] at hj; cases hj; rw [hd] at hjd; cases hjd; exact e rfl
            rw [if_neg hij] at hlj
            have := hi.kind j oj d hj hjd hlj
            simp only [Act.put, Array.getD_eq_getD_getElem?] at this ⊢
            rw [Array.getElem?_setIfInBounds_ne e]
            exact this
    unfold wpOp
    simp only [ho]
    have hw : Region.wanted o (yielded ops a.tmps) = true := by simp [Region.wanted, hg]
    rw [if_pos hw]
    left
    unfold Oper.wp
    revert hgood
    generalize Sem.run P (execOp a.eval o) w = r
    intro hgood
    cases r with
    | halt h w' => exact absurd hgood (by simp [Good])
    | ok n w' =>
      cases n <;> simp only [Good] at hgood
      case value v => exact hnext v w' hgood.1 hgood.2
      case skip => exact hnext undef w' hgood.1 hgood.2
      case enter f args =>
        refine Calls.mono hgood fun e w'' he => ?_
        obtain ⟨v, rfl, hI, hT⟩ := he
        exact hnext v w'' hI hT

/-- THE REGION. -/
theorem wp_region_typed {id : Nat} {ops : Array Oper} {Q : Exit → Act → World → Prop} {a : Act} {w : World} (hm : P.follows .mixedOrders = true) (T : Tmp → Value → Prop) (I : World → Prop)
    (hok : regionOk ops a.tmps.size = true) (D : List Tmp) (hD : dstsOf ops = D) (U : List Tmp) (hU : outReads ops = U)
    (h0 : ∀ u, u ∈ U → T u (a.tmps.getD u undef)) (hI : I w.drew) (hs : AllSafe P T I ops.toList)
    (hQ : ∀ (f : Tmp → Value) (w' : World), I w' → (∀ d, d ∈ D → T d (f d)) → Q .normal ⟨putAll a.tmps D f, a.defers⟩ w') : (Code.region id ops true).wp P Q a w := by
  subst hD hU
  refine wp_region_any hm (wpAny_typed hok h0 hs hQ _ _ _ _ (by simp) ?_ ⟨hI, rfl, rfl, fun _ _ => rfl, fun i o d _ _ h => ?_⟩)
  · exact Nat.le_trans List.countP_le_length (by simp)
  · by_cases hi : i < ops.size <;> simp [hi] at h

/-! ### Safe operations, by their form -/
section
variable {T : Tmp → Value → Prop} {I : World → Prop}
/-- The operand is of the kind p. -/
def Opd (T : Tmp → Value → Prop) (x : Operand) (p : Value → Prop) : Prop :=
  match x with
  | .tmp u => ∀ v, T u v → p v
  | .const c => p c
  | _ => False
theorem Opd.at_ {x : Operand} {p : Value → Prop} (h : Opd T x p) {ρ : Operand → Value} {l : Array Operand} (hl : x ∈ l) (hT : ∀ u, .tmp u ∈ l → T u (ρ (.tmp u))) (hc : ∀ v, ρ (.const v) = v) : p (ρ x) := by
  cases x with
  | tmp u => exact h _ (hT u hl)
  | const c => rw [hc]; exact h
  | global g => exact absurd h (by simp [Opd])
  | func f => exact absurd h (by simp [Opd])
theorem safe_move {dst : Option Tmp} {x : Operand} {t : TypeId} {ps : String} {af : Array Edge} {gd : Option (Nat × Bool)} (h : ∀ d, dst = some d → Opd T x (T d)) :
    SafeOp P T I { dst := dst, op := .move x, type := t, pos := ps, after := af, guard := gd } := by
  intro ρ w hI hT hc hf
  exact ⟨hI, fun d hd => (h d hd).at_ (l := #[x]) (by simp) hT hc⟩
theorem safe_assign {dst : Option Tmp} {x : Operand} {t : TypeId} {ps : String} {af : Array Edge} {gd : Option (Nat × Bool)} (h : ∀ d, dst = some d → Opd T x (T d)) :
    SafeOp P T I { dst := dst, op := .assign x, type := t, pos := ps, after := af, guard := gd } := by
  intro ρ w hI hT hc hf
  exact ⟨hI, fun d hd => (h d hd).at_ (l := #[x]) (by simp) hT hc⟩
/-- An operation of two operands that computes. -/
theorem safe_bin {dst : Option Tmp} {op : BinOp} {x y : Operand} {tx ty t : TypeId} {ps : String} {af : Array Edge} {gd : Option (Nat × Bool)} (p q : Value → Prop) (hx : Opd T x p) (hy : Opd T y q)
    (h : ∀ a b W, p a → q b → ∃ v, Sem.run P (binOp op tx a b) W = .ok v W ∧ (Sem.run P (eqGuard op tx x y a b) W = .ok () W) ∧ ∀ d, dst = some d → T d v) :
    SafeOp P T I { dst := dst, op := .binOp op tx x y ty, type := t, pos := ps, after := af, guard := gd } := by
  intro ρ w hI hT hc hf
  have hp := hx.at_ (l := #[x, y]) (by simp) hT hc
  have hq := hy.at_ (l := #[x, y]) (by simp) hT hc
  obtain ⟨v, h1, h2, h3⟩ := h _ _ w hp hq
  simp only [execOp, Sem.run_bind, h1, h2, Result.andThen_ok, Sem.run_pure]
  exact ⟨hI, h3⟩
/-- A load, whatever it needs of the world. -/
theorem safe_load {dst : Option Tmp} {x : Operand} {ty t : TypeId} {ps : String} {af : Array Edge} {gd : Option (Nat × Bool)} (p : Value → Prop) (hx : Opd T x p)
    (h : ∀ a W, I W → p a → ∃ v, Sem.run P (Instr.loadAt ty a) W = .ok v W ∧ ∀ d, dst = some d → T d v) :
    SafeOp P T I { dst := dst, op := .load ty x, type := t, pos := ps, after := af, guard := gd } := by
  intro ρ w hI hT hc hf
  have hp := hx.at_ (l := #[x]) (by simp) hT hc
  obtain ⟨v, h1, h3⟩ := h _ w hI hp
  simp only [execOp, Sem.run_bind, h1, Result.andThen_ok, Sem.run_pure]
  exact ⟨hI, h3⟩
theorem safe_store {dst : Option Tmp} {x y : Operand} {ty t : TypeId} {ps : String} {af : Array Edge} {gd : Option (Nat × Bool)} (p q : Value → Prop) (hx : Opd T x p) (hy : Opd T y q)
    (h : ∀ a b W, I W → p a → q b → ∃ W', Sem.run P (Instr.storeAt ty a b) W = .ok () W' ∧ I W' ∧ ∀ d, dst = some d → T d undef) :
    SafeOp P T I { dst := dst, op := .store ty x y, type := t, pos := ps, after := af, guard := gd } := by
  intro ρ w hI hT hc hf
  have hp := hx.at_ (l := #[x, y]) (by simp) hT hc
  have hq := hy.at_ (l := #[x, y]) (by simp) hT hc
  obtain ⟨W', h1, h2, h3⟩ := h _ _ w hI hp hq
  simp only [execOp, Sem.run_bind, h1, Result.andThen_ok, Sem.run_pure]
  exact ⟨h2, h3⟩
theorem safe_indexAddr {dst : Option Tmp} {x y : Operand} {ty t : TypeId} {ps : String} {af : Array Edge} {gd : Option (Nat × Bool)} (p q : Value → Prop) (hx : Opd T x p) (hy : Opd T y q)
    (h : ∀ a b W, p a → q b → ∃ v, Sem.run P (Instr.indexAt ty a b) W = .ok v W ∧ ∀ d, dst = some d → T d v) :
    SafeOp P T I { dst := dst, op := .indexAddr ty x y, type := t, pos := ps, after := af, guard := gd } := by
  intro ρ w hI hT hc hf
  have hp := hx.at_ (l := #[x, y]) (by simp) hT hc
  have hq := hy.at_ (l := #[x, y]) (by simp) hT hc
  obtain ⟨v, h1, h3⟩ := h _ _ w hp hq
  simp only [execOp, Sem.run_bind, h1, Result.andThen_ok, Sem.run_pure]
  exact ⟨hI, h3⟩
theorem safe_call1 {dst : Option Tmp} {f : FuncId} {x : Operand} {ats : Array TypeId} {t : TypeId} {ps : String} {af : Array Edge} {gd : Option (Nat × Bool)} (p : Value → Prop) (hx : Opd T x p)
    (hcall : ∀ args W, Sem.run P (callFunc f args) W = .ok (.enter f args) W)
    (h : ∀ a W, I W → p a → Calls P f #[a] W fun e w' => ∃ v, e = .returned v ∧ I w' ∧ ∀ d, dst = some d → T d v) :
    SafeOp P T I { dst := dst, op := .call { callee := .value (.func f), args := #[x], argTypes := ats }, type := t, pos := ps, after := af, guard := gd } := by
  intro ρ w hI hT hc hf
  have hp := hx.at_ (l := #[.func f, x]) (ρ := ρ) (by simp) (fun u hu => hT u (by simpa [Op.operands, Call.operands] using hu)) hc
  have e : execOp ρ { dst := dst, op := .call { callee := .value (.func f), args := #[x], argTypes := ats }, type := t, pos := ps, after := af, guard := gd } = callFunc f #[ρ x] := by
    simp [execOp, resolve, hf, Deferred.ofValue, invoke]
  rw [e, hcall]
  exact h _ w hI hp
theorem safe_call2 {dst : Option Tmp} {f : FuncId} {x y : Operand} {ats : Array TypeId} {t : TypeId} {ps : String} {af : Array Edge} {gd : Option (Nat × Bool)} (p q : Value → Prop) (hx : Opd T x p) (hy : Opd T y q)
    (hcall : ∀ args W, Sem.run P (callFunc f args) W = .ok (.enter f args) W)
    (h : ∀ a b W, I W → p a → q b → Calls P f #[a, b] W fun e w' => ∃ v, e = .returned v ∧ I w' ∧ ∀ d, dst = some d → T d v) :
    SafeOp P T I { dst := dst, op := .call { callee := .value (.func f), args := #[x, y], argTypes := ats }, type := t, pos := ps, after := af, guard := gd } := by
  intro ρ w hI hT hc hf
  have hp := hx.at_ (l := #[.func f, x, y]) (ρ := ρ) (by simp) (fun u hu => hT u (by simpa [Op.operands, Call.operands] using hu)) hc
  have hq := hy.at_ (l := #[.func f, x, y]) (ρ := ρ) (by simp) (fun u hu => hT u (by simpa [Op.operands, Call.operands] using hu)) hc
  have e : execOp ρ { dst := dst, op := .call { callee := .value (.func f), args := #[x, y], argTypes := ats }, type := t, pos := ps, after := af, guard := gd } = callFunc f #[ρ x, ρ y] := by
    simp [execOp, resolve, hf, Deferred.ofValue, invoke]
  rw [e, hcall]
  exact h _ _ w hI hp hq
end
end
/-- A number of the field: 16 numbers. -/
def IsF (v : Value) : Prop := ∃ cs, v = .agg cs ∧ Ints .i64 16 cs
theorem run_callGo {P : Program} {f : FuncId} {fn : Func} (hf : P.funcs[f]? = some fn) (hname : (fn.name == "runtime.NumGoroutine") = false) (hb : fn.body.isNone = false) (args : Array Value) (W : World) :
    Sem.run P (callFunc f args) W = .ok (.enter f args) W := by
  have h1 : fn.name ≠ "runtime.NumGoroutine" := by simpa using hname
  have h2 : fn.body ≠ none := fun e => by simp [e] at hb
  simp [callFunc, hf, h1, h2]
section
variable {P : Program} (tx : TypeId) (k : IntKind) (a b : Int) (x y : Operand) (W : World)
theorem run_add_int : Sem.run P (binOp .add tx (.int k a) (.int k b)) W = .ok (.int k (k.wrap (a + b))) W := by simp [binOp, Op.intArith]
theorem run_sub_int : Sem.run P (binOp .sub tx (.int k a) (.int k b)) W = .ok (.int k (k.wrap (a - b))) W := by simp [binOp, Op.intArith]
theorem run_mul_int : Sem.run P (binOp .mul tx (.int k a) (.int k b)) W = .ok (.int k (k.wrap (a * b))) W := by simp [binOp, Op.intArith]
theorem run_bits_int (op : BinOp) (h : op = .and ∨ op = .or ∨ op = .xor ∨ op = .andNot) : ∃ c, Sem.run P (binOp op tx (.int k a) (.int k b)) W = .ok (.int k c) W := by
  rcases h with rfl | rfl | rfl | rfl <;> exact ⟨_, by simp [binOp, Op.intBits]; rfl⟩
theorem guard_other (op : BinOp) (h : op ≠ .eql ∧ op ≠ .neq) (u v : Value) : Sem.run P (eqGuard op tx x y u v) W = .ok () W := by
  cases op <;> first | exact absurd rfl h.1 | exact absurd rfl h.2 | simp [eqGuard]
end
theorem run_indexAt_arr {P : Program} {ty elem : TypeId} {len sz : Nat} (hu : P.underlying ty = some (.array len elem)) (hsz : (P.info? elem).map (·.size) = some sz) (g o : Nat) (k : IntKind) (i : Int) (h0 : 0 ≤ i) (h1 : i < len) (W : World) :
    Sem.run P (Instr.indexAt ty (.pointer (some ⟨g, o, none⟩)) (.int k i)) W = .ok (.pointer (some ⟨g, o + i.toNat * sz, none⟩)) W := by
  cases hq : P.info? elem with
  | none => simp [hq] at hsz
  | some inf =>
    have hs : inf.size = sz := by simpa [hq] using hsz
    simp [Instr.indexAt, asIntOf, Instr.sureAddr, run_underlying hu, h0, h1, sizeOf, typeInfo, hq, hs, Addr.add_mid]
section
variable {P : Program} {T : Tmp → Value → Prop} {I : World → Prop}
theorem safe_convert {dst : Option Tmp} {x : Operand} {src to_ t : TypeId} {ps : String} {af : Array Edge} {gd : Option (Nat × Bool)} (p : Value → Prop) (hx : Opd T x p)
    (h : ∀ a W, p a → ∃ v, Sem.run P (convert src to_ a) W = .ok v W ∧ ∀ d, dst = some d → T d v) :
    SafeOp P T I { dst := dst, op := .convert src to_ x, type := t, pos := ps, after := af, guard := gd } := by
  intro ρ w hI hT hc hf
  have hp := hx.at_ (l := #[x]) (by simp) hT hc
  obtain ⟨v, h1, h3⟩ := h _ w hp
  simp only [execOp, Sem.run_bind, h1, Result.andThen_ok, Sem.run_pure]
  exact ⟨hI, h3⟩
/-- The usual ones. -/
theorem safe_sub {d : Tmp} {x y : Operand} {tx ty t : TypeId} {ps : String} {af : Array Edge} {gd : Option (Nat × Bool)} {k : IntKind} (a b : Int) (hx : Opd T x (· = .int k a)) (hy : Opd T y (· = .int k b)) (h : T d (.int k (k.wrap (a - b)))) :
    SafeOp P T I { dst := some d, op := .binOp .sub tx x y ty, type := t, pos := ps, after := af, guard := gd } :=
  safe_bin _ _ hx hy fun u v W hu hv => by
  subst hu hv
  exact ⟨_, run_sub_int _ _ _ _ _, guard_other _ _ _ _ _ ⟨by simp, by simp⟩ _ _, fun d' hd => by cases hd; exact h⟩
theorem safe_add {d : Tmp} {x y : Operand} {tx ty t : TypeId} {ps : String} {af : Array Edge} {gd : Option (Nat × Bool)} {k : IntKind} (a b : Int) (hx : Opd T x (· = .int k a)) (hy : Opd T y (· = .int k b)) (h : T d (.int k (k.wrap (a + b)))) :
    SafeOp P T I { dst := some d, op := .binOp .add tx x y ty, type := t, pos := ps, after := af, guard := gd } :=
  safe_bin _ _ hx hy fun u v W hu hv => by
  subst hu hv
  exact ⟨_, run_add_int _ _ _ _ _, guard_other _ _ _ _ _ ⟨by simp, by simp⟩ _ _, fun d' hd => by cases hd; exact h⟩
theorem safe_mul {d : Tmp} {x y : Operand} {tx ty t : TypeId} {ps : String} {af : Array Edge} {gd : Option (Nat × Bool)} {k : IntKind} (a b : Int) (hx : Opd T x (· = .int k a)) (hy : Opd T y (· = .int k b)) (h : T d (.int k (k.wrap (a * b)))) :
    SafeOp P T I { dst := some d, op := .binOp .mul tx x y ty, type := t, pos := ps, after := af, guard := gd } :=
  safe_bin _ _ hx hy fun u v W hu hv => by
  subst hu hv
  exact ⟨_, run_mul_int _ _ _ _ _, guard_other _ _ _ _ _ ⟨by simp, by simp⟩ _ _, fun d' hd => by cases hd; exact h⟩
/-- The place of an element of an array. -/
theorem safe_place {d : Tmp} {x y : Operand} {ty t elem : TypeId} {len sz : Nat} {ps : String} {af : Array Edge} {gd : Option (Nat × Bool)} {k : IntKind} (hu : P.underlying ty = some (.array len elem)) (hsz : (P.info? elem).map (·.size) = some sz)
    (g o : Nat) (i : Int) (hx : Opd T x (· = .pointer (some ⟨g, o, none⟩))) (hy : Opd T y (· = .int k i)) (h0 : 0 ≤ i) (h1 : i < len) (h : T d (.pointer (some ⟨g, o + i.toNat * sz, none⟩))) :
    SafeOp P T I { dst := some d, op := .indexAddr ty x y, type := t, pos := ps, after := af, guard := gd } :=
  safe_indexAddr _ _ hx hy fun u v W hu' hv => by
  subst hu' hv
  exact ⟨_, run_indexAt_arr hu hsz g o k i h0 h1 W, fun d' hd => by cases hd; exact h⟩
/-- A whole value out of a row. -/
theorem safe_loadRow {d : Tmp} {x : Operand} {ty t : TypeId} {ps : String} {af : Array Edge} {gd : Option (Nat × Bool)} {Pp : Nat → Value → Prop} {n E m : Nat} {de : TypeDesc} (hu : P.underlying ty = some de) (hd : de.isRow = true) (hi : (P.info? ty).map (·.size) = some m)
    (g o : Nat) (hx : Opd T x (· = .pointer (some ⟨g, o, none⟩))) (hom : o + m ≤ n) (hr : ∀ W, I W → Row Pp n E g W) (h : ∀ cs, Cells (fun i => Pp (o + i)) m cs → T d (.agg cs)) :
    SafeOp P T I { dst := some d, op := .load ty x, type := t, pos := ps, after := af, guard := gd } :=
  safe_load _ hx fun u W hI hu' => by
    obtain ⟨cs, h1, h2⟩ := (hr W hI).load o m hom hu hd hi
    subst hu'
    exact ⟨_, h2 W rfl, fun d' hd => by cases hd; exact h cs h1⟩
/-- A whole value into a row. -/
theorem safe_storeRow {x y : Operand} {ty t : TypeId} {ps : String} {af : Array Edge} {gd : Option (Nat × Bool)} {Pp Pq : Nat → Value → Prop} {n E m : Nat} (hi : (P.info? ty).map (·.size) = some m)
    (g o : Nat) (hx : Opd T x (· = .pointer (some ⟨g, o, none⟩))) (hy : Opd T y fun v => ∃ cs, v = .agg cs ∧ Cells Pq m cs) (h1 : ∀ i v, Pq i v → v.oneCell' = true) (hom : o + m ≤ n) (hr : ∀ W, I W → Row Pp n E g W)
    (h : ∀ W cs, I W → Cells Pq m cs → I (W.setCells g o cs.toList)) :
    SafeOp P T I { dst := none, op := .store ty x y, type := t, pos := ps, after := af, guard := gd } :=
  safe_store _ _ hx hy fun u v W hI hu' hv => by
    obtain ⟨cs, rfl, hc⟩ := hv
    subst hu'
    exact ⟨_, (hr W hI).store o m hom hc h1 hi W rfl, h W cs hI hc, fun d' hd => by cases hd⟩
end
theorem and_le_u32 (x : Int) (m : Nat) (hm : m < 4294967296) : 0 ≤ Go.bits .and .u32 x (m : Int) ∧ Go.bits .and .u32 x (m : Int) ≤ m := by
  unfold Go.bits
  simp only [IntKind.bits]
  have h : (BitVec.ofInt 32 x &&& BitVec.ofInt 32 (m : Int)).toNat ≤ m := by
    rw [BitVec.toNat_and]
    refine Nat.le_trans Nat.and_le_right ?_
    rw [BitVec.toNat_ofInt]
    omega
  rw [IntKind.wrap_u32]
  show 0 ≤ (((BitVec.ofInt 32 x &&& BitVec.ofInt 32 (m : Int)).toNat : Nat) : Int) % _ ∧ (((BitVec.ofInt 32 x &&& BitVec.ofInt 32 (m : Int)).toNat : Nat) : Int) % _ ≤ _
  generalize (BitVec.ofInt 32 x &&& BitVec.ofInt 32 (m : Int)).toNat = c at h ⊢
  omega
theorem and15_u32 (x : Int) : 0 ≤ Go.bits .and .u32 x 15 ∧ Go.bits .and .u32 x 15 ≤ 15 := and_le_u32 x 15 (by omega)
/-- A byte of a text: a fact for the walk. -/
theorem str_index {P : Program} {ty : TypeId} (hu : P.underlying ty = some .string) (s : ByteArray) (k : IntKind) (i : Int) (j : Nat) (hj : i = j) (hlt : j < s.size) :
    ∃ x : Int, (0 ≤ x ∧ x ≤ 255) ∧ ∀ W, Sem.run P (Instr.index ty (.string s) (.int k i)) W = .ok (.int .u8 x) W := by
  subst hj
  refine ⟨(s[j].toNat : Int), ⟨by omega, by have := s[j].toNat_lt; omega⟩, fun W => ?_⟩
  simp [Instr.index, asIntOf, run_underlying hu, hlt]
section
variable {P : Program} {T : Tmp → Value → Prop} {I : World → Prop}
theorem run_load_one {P : Program} {ty : TypeId} (W : World) (a : Addr) (v : Value) (hc : W.cell? a = some v) (hag : Sem.run P (isAgg ty) W = .ok false W) : Sem.run P (Instr.loadAt ty (.pointer (some a))) W = .ok v W := by
  simp [Instr.loadAt, Instr.sureAddr, loadVar, Sem.run_bind, hag, Sem.run, load, hc]
theorem isAgg_int {P : Program} {ty : TypeId} {k : IntKind} (hu : P.underlying ty = some (.int k)) (W : World) : Sem.run P (isAgg ty) W = .ok false W := by
  unfold isAgg
  rw [Sem.run_bind, run_underlying hu W]
  simp
theorem run_store_one {P : Program} {ty : TypeId} (W : World) (a : Addr) (u : Value) {k : IntKind} (x : Int) (hc : W.cell? a = some u) (hfr : W.frozen? a = false) (hsz : (P.info? ty).map (·.size) = some 1) :
    Sem.run P (Instr.storeAt ty (.pointer (some a)) (.int k x)) W = .ok () (W.setCell a (.int k x)) := by
  cases hq : P.info? ty with
  | none => simp [hq] at hsz
  | some i =>
    have hs : i.size = 1 := by simpa [hq] using hsz
    have h0 : a.add 0 = a := by simp [Addr.add]
    simp [Instr.storeAt, Instr.sureAddr, storeVar, Sem.run_bind, sizeOf, typeInfo, hq, hs, Value.cells, storeCells, Sem.run, store, h0, hc, hfr]
/-- A number out of a row, at a known place. -/
theorem safe_loadInt {d : Tmp} {x : Operand} {ty t : TypeId} {ps : String} {af : Array Edge} {gd : Option (Nat × Bool)} {n E : Nat} {k k' : IntKind} (hu : P.underlying ty = some (.int k')) (g o : Nat) (hx : Opd T x (· = .pointer (some ⟨g, o, none⟩))) (hon : o < n)
    (hr : ∀ W, I W → IRow k n E g W) (h : ∀ v, IsInt k v → T d v) :
    SafeOp P T I { dst := some d, op := .load ty x, type := t, pos := ps, after := af, guard := gd } :=
  safe_load _ hx fun u W hI hu' => by
    subst hu'
    obtain ⟨y, hy⟩ := (hr W hI).int hon
    exact ⟨_, run_load_one W _ _ hy (isAgg_int hu W), fun d' hd => by cases hd; exact h _ ⟨y, rfl⟩⟩
/-- A number into a row, at a known place. -/
theorem safe_storeInt {x y : Operand} {ty t : TypeId} {ps : String} {af : Array Edge} {gd : Option (Nat × Bool)} {n E : Nat} {k : IntKind} (hsz : (P.info? ty).map (·.size) = some 1) (g o : Nat) (hx : Opd T x (· = .pointer (some ⟨g, o, none⟩))) (hy : Opd T y (IsInt k)) (hon : o < n)
    (hr : ∀ W, I W → IRow k n E g W) (h : ∀ W z, I W → I (W.setCell ⟨g, o, none⟩ (.int k z))) :
    SafeOp P T I { dst := none, op := .store ty x y, type := t, pos := ps, after := af, guard := gd } :=
  safe_store _ _ hx hy fun u v W hI hu' hv => by
    subst hu'
    obtain ⟨z, rfl⟩ := hv
    obtain ⟨y, hy⟩ := (hr W hI).int hon
    exact ⟨_, run_store_one W _ _ z hy ((hr W hI).free o) hsz, h W z hI, fun d' hd => by cases hd⟩
theorem run_indexAt_sl {P : Program} {ty elem : TypeId} {sz : Nat} (hu : P.underlying ty = some (.slice elem)) (hsz : (P.info? elem).map (·.size) = some sz) (g o : Nat) (len cap : Nat) (k : IntKind) (i : Int) (h0 : 0 ≤ i) (h1 : i < len) (W : World) :
    Sem.run P (Instr.indexAt ty (.slice (some ⟨g, o, none⟩) len cap) (.int k i)) W = .ok (.pointer (some ⟨g, o + i.toNat * sz, none⟩)) W := by
  cases hq : P.info? elem with
  | none => simp [hq] at hsz
  | some inf =>
    have hs : inf.size = sz := by simpa [hq] using hsz
    simp [Instr.indexAt, asIntOf, run_underlying hu, h0, h1, sizeOf, typeInfo, hq, hs, Addr.add_mid]
/-- The place of an element of a slice. -/
theorem safe_placeSl {d : Tmp} {x y : Operand} {ty t elem : TypeId} {sz : Nat} {ps : String} {af : Array Edge} {gd : Option (Nat × Bool)} {k : IntKind} (hu : P.underlying ty = some (.slice elem)) (hsz : (P.info? elem).map (·.size) = some sz)
    (g o len cap : Nat) (i : Int) (hx : Opd T x (· = .slice (some ⟨g, o, none⟩) len cap)) (hy : Opd T y (· = .int k i)) (h0 : 0 ≤ i) (h1 : i < len) (h : T d (.pointer (some ⟨g, o + i.toNat * sz, none⟩))) :
    SafeOp P T I { dst := some d, op := .indexAddr ty x y, type := t, pos := ps, after := af, guard := gd } :=
  safe_indexAddr _ _ hx hy fun u v W hu' hv => by
    subst hu' hv
    exact ⟨_, run_indexAt_sl hu hsz g o len cap k i h0 h1 W, fun d' hd => by cases hd; exact h⟩
/-- A number of another kind. -/
theorem safe_convInt {d : Tmp} {x : Operand} {src to_ t : TypeId} {ps : String} {af : Array Edge} {gd : Option (Nat × Bool)} {k k' : IntKind} {us : TypeDesc} (hs : P.underlying src = some us) (hu : P.underlying to_ = some (.int k')) (hx : Opd T x (IsInt k)) (h : ∀ v, IsInt k' v → T d v) :
    SafeOp P T I { dst := some d, op := .convert src to_ x, type := t, pos := ps, after := af, guard := gd } :=
  safe_convert _ hx fun u W hu' => by
    obtain ⟨z, rfl⟩ := hu'
    exact ⟨.int k' (k'.wrap z), by simp [convert, run_underlying hs, run_underlying hu, Conv.intToInt], fun d' hd => by cases hd; exact h _ ⟨_, rfl⟩⟩
/-- Arithmetic on numbers of one kind. -/
theorem safe_arith {d : Tmp} {x y : Operand} {tx ty t : TypeId} {ps : String} {af : Array Edge} {gd : Option (Nat × Bool)} {k : IntKind} {op : BinOp} (hop : op = .add ∨ op = .sub ∨ op = .mul ∨ op = .and ∨ op = .or ∨ op = .xor) (hx : Opd T x (IsInt k)) (hy : Opd T y (IsInt k)) (h : ∀ v, IsInt k v → T d v) :
    SafeOp P T I { dst := some d, op := .binOp op tx x y ty, type := t, pos := ps, after := af, guard := gd } :=
  safe_bin _ _ hx hy fun u v W hu hv => by
    obtain ⟨a, rfl⟩ := hu
    obtain ⟨b, rfl⟩ := hv
    rcases hop with rfl | rfl | rfl | rfl | rfl | rfl
    · exact ⟨_, run_add_int _ _ _ _ _, guard_other _ _ _ _ _ ⟨by simp, by simp⟩ _ _, fun d' hd => by cases hd; exact h _ ⟨_, rfl⟩⟩
    · exact ⟨_, run_sub_int _ _ _ _ _, guard_other _ _ _ _ _ ⟨by simp, by simp⟩ _ _, fun d' hd => by cases hd; exact h _ ⟨_, rfl⟩⟩
    · exact ⟨_, run_mul_int _ _ _ _ _, guard_other _ _ _ _ _ ⟨by simp, by simp⟩ _ _, fun d' hd => by cases hd; exact h _ ⟨_, rfl⟩⟩
    · obtain ⟨c, hc⟩ := run_bits_int (P := P) tx k a b W .and (by simp)
      exact ⟨_, hc, guard_other _ _ _ _ _ ⟨by simp, by simp⟩ _ _, fun d' hd => by cases hd; exact h _ ⟨_, rfl⟩⟩
    · obtain ⟨c, hc⟩ := run_bits_int (P := P) tx k a b W .or (by simp)
      exact ⟨_, hc, guard_other _ _ _ _ _ ⟨by simp, by simp⟩ _ _, fun d' hd => by cases hd; exact h _ ⟨_, rfl⟩⟩
    · obtain ⟨c, hc⟩ := run_bits_int (P := P) tx k a b W .xor (by simp)
      exact ⟨_, hc, guard_other _ _ _ _ _ ⟨by simp, by simp⟩ _ _, fun d' hd => by cases hd; exact h _ ⟨_, rfl⟩⟩
/-- A shift by a known count. -/
theorem safe_shift {d : Tmp} {x y : Operand} {tx ty t : TypeId} {ps : String} {af : Array Edge} {gd : Option (Nat × Bool)} {k k' : IntKind} {op : BinOp} (hop : op = .shl ∨ op = .shr) (c : Int) (hc : 0 ≤ c) (hx : Opd T x (IsInt k)) (hy : Opd T y (· = .int k' c)) (h : ∀ v, IsInt k v → T d v) :
    SafeOp P T I { dst := some d, op := .binOp op tx x y ty, type := t, pos := ps, after := af, guard := gd } :=
  safe_bin _ _ hx hy fun u v W hu hv => by
    obtain ⟨a, rfl⟩ := hu
    subst hv
    have hn : ¬ c < 0 := by omega
    rcases hop with rfl | rfl
    · exact ⟨.int k (k.wrap (a * 2 ^ (min c.toNat k.bits))), by simp [binOp, Op.shift, hn], guard_other _ _ _ _ _ ⟨by simp, by simp⟩ _ _, fun d' hd => by cases hd; exact h _ ⟨_, rfl⟩⟩
    · exact ⟨.int k (a.fdiv (2 ^ (min c.toNat k.bits))), by simp [binOp, Op.shift, hn], guard_other _ _ _ _ _ ⟨by simp, by simp⟩ _ _, fun d' hd => by cases hd; exact h _ ⟨_, rfl⟩⟩
end
theorem Row.nums {k : IntKind} {n E b : Nat} {w : World} (h : IRow k n E b w) : ∃ xs : List Int, xs.length = n ∧ ∀ i, i < n → w.cell? ⟨b, i, none⟩ = some (.int k (xs.getD i 0)) := by
  obtain ⟨cs, h1, h2, h3⟩ := h
  refine ⟨cs.toList.map intOf, by simpa using h2, fun i hi => ?_⟩
  obtain ⟨v, hv, x, rfl⟩ := h3 i hi
  rw [cell_of_row w b i cs E _ h1, hv]
  have hl : i < cs.toList.length := by simp; omega
  have hv' : cs.toList[i] = .int k x := by
    have := (Array.getElem?_eq_some_iff.1 hv).2
    simpa using this
  rw [List.getD_eq_getElem?_getD, List.getElem?_map, List.getElem?_eq_getElem hl, hv']
  rfl
/-- The text that bytes of a row are: a fact for the walk. -/
theorem Row.text {P : Program} {n E b : Nat} {w : World} {src dst e : TypeId} (h : IRow .u8 n E b w) (hs : P.underlying src = some (.slice e)) (he : P.underlying e = some (.int .u8)) (hd : P.underlying dst = some .string) (off len cap : Nat) (hlen : off + len ≤ n) :
    ∃ s : ByteArray, s.size = len ∧ ∀ W : World, W.heap = w.heap → Sem.run P (convert src dst (.slice (some ⟨b, off, none⟩) len cap)) W = .ok (.string s) W := by
  obtain ⟨xs, hx, hc⟩ := h.nums
  refine ⟨strOfNums ((xs.drop off).take len), by rw [strOfNums_size]; simp; omega, fun W hW => ?_⟩
  refine run_convert_bytes_arg W src e hs he b off len cap _ (by simp; omega) (fun i hi => ?_) dst hd
  have hce : W.cell? ⟨b, off + i, none⟩ = w.cell? ⟨b, off + i, none⟩ := by simp only [World.cell?, hW]
  rw [hce, hc (off + i) (by omega)]
  simp [List.getD_eq_getElem?_getD, hi, List.getElem?_drop]
end Go.Proofs.YtcebfkhfnjbfjaaGreatDoor
namespace Go.Proofs.YtcebfkhfnjbfjaaGreatDoor
open Go.RowKit
section
variable {P : Program}
def GoodG (P : Program) (T : Tmp → List Nat → Value → Prop) (I : List Nat → World → Prop) (G : List Nat) (dst : Option Tmp) : Result Next → Prop
  | .ok (.value v) w' => ∃ K, I (K ++ G) w' ∧ ∀ d, dst = some d → T d (K ++ G) v
  | .ok .skip w' => ∃ K, I (K ++ G) w' ∧ ∀ d, dst = some d → T d (K ++ G) undef
  | .ok (.enter f args) w' => Calls P f args w' fun e w'' => ∃ v, e = .returned v ∧ ∃ K, I (K ++ G) w'' ∧ ∀ d, dst = some d → T d (K ++ G) v
  | _ => False
def SafeOpG (P : Program) (T : Tmp → List Nat → Value → Prop) (I : List Nat → World → Prop) (o : Oper) : Prop :=
  ∀ (G : List Nat) (ρ : Operand → Value) (w : World), I G w → (∀ u, .tmp u ∈ o.op.operands → T u G (ρ (.tmp u))) → (∀ v, ρ (.const v) = v) → (∀ f, ρ (.func f) = .func (.func f) #[] #[]) → GoodG P T I G o.dst (Sem.run P (execOp ρ o) w)
def AllSafeG (P : Program) (T : Tmp → List Nat → Value → Prop) (I : List Nat → World → Prop) : List Oper → Prop
  | [] => True
  | o :: r => SafeOpG P T I o ∧ AllSafeG P T I r
theorem AllSafeG.mem {T : Tmp → List Nat → Value → Prop} {I : List Nat → World → Prop} : ∀ {l : List Oper}, AllSafeG P T I l → ∀ o ∈ l, SafeOpG P T I o
  | [], _, o, h => by simp at h
  | x :: r, h, o, ho => by
    rcases List.mem_cons.1 ho with rfl | ho
    · exact h.1
    · exact h.2.mem o ho
/-- What is safe at each list is safe. -/
theorem SafeOpG.of {T : Tmp → List Nat → Value → Prop} {I : List Nat → World → Prop} {o : Oper} (h : ∀ G, SafeOp P (fun u => T u G) (I G) o) : SafeOpG P T I o := by
  intro G ρ w hI hT hc hf
  have hg := h G ρ w hI hT hc hf
  revert hg
  generalize Sem.run P (execOp ρ o) w = r
  intro hg
  cases r with
  | halt x w' => exact absurd hg (by simp [Good])
  | ok n w' =>
    cases n <;> simp only [Good] at hg
    case value v => exact ⟨[], hg⟩
    case skip => exact ⟨[], hg⟩
    case enter f args => exact Calls.mono hg fun e w'' ⟨v, h1, h2, h3⟩ => ⟨v, h1, [], h2, h3⟩
/-- A new variable. -/
theorem safeG_alloc {T : Tmp → List Nat → Value → Prop} {I : List Nat → World → Prop} {d : Tmp} {E t : TypeId} {ps : String} {af : Array Edge} {gd : Option (Nat × Bool)} (z : Value)
    (hz : ∀ W, Sem.run P (zeroValue E) W = .ok z W) (h : ∀ G W, I G W → I (W.heap.size :: G) (W.alloc (.cells z.cells E)) ∧ T d (W.heap.size :: G) (.pointer (some ⟨W.heap.size, 0, none⟩))) :
    SafeOpG P T I { dst := some d, op := .alloc E, type := t, pos := ps, after := af, guard := gd } := by
  intro G ρ w hI hT hc hf
  obtain ⟨h1, h2⟩ := h G w hI
  have e : Sem.run P (execOp ρ { dst := some d, op := .alloc E, type := t, pos := ps, after := af, guard := gd }) w = .ok (.value (.pointer (some ⟨w.heap.size, 0, none⟩))) (w.alloc (.cells z.cells E)) := by
    simp [execOp, Instr.alloc, Sem.run_bind, hz, newVar, newRow, newObj, Sem.run]
  rw [e]
  exact ⟨[w.heap.size], h1, fun d' hd => by cases hd; exact h2⟩

theorem wpAny_typedG {ops : Array Oper} {Q : Exit → Act → World → Prop} {T : Tmp → List Nat → Value → Prop} {I : List Nat → World → Prop} (hmono : ∀ u G g v, T u G v → T u (g :: G) v) {a0 : Act} (hok : regionOk ops a0.tmps.size = true)
    (h0 : ∀ u, u ∈ outReads ops → ∀ G, T u G (a0.tmps.getD u undef)) (hs : AllSafeG P T I ops.toList)
    (hQ : ∀ (f : Tmp → Value) (w' : World) (G : List Nat), I G w' → (∀ d, d ∈ dstsOf ops → T d G (f d)) → Q .normal ⟨putAll a0.tmps (dstsOf ops) f, a0.defers⟩ w') :
    ∀ (fuel : Nat) (listed : Array Bool) (a : Act) (w : World), listed.size = ops.size → toCome listed ≤ fuel → (∃ G, RInv ops (fun u => T u G) (I G) a0 listed a w) → wpAny P .any ops Q fuel listed a w := by
  have hok' : (∀ d ∈ dstsOf ops, d < a0.tmps.size) ∧ ∀ i o, ops[i]? = some o → o.guard = none ∧ (∀ e ∈ o.after, Region.binds .any e = true → e.on < i) ∧
      ∀ u ∈ readsOf o, u ∈ dstsOf ops → ∃ e ∈ o.after, Region.binds .any e = true ∧ ∃ x, ops[e.on]? = some x ∧ x.dst = some u := by
    simp only [regionOk, Bool.and_eq_true, List.all_eq_true, decide_eq_true_eq] at hok
    refine ⟨hok.1, fun i o ho => ?_⟩
    have hm : (o, i) ∈ ops.toList.zipIdx := by
      rw [List.mem_zipIdx_iff_getElem?]
      simpa using ho
    obtain ⟨⟨h1, h2⟩, h3⟩ := hok.2 _ hm
    refine ⟨by simpa using h1, fun e he hb => ?_, fun u hu hd => ?_⟩
    · have := h2 e (by simpa using he)
      simpa [hb] using this
    · have := h3 u hu
      simp only [Bool.or_eq_true, Bool.not_eq_true', List.any_eq_true, Bool.and_eq_true] at this
      rcases this with h | ⟨e, he, hb, hx⟩
      · simp [hd] at h
      · obtain ⟨x, hx1, hx2⟩ : ∃ x, ops[e.on]? = some x ∧ x.dst = some u := by
          cases hq : ops[e.on]? with
          | none => simp [hq] at hx
          | some x => exact ⟨x, rfl, by simpa [hq] using hx⟩
        exact ⟨e, by simpa using he, hb, x, hx1, hx2⟩
  -- behind the last one
  have hend : ∀ (listed : Array Bool) (a : Act) (w : World), listed.size = ops.size → Region.ready .any ops listed = [] → (∃ G, RInv ops (fun u => T u G) (I G) a0 listed a w) → Q .normal a w := by
    rintro listed a w hl hr ⟨G, hi⟩
    have hall : ∀ i, i < ops.size → listed.getD i false = true := by
      intro i
      induction i using Nat.strongRecOn with
      | _ i ih =>
        intro hlt
        by_cases hq : listed.getD i false = true
        · exact hq
        · have : i ∈ Region.ready .any ops listed := mem_ready.2 ⟨by
            have : i < listed.size := by omega
            simp only [Array.getD_eq_getD_getElem?, Array.getElem?_eq_getElem this, Option.getD_some] at hq ⊢
            simpa using hq, ops[i], Array.getElem?_eq_getElem hlt, fun e he hb => ih e.on ((hok'.2 i _ (Array.getElem?_eq_getElem hlt)).2.1 e he hb) (by
              have := (hok'.2 i _ (Array.getElem?_eq_getElem hlt)).2.1 e he hb
              omega)⟩
          rw [hr] at this
          simp at this
    have e : a = ⟨putAll a0.tmps (dstsOf ops) (fun u => a.tmps.getD u undef), a0.defers⟩ := by
      obtain ⟨t, df⟩ := a
      have h1 := hi.defers
      have h2 := hi.size
      have h3 := hi.other
      dsimp only at h1 h2 h3
      subst h1
      congr 1
      apply Array.ext_getElem?
      intro u
      by_cases hu : u < a0.tmps.size
      · rw [putAll_get _ _ _ hu]
        split
        · have hu' : u < t.size := by omega
          simp [Array.getElem?_eq_getElem hu']
        · exact h3 u (by assumption)
      · rw [Array.getElem?_eq_none (by omega), Array.getElem?_eq_none (by rw [putAll_size]; omega)]
    rw [e]
    refine hQ _ _ G hi.world fun d hd => ?_
    obtain ⟨o, ho, hod⟩ := List.mem_filterMap.1 hd
    obtain ⟨i, hi', he⟩ := List.mem_iff_getElem.1 ho
    have hi2 : i < ops.size := by simpa using hi'
    exact hi.kind i o d (by rw [Array.getElem?_eq_getElem hi2, ← he]; simp) hod (hall i hi2)
  intro fuel
  induction fuel with
  | zero =>
    intro listed a w hl hc hi
    have hr : Region.ready .any ops listed = [] := by
      cases hq : Region.ready .any ops listed with
      | nil => rfl
      | cons i r =>
        have hm : i ∈ Region.ready .any ops listed := by rw [hq]; simp
        obtain ⟨hl1, o, ho, _⟩ := mem_ready.1 hm
        have hlt : i < ops.size := (Array.getElem?_eq_some_iff.1 ho).1
        have hlt' : i < listed.size := by omega
        have : 0 < toCome listed := List.countP_pos_iff.2 ⟨listed[i], by simp, by
          simp only [Array.getD_eq_getD_getElem?, Array.getElem?_eq_getElem hlt', Option.getD_some] at hl1
          simp [hl1]⟩
        omega
    exact ⟨hr, hend listed a w hl hr hi⟩
  | succ fuel ih =>
    rintro listed a w hl hc ⟨G, hi⟩
    refine ⟨fun hr => hend listed a w hl hr ⟨G, hi⟩, fun i hm => ?_⟩
    obtain ⟨hl1, o, ho, hdep⟩ := mem_ready.1 hm
    have hlt : i < ops.size := (Array.getElem?_eq_some_iff.1 ho).1
    have hlt' : i < listed.size := by omega
    have hfalse : listed[i]? = some false := by
      simp only [Array.getD_eq_getD_getElem?, Array.getElem?_eq_getElem hlt', Option.getD_some] at hl1
      rw [Array.getElem?_eq_getElem hlt', hl1]
    obtain ⟨hg, hback, hread⟩ := hok'.2 i o ho
    have hsafe := hs.mem o (by rw [Array.mem_toList_iff]; exact Array.mem_of_getElem? ho)
    have hgood := hsafe G a.eval w hi.world (fun u hu => by
      have hu' : u ∈ readsOf o := List.mem_filterMap.2 ⟨.tmp u, by simpa using hu, rfl⟩
      show T u G (a.tmps.getD u undef)
      by_cases hd : u ∈ dstsOf ops
      · obtain ⟨e, he, hb, x, hx, hxd⟩ := hread u hu' hd
        exact hi.kind e.on x u hx hxd (hdep e he hb)
      · have := h0 u (List.mem_filter.2 ⟨List.mem_flatMap.2 ⟨o, by rw [Array.mem_toList_iff]; exact Array.mem_of_getElem? ho, hu'⟩, by simpa using hd⟩) G
        rw [Array.getD_eq_getD_getElem?, hi.other u hd, ← Array.getD_eq_getD_getElem?]
        exact this) (fun _ => rfl) (fun _ => rfl)
    -- behind it
    have hnext : ∀ (v : Value) (w' : World) (K : List Nat), I (K ++ G) w' → (∀ d, o.dst = some d → T d (K ++ G) v) → wpAny P .any ops Q fuel (listed.setIfInBounds i true) (a.put o.dst v) w' := by
      intro v w' K hI hT
      have hgrow : ∀ u v, T u G v → T u (K ++ G) v := by
        intro u v h
        clear hI hT
        induction K with
        | nil => exact h
        | cons g K ihK => exact hmono _ _ _ _ ihK
      refine ih _ _ _ (by simpa using hl) (by have := toCome_set hfalse; omega) ⟨K ++ G, hI, ?_, ?_, ?_, ?_⟩
      · cases o.dst <;> exact hi.defers
      · cases hd : o.dst <;> simp [Act.put, hi.size]
      · intro u hu
        cases hd : o.dst with
        | none => exact hi.other u hu
        | some d =>
          have hne : d ≠ u := fun e => hu (by subst e; exact mem_dstsOf ho hd)
          simp only [Act.put]
          rw [Array.getElem?_setIfInBounds_ne hne]
          exact hi.other u hu
      · intro j oj d hj hjd hlj
        rw [getD_ite _ _ _ hlt'] at hlj
        cases hd : o.dst with
        | none =>
          by_cases e : i = j
          · subst e; rw [ho] at hj; cases hj; rw [hd] at hjd; cases hjd
          · rw [if_neg e] at hlj
            exact hgrow _ _ (hi.kind j oj d hj hjd hlj)
        | some d' =>
          by_cases e : d' = d
          · subst e
            have : d' < a.tmps.size := by rw [hi.size]; exact hok'.1 _ (mem_dstsOf ho hd)
            simp only [Act.put, Array.getD_eq_getD_getElem?, Array.getElem?_setIfInBounds_self_of_lt this, Option.getD_some]
            exact hT d' hd
          · have hij : i ≠ j := fun e' => by subst e'; rw [ho] at hj; cases hj; rw [hd] at hjd; cases hjd; exact e rfl
            rw [if_neg hij] at hlj
            have := hgrow _ _ (hi.kind j oj d hj hjd hlj)
            simp only [Act.put, Array.getD_eq_getD_getElem?] at this ⊢
            rw [Array.getElem?_setIfInBounds_ne e]
            exact this
    unfold wpOp
    simp only [ho]
    have hw : Region.wanted o (yielded ops a.tmps) = true := by simp [Region.wanted, hg]
    rw [if_pos hw]
    left
    unfold Oper.wp
    revert hgood
    generalize Sem.run P (execOp a.eval o) w = r
    intro hgood
    cases r with
    | halt h w' => exact absurd hgood (by simp [GoodG])
    | ok n w' =>
      cases n <;> simp only [GoodG] at hgood
      case value v =>
        obtain ⟨K, h1, h2⟩ := hgood
        exact hnext v w' K h1 h2
      case skip =>
        obtain ⟨K, h1, h2⟩ := hgood
        exact hnext undef w' K h1 h2
      case enter f args =>
        refine Calls.mono hgood fun e w'' he => ?_
        obtain ⟨v, rfl, K, hI, hT⟩ := he
        exact hnext v w'' K hI hT

/-- THE REGION. -/
theorem wp_region_typedG {id : Nat} {ops : Array Oper} {Q : Exit → Act → World → Prop} {a : Act} {w : World} (hm : P.follows .mixedOrders = true) (T : Tmp → List Nat → Value → Prop) (I : List Nat → World → Prop) (hmono : ∀ u G g v, T u G v → T u (g :: G) v)
    (hok : regionOk ops a.tmps.size = true) (D : List Tmp) (hD : dstsOf ops = D) (U : List Tmp) (hU : outReads ops = U)
    (h0 : ∀ u, u ∈ U → ∀ G, T u G (a.tmps.getD u undef)) (hI : I [] w.drew) (hs : AllSafeG P T I ops.toList)
    (hQ : ∀ (f : Tmp → Value) (w' : World) (G : List Nat), I G w' → (∀ d, d ∈ D → T d G (f d)) → Q .normal ⟨putAll a.tmps D f, a.defers⟩ w') : (Code.region id ops true).wp P Q a w := by
  subst hD hU
  refine wp_region_any hm (wpAny_typedG hmono hok h0 hs hQ _ _ _ _ (by simp) ?_ ⟨[], hI, rfl, rfl, fun _ _ => rfl, fun i o d _ _ h => ?_⟩)
  · exact Nat.le_trans List.countP_le_length (by simp)
  · by_cases hi : i < ops.size <;> simp [hi] at h

/-- May the operations come up in this order, and is none left behind it? -/
def validB (ops : Array Oper) : Array Bool → List Nat → Bool
  | listed, [] => (Region.ready .any ops listed).isEmpty
  | listed, i :: r => (Region.ready .any ops listed).contains i && validB ops (listed.setIfInBounds i true) r
theorem wpAny_list {ops : Array Oper} {Q : Exit → Act → World → Prop} : ∀ (l : List Nat) (fuel : Nat) (listed : Array Bool) (a : Act) (w : World), wpAny P .any ops Q fuel listed a w → validB ops listed l = true → wpOps P ops Q l a w
  | [], fuel, listed, a, w, h, hv => by
    have hr : Region.ready .any ops listed = [] := by simpa [validB] using hv
    cases fuel with
    | zero => exact h.2
    | succ n => exact h.1 hr
  | i :: r, fuel, listed, a, w, h, hv => by
    simp only [validB, Bool.and_eq_true] at hv
    have hm : i ∈ Region.ready .any ops listed := by simpa using hv.1
    cases fuel with
    | zero => rw [h.1] at hm; simp at hm
    | succ n =>
      rw [wpOps_cons]
      exact wpOp_mono (fun a w h' => wpAny_list r n _ a w h' hv.2) (h.2 i hm)
/-- THE REGION that keeps the text's order. -/
theorem wp_region_typedP {id : Nat} {ops : Array Oper} {Q : Exit → Act → World → Prop} {a : Act} {w : World} (hv : validB ops (Array.replicate ops.size false) (List.range ops.size) = true) (T : Tmp → List Nat → Value → Prop) (I : List Nat → World → Prop) (hmono : ∀ u G g v, T u G v → T u (g :: G) v)
    (hok : regionOk ops a.tmps.size = true) (D : List Tmp) (hD : dstsOf ops = D) (U : List Tmp) (hU : outReads ops = U)
    (h0 : ∀ u, u ∈ U → ∀ G, T u G (a.tmps.getD u undef)) (hI : I [] w) (hs : AllSafeG P T I ops.toList)
    (hQ : ∀ (f : Tmp → Value) (w' : World) (G : List Nat), I G w' → (∀ d, d ∈ D → T d G (f d)) → Q .normal ⟨putAll a.tmps D f, a.defers⟩ w') : (Code.region id ops false).wp P Q a w := by
  subst hD hU
  refine wp_region (wpAny_list _ (toCome (Array.replicate ops.size false)) _ _ _ (wpAny_typedG hmono hok h0 hs hQ _ _ _ _ (by simp) (Nat.le_refl _) ⟨[], hI, rfl, rfl, fun _ _ => rfl, fun i o d _ _ h => ?_⟩) hv)
  by_cases hi : i < ops.size <;> simp [hi] at h
end
end Go.Proofs.YtcebfkhfnjbfjaaGreatDoor
namespace Go.Proofs.YtcebfkhfnjbfjaaGreatDoor
open Go.RowKit
/-- The zero of 16 numbers. -/
abbrev z16 : Array Value := #[.int .i64 0, .int .i64 0, .int .i64 0, .int .i64 0, .int .i64 0, .int .i64 0, .int .i64 0, .int .i64 0, .int .i64 0, .int .i64 0, .int .i64 0, .int .i64 0, .int .i64 0, .int .i64 0, .int .i64 0, .int .i64 0]
theorem z16_ints : Ints .i64 16 z16 := ints_of_list (by decide) rfl
theorem size73 : (Tryz.prog.info? 73).map (·.size) = some 16 := by kernel_rfl
set_option maxHeartbeats 400000 in
theorem lCarried_any (cs : Array Value) (w : World) (h : Ints .i64 16 cs) :
    Calls Tryz.prog 71 #[.agg cs] w fun e w' => (∃ cs', e = .returned (.agg cs') ∧ Ints .i64 16 cs') ∧ Below w.heap.size w w' := by
  have hR1 := Row.new h w 73
  have hR2 : IRow .i64 16 73 (w.heap.size + 1) ((w.alloc (.cells cs 73)).alloc (.cells z16 73)) := by
    have := Row.new (w := w.alloc (.cells cs 73)) z16_ints 73
    simpa using this
  go_enter Tryz.func71, Tryz.ntmps71
  go_wp2
  go_loopw [3, 4] (fun i _ wr => ∃ n : Nat, n ≤ 16 ∧ i = .int .i64 n ∧ IRow .i64 16 73 w.heap.size wr ∧ IRow .i64 16 73 (w.heap.size + 1) wr ∧ Below w.heap.size w wr) (fun i _ _ => 16 - (intOf i).toNat)
  case atStart => exact ⟨0, by omega, rfl, hR1.alloc _, hR2, ((Below.refl _ _).alloc (by simp) _).alloc (by simp) _⟩
  case round =>
    obtain ⟨n, hn, rfl, h1, h2, hb⟩ := hrel
    by_cases hlt : n < 16
    · obtain ⟨x, hx⟩ := h1.int hlt
      have hf := h1.free n
      by_cases hl2 : n < 15
      · obtain ⟨y, hy⟩ := h1.int (i := n + 1) (by omega)
        have hf2 := h1.free (n + 1)
        go_wp2
        go_roundw
        case rel => exact ⟨n + 1, by omega, by go_num, (h1.set fun _ => ⟨_, rfl⟩).set fun _ => ⟨_, rfl⟩, (h2.setOther (by simp) _).setOther (by simp) _, (hb.setCell (by simp) _).setCell (by simp) _⟩
        case measure => simp [intOf]; omega
      · obtain ⟨y, hy⟩ := h1.int (i := 0) (by omega)
        have hf2 := h1.free 0
        go_wp2
        go_roundw
        case rel => exact ⟨n + 1, by omega, by go_num, (h1.set fun _ => ⟨_, rfl⟩).set fun _ => ⟨_, rfl⟩, (h2.setOther (by simp) _).setOther (by simp) _, (hb.setCell (by simp) _).setCell (by simp) _⟩
        case measure => simp [intOf]; omega
    · go_wp2_with (first | (refine wpList_load_Row rfl 73 _ rfl _ rfl h1 _ Tryz.underlying73 rfl size73 ?_; intro cs1 hcs1) | (refine wpList_store_Row rfl 73 _ _ rfl _ _ rfl rfl h2 (by assumption) (fun _ _ => IsInt.one) size73 ?_))
      exact ret_Row Tryz.results71 (w.heap.size + 1) rfl (h2.setRow hcs1) _ Tryz.underlying73 rfl size73 rfl fun cs2 hcs2 => ⟨⟨cs2, rfl, hcs2⟩, below_setRow' hb (by omega) _⟩
end Go.Proofs.YtcebfkhfnjbfjaaGreatDoor
