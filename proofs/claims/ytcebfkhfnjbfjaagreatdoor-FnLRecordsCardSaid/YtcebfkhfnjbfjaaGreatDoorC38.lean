/- The plain law of the record: its parts, its tags, whatever their order. -/
import Derived.Test.YtcebfkhfnjbfjaaGreatDoorC37
import Derived.Test.YtcebfkhfnjbfjaaGreatDoorC33
namespace Go.Proofs.YtcebfkhfnjbfjaaGreatDoor
open Go.RowKit
set_option linter.unusedVariables false
set_option linter.unusedSimpArgs false
theorem gd_left {xs ys : List UInt8} {i : Nat} (h : i < xs.length) : (xs ++ ys).getD i 0 = xs.getD i 0 := by
  rw [List.getD_eq_getElem?_getD, List.getElem?_append_left h, ← List.getD_eq_getElem?_getD]
theorem gd_right (xs ys : List UInt8) (i : Nat) : (xs ++ ys).getD (xs.length + i) 0 = ys.getD i 0 := by
  rw [List.getD_eq_getElem?_getD, List.getElem?_append_right (by omega), ← List.getD_eq_getElem?_getD]
  congr 1
  omega
theorem gd_blank {k i : Nat} (h : i < k) : (blank k).getD i 0 = 32 := by
  unfold blank
  rw [List.getD_eq_getElem?_getD, List.getElem?_replicate, if_pos h]
  rfl
theorem blank_length (k : Nat) : (blank k).length = k := by simp [blank]
/-- A text that neither begins nor ends with a blank. -/
def Core (c : List UInt8) : Prop := 0 < c.length ∧ sp (c.getD 0 0).toNat = false ∧ sp (c.getD (c.length - 1) 0).toNat = false
theorem sp32 : sp (32 : UInt8).toNat = true := by decide
theorem trimF_core (a b : Nat) (c : List UInt8) (h : Core c) : trimF (blank a ++ (c ++ blank b)) = c := by
  obtain ⟨h0, h1, h2⟩ := h
  obtain ⟨m, hm⟩ : ∃ m, c.length = m := ⟨_, rfl⟩
  rw [hm] at h0 h2
  have hlen : (blank a ++ (c ++ blank b)).length = a + m + b := by simp [blank_length, hm]; omega
  have g1 : ∀ k, k < a → (blank a ++ (c ++ blank b)).getD k 0 = 32 := fun k hk => by
    rw [gd_left (by rw [blank_length]; exact hk), gd_blank hk]
  have g2 : ∀ k, k < m → (blank a ++ (c ++ blank b)).getD (a + k) 0 = c.getD k 0 := fun k hk => by
    have := gd_right (blank a) (c ++ blank b) k
    rw [blank_length] at this
    rw [this, gd_left (by omega)]
  have g3 : ∀ k, k < b → (blank a ++ (c ++ blank b)).getD (a + m + k) 0 = 32 := fun k hk => by
    have := gd_right (blank a) (c ++ blank b) (m + k)
    rw [blank_length, ← Nat.add_assoc] at this
    rw [this, ← hm, gd_right, gd_blank hk]
  have hf : fromF (blank a ++ (c ++ blank b)) = a := fromF_at (by omega) (fun k hk => by rw [g1 k hk]; exact sp32) (by have := g2 0 h0; rw [Nat.add_zero] at this; rw [this]; exact h1)
  have hl : ∀ j, j ≤ b → lastF (blank a ++ (c ++ blank b)) (a + m + j) = a + m := by
    intro j
    induction j with
    | zero =>
      intro _
      obtain ⟨q, rfl⟩ : ∃ q, m = q + 1 := ⟨m - 1, by omega⟩
      show (if sp ((blank a ++ (c ++ blank b)).getD (a + q) 0).toNat then _ else a + q + 1) = _
      rw [g2 q (by omega), if_neg (by rw [show q + 1 - 1 = q by omega] at h2; rw [h2]; decide)]
      rfl
    | succ j ih =>
      intro hj
      show (if sp ((blank a ++ (c ++ blank b)).getD (a + m + j) 0).toNat then lastF (blank a ++ (c ++ blank b)) (a + m + j) else a + m + j + 1) = _
      rw [g3 j (by omega), if_pos sp32]
      exact ih (by omega)
  unfold trimF
  rw [hf, if_neg (by omega), hlen, hl b (Nat.le_refl _)]
  rw [← List.append_assoc, List.take_append_of_le_length (by simp [blank_length, hm]), List.take_of_length_le (by simp [blank_length, hm]), List.drop_append_of_le_length (by simp [blank_length])]
  rw [List.drop_of_length_le (by simp [blank_length])]
  rfl
/-- A tag: its name, the blanks about its equals sign, its value. -/
structure Tag where
  c : UInt8
  a : Nat
  b : Nat
  v : List UInt8
def Tag.bytes (t : Tag) : List UInt8 := t.c :: (blank t.a ++ 61 :: (blank t.b ++ t.v))
/-- A tag as it may stand in a record. -/
structure Tag.Ok (t : Tag) : Prop where
  c : t.c.toNat < 128 ∧ sp t.c.toNat = false ∧ t.c ≠ 61 ∧ t.c ≠ 59
  a : t.a ≤ 3
  b : t.b ≤ 3
  core : Core t.v
  ascii : ∀ x ∈ t.v, x.toNat < 128 ∧ x ≠ 59
  len : t.v.length ≤ 40000
def segF : List (Nat × Nat × Tag) → List UInt8
  | [] => []
  | (a, b, t) :: r => blank a ++ 59 :: (blank b ++ (t.bytes ++ segF r))
/-- The parts, as they are read. -/
def partsF (l : Nat) (t : Tag) : List (Nat × Nat × Tag) → KVs
  | [] => [(blank l ++ t.c :: blank t.a, blank t.b ++ t.v)]
  | (a, b, t') :: r => (blank l ++ t.c :: blank t.a, blank t.b ++ (t.v ++ blank a)) :: partsF b t' r
theorem mem_blank {x : UInt8} {k : Nat} (h : x ∈ blank k) : x = 32 := (List.mem_replicate.1 h).2
theorem segF_append : ∀ (L M : List (Nat × Nat × Tag)), segF (L ++ M) = segF L ++ segF M
  | [], M => rfl
  | (a, b, t) :: r, M => by
    show blank a ++ 59 :: (blank b ++ (t.bytes ++ segF (r ++ M))) = _
    rw [segF_append r M]
    simp [segF]
theorem no59 (l : Nat) (t : Tag) (ht : t.Ok) (b : Nat) : (59 : UInt8) ∉ blank l ++ (t.bytes ++ blank b) := by
  intro h
  simp only [Tag.bytes, List.mem_append, List.mem_cons] at h
  rcases h with h | (h | h | h | h | h) | h
  · exact absurd (mem_blank h) (by decide)
  · exact ht.c.2.2.2 h.symm
  · exact absurd (mem_blank h) (by decide)
  · exact absurd h (by decide)
  · exact absurd (mem_blank h) (by decide)
  · exact (ht.ascii _ h).2 rfl
  · exact absurd (mem_blank h) (by decide)
theorem split_rec : ∀ (L : List (Nat × Nat × Tag)) (l : Nat) (t : Tag), t.Ok → (∀ x ∈ L, x.2.2.Ok) → splitF 59 (blank l ++ (t.bytes ++ segF L)) = (partsF l t L).map fun p => p.1 ++ 61 :: p.2
  | [], l, t, ht, _ => by
    rw [splitF_none (by have := no59 l t ht 0; simpa [blank, segF] using this)]
    simp [partsF, segF, Tag.bytes]
  | (a, b, t') :: r, l, t, ht, hL => by
    have h1 := no59 l t ht a
    have e : blank l ++ (t.bytes ++ segF ((a, b, t') :: r)) = (blank l ++ (t.bytes ++ blank a)) ++ 59 :: (blank b ++ (t'.bytes ++ segF r)) := by simp [segF]
    rw [e, splitF_cons h1, split_rec r b t' (hL _ (List.mem_cons_self)) fun x hx => hL x (List.mem_cons_of_mem _ hx)]
    simp [partsF, Tag.bytes]
theorem core1 {c : UInt8} (h : sp c.toNat = false) : Core [c] := ⟨by simp, h, h⟩
theorem tag_read (l a : Nat) (t : Tag) (ht : t.Ok) : tagF (blank l ++ t.c :: blank t.a, blank t.b ++ (t.v ++ blank a)) = ([t.c], t.v) := by
  have h1 := trimF_core l t.a [t.c] (core1 ht.c.2.1)
  have h2 := trimF_core t.b a t.v ht.core
  simp only [tagF]
  rw [h2]
  congr 1
theorem parts_read : ∀ (L : List (Nat × Nat × Tag)) (l : Nat) (t : Tag), t.Ok → (∀ x ∈ L, x.2.2.Ok) → (partsF l t L).map tagF = ([t.c], t.v) :: L.map fun x => ([x.2.2.c], x.2.2.v)
  | [], l, t, ht, _ => by
    have := tag_read l 0 t ht
    simp only [show blank 0 = [] from rfl, List.append_nil] at this
    simp [partsF, this]
  | (a, b, t') :: r, l, t, ht, hL => by
    rw [partsF, List.map_cons, tag_read l a t ht, parts_read r b t' (hL _ (List.mem_cons_self)) fun x hx => hL x (List.mem_cons_of_mem _ hx)]
    rfl
theorem good_part (l a : Nat) (t : Tag) (ht : t.Ok) (hl : l ≤ 3) (ha : a ≤ 3) : GoodTag (blank l ++ t.c :: blank t.a, blank t.b ++ (t.v ++ blank a)) := by
  have h3 := ht.a
  have h4 := ht.b
  have h5 := ht.len
  refine ⟨fun h => ?_, fun x h => ?_, fun x h => ?_, ?_, ?_⟩
  · simp only [List.mem_append, List.mem_cons] at h
    rcases h with h | h | h
    · exact absurd (mem_blank h) (by decide)
    · exact ht.c.2.2.1 h.symm
    · exact absurd (mem_blank h) (by decide)
  · simp only [List.mem_append, List.mem_cons] at h
    rcases h with h | h | h
    · rw [mem_blank h]; decide
    · rw [h]; exact ht.c.1
    · rw [mem_blank h]; decide
  · simp only [List.mem_append] at h
    rcases h with h | h | h
    · rw [mem_blank h]; decide
    · exact (ht.ascii x h).1
    · rw [mem_blank h]; decide
  · simp [blank_length]; omega
  · simp [blank_length]; omega
theorem good_parts : ∀ (L : List (Nat × Nat × Tag)) (l : Nat) (t : Tag), t.Ok → l ≤ 3 → (∀ x ∈ L, x.2.2.Ok ∧ x.1 ≤ 3 ∧ x.2.1 ≤ 3) → ∀ p ∈ partsF l t L, GoodTag p
  | [], l, t, ht, hl, _, p, hp => by
    simp only [partsF, List.mem_cons, List.not_mem_nil, or_false] at hp
    subst hp
    have := good_part l 0 t ht hl (by omega)
    simpa [blank] using this
  | (a, b, t') :: r, l, t, ht, hl, hL, p, hp => by
    simp only [partsF, List.mem_cons] at hp
    have h1 := hL _ (List.mem_cons_self)
    rcases hp with rfl | hp
    · exact good_part l a t ht hl h1.2.1
    · exact good_parts r b t' h1.1 h1.2.2 (fun x hx => hL x (List.mem_cons_of_mem _ hx)) p hp
theorem lookup_mem' {k v : List UInt8} : ∀ {kvs : KVs}, (kvs.map (·.1)).Nodup → (k, v) ∈ kvs → kvs.lookup k = some v
  | [], _, h => by simp at h
  | (k', v') :: r, hn, h => by
    simp only [List.map_cons, List.nodup_cons] at hn
    rw [List.lookup_cons]
    rcases List.mem_cons.1 h with h' | h'
    · simp only [Prod.mk.injEq] at h'
      rw [h'.1, h'.2]
      simp
    · have hne : k ≠ k' := fun e => hn.1 (List.mem_map.2 ⟨(k, v), h', e⟩)
      simp only [show (k == k') = false by simpa using hne]
      exact lookup_mem' hn.2 h'
/-- The tags of the record, as they are laid. -/
def headTag : Tag := ⟨118, 0, 0, [68, 75, 73, 77, 49]⟩
def tags0 (a1 b1 a2 b2 : Nat) (K P : List UInt8) : List Tag :=
  [⟨107, a1, b1, K⟩, ⟨112, a2, b2, P⟩, ⟨116, 0, 0, [115]⟩, ⟨110, 0, 0, [110, 111, 116, 101]⟩, ⟨115, 0, 0, [101, 109, 97, 105, 108]⟩, ⟨104, 0, 0, [115, 104, 97, 50, 53, 54]⟩]
def recF (L : List (Nat × Nat × Tag)) : List UInt8 := [118, 61, 68, 75, 73, 77, 49] ++ segF L
theorem headTag_ok : headTag.Ok := ⟨by decide, by decide, by decide, ⟨by decide, by decide, by decide⟩, by decide, by decide⟩
theorem tags0_ok {a1 b1 a2 b2 : Nat} {K P : List UInt8} (h1 : a1 ≤ 3) (h2 : b1 ≤ 3) (h3 : a2 ≤ 3) (h4 : b2 ≤ 3) (hK : Core K) (hKa : ∀ x ∈ K, x.toNat < 128 ∧ x ≠ 59) (hKl : K.length ≤ 40000) (hP : Core P) (hPa : ∀ x ∈ P, x.toNat < 128 ∧ x ≠ 59) (hPl : P.length ≤ 40000) :
    ∀ t ∈ tags0 a1 b1 a2 b2 K P, t.Ok := by
  intro t ht
  simp only [tags0, List.mem_cons, List.not_mem_nil, or_false] at ht
  rcases ht with rfl | rfl | rfl | rfl | rfl | rfl
  · exact ⟨(by show (107 : UInt8).toNat < 128 ∧ sp (107 : UInt8).toNat = false ∧ (107 : UInt8) ≠ 61 ∧ (107 : UInt8) ≠ 59; decide), h1, h2, hK, hKa, hKl⟩
  · exact ⟨(by show (112 : UInt8).toNat < 128 ∧ sp (112 : UInt8).toNat = false ∧ (112 : UInt8) ≠ 61 ∧ (112 : UInt8) ≠ 59; decide), h3, h4, hP, hPa, hPl⟩
  · exact ⟨by decide, by decide, by decide, ⟨by decide, by decide, by decide⟩, by decide, by decide⟩
  · exact ⟨by decide, by decide, by decide, ⟨by decide, by decide, by decide⟩, by decide, by decide⟩
  · exact ⟨by decide, by decide, by decide, ⟨by decide, by decide, by decide⟩, by decide, by decide⟩
  · exact ⟨by decide, by decide, by decide, ⟨by decide, by decide, by decide⟩, by decide, by decide⟩
/-- What the record says. -/
theorem rec_says {a1 b1 a2 b2 : Nat} {K P : List UInt8} (L : List (Nat × Nat × Tag)) (hp : (L.map (·.2.2)).Perm (tags0 a1 b1 a2 b2 K P)) (hok : ∀ t ∈ tags0 a1 b1 a2 b2 K P, t.Ok) (hL : ∀ x ∈ L, x.1 ≤ 3 ∧ x.2.1 ≤ 3) :
    splitF 59 (recF L) = (partsF 0 headTag L).map (fun p => p.1 ++ 61 :: p.2) ∧ (∀ p ∈ partsF 0 headTag L, GoodTag p) ∧ (((partsF 0 headTag L).map tagF).map (·.1)).Nodup ∧ Rec ((partsF 0 headTag L).map tagF) K P := by
  have hLo : ∀ x ∈ L, x.2.2.Ok := fun x hx => hok _ (hp.mem_iff.1 (List.mem_map.2 ⟨x, hx, rfl⟩))
  have hrd := parts_read L 0 headTag headTag_ok hLo
  have hmm : (L.map fun x => (([x.2.2.c], x.2.2.v) : List UInt8 × List UInt8)).Perm ((tags0 a1 b1 a2 b2 K P).map fun t => ([t.c], t.v)) := by
    have := hp.map (fun t : Tag => (([t.c], t.v) : List UInt8 × List UInt8))
    rwa [List.map_map] at this
  have hall : ((partsF 0 headTag L).map tagF).Perm (([118], [68, 75, 73, 77, 49]) :: (tags0 a1 b1 a2 b2 K P).map fun t => ([t.c], t.v)) := by
    rw [hrd]
    exact List.Perm.cons _ hmm
  have hnd : (((partsF 0 headTag L).map tagF).map (·.1)).Nodup := by
    rw [(hall.map (·.1)).nodup_iff]
    simp [tags0]
  have hm : ∀ k v, (k, v) ∈ (([118], [68, 75, 73, 77, 49]) :: (tags0 a1 b1 a2 b2 K P).map fun t => ([t.c], t.v) : KVs) → ((partsF 0 headTag L).map tagF).lookup k = some v := fun k v h => lookup_mem' hnd (hall.mem_iff.2 h)
  refine ⟨?_, good_parts L 0 headTag headTag_ok (by omega) fun x hx => ⟨hLo x hx, hL x hx⟩, hnd, ⟨?_, ?_, ?_, ?_, ?_, ?_, ?_⟩⟩
  · exact split_rec L 0 headTag headTag_ok hLo
  all_goals exact hm _ _ (by simp [tags0])
end Go.Proofs.YtcebfkhfnjbfjaaGreatDoor
