/- The record is read: the walk of DRecord and the plain laws together. -/
import Derived.Test.YtcebfkhfnjbfjaaGreatDoorC36
import Derived.Test.YtcebfkhfnjbfjaaGreatDoorC38
import Derived.Test.YtcebfkhfnjbfjaaGreatDoorC41
namespace Go.Proofs.YtcebfkhfnjbfjaaGreatDoor
open Go.RowKit
set_option linter.unusedVariables false
set_option linter.unusedSimpArgs false
theorem digT_plain (q : Fin 64) : (digT.getD q 0).toNat < 128 ∧ digT.getD q 0 ≠ 59 ∧ digT.getD q 0 ≠ 32 ∧ sp (digT.getD q 0).toNat = false := by
  revert q
  decide
theorem text64_plain (l : List UInt8) : ∀ g, ∀ c ∈ text64 l g, c.toNat < 128 ∧ c ≠ 59 ∧ c ≠ 32 ∧ sp c.toNat = false
  | 0 => by simp [text64]
  | g + 1 => by
    intro c hc
    rw [text64, List.mem_append] at hc
    rcases hc with hc | hc
    · exact text64_plain l g c hc
    · have : ∃ k, c = dig64 l (3 * g) k := by
        simp only [four, List.mem_cons, List.not_mem_nil, or_false] at hc
        rcases hc with rfl | rfl | rfl | rfl <;> exact ⟨_, rfl⟩
      obtain ⟨k, rfl⟩ := this
      rcases dig64_or l (3 * g) k with h | ⟨q, hq, h⟩
      · rw [h]; decide
      · rw [h]
        exact digT_plain ⟨q, hq⟩
/-- The text so far, with blanks in it. -/
structure TextR (t : List UInt8) (i : Nat) (acc : List UInt8) : Prop where
  flt : acc.filter (· ≠ 32) = t.take i
  ends : 0 < i → 0 < acc.length ∧ acc.getD 0 0 ≠ 32 ∧ acc.getD (acc.length - 1) 0 ≠ 32
  len : acc.length ≤ i + 3 * (i / 30)
theorem TextR.start (t : List UInt8) : TextR t 0 [] := ⟨rfl, fun h => by omega, by simp⟩
theorem TextR.step {t : List UInt8} {i : Nat} {acc : List UInt8} (h : TextR t i acc) (hi : i < t.length) (hc : t.getD i 0 ≠ 32) (k : Nat) (hk : k ≤ 3) (hk0 : i % 30 ≠ 29 → k = 0) (hi0 : i = 0 → acc = []) : TextR t (i + 1) (acc ++ (blank k ++ [t.getD i 0])) := by
  have hfb : (blank k).filter (· ≠ 32) = [] := List.filter_eq_nil_iff.2 fun x hx => by rw [mem_blank hx]; decide
  refine ⟨?_, fun _ => ⟨by simp; omega, ?_, ?_⟩, ?_⟩
  · rw [List.filter_append, List.filter_append, h.flt, hfb, List.nil_append, List.take_add_one, List.getElem?_eq_getElem hi]
    congr 1
    rw [List.filter_cons_of_pos (by simpa using hc), List.getD_eq_getElem?_getD, List.getElem?_eq_getElem hi]
    rfl
  · by_cases h0 : i = 0
    · rw [hi0 h0]
      have : k = 0 := hk0 (by omega)
      subst this
      exact hc
    · obtain ⟨h1, h2, _⟩ := h.ends (by omega)
      rw [gd_left h1]
      exact h2
  · rw [← List.append_assoc, show ((acc ++ blank k) ++ [t.getD i 0]).length - 1 = (acc ++ blank k).length + 0 by simp, gd_right]
    exact hc
  · have h1 := h.len
    simp only [List.length_append, blank_length, List.length_cons, List.length_nil]
    by_cases h2 : i % 30 = 29
    · omega
    · have := hk0 h2
      omega
theorem filt_mem {x : UInt8} {acc t : List UInt8} (h : acc.filter (· ≠ 32) = t) (hx : x ∈ acc) : x = 32 ∨ x ∈ t := by
  by_cases e : x = 32
  · exact .inl e
  · refine .inr ?_
    rw [← h]
    exact List.mem_filter.2 ⟨hx, by simpa using e⟩
/-- What is known of a text's tag. -/
theorem TextR.tag {m acc : List UInt8} (h : TextR (text64F m) (text64F m).length acc) (hm : m ≠ []) (hl : m.length ≤ 20000) :
    Core acc ∧ (∀ x ∈ acc, x.toNat < 128 ∧ x ≠ 59) ∧ acc.length ≤ 40000 ∧ acc.filter (· ≠ 32) = text64F m := by
  have hpl : ∀ c ∈ text64F m, c.toNat < 128 ∧ c ≠ 59 ∧ c ≠ 32 ∧ sp c.toNat = false := fun c hc => text64_plain m _ c hc
  have hfl := h.flt
  rw [List.take_length] at hfl
  have hlen : (text64F m).length = 4 * ((m.length + 2) / 3) := by rw [text64F, text64_length]
  have hm0 : 0 < m.length := by cases m with | nil => exact absurd rfl hm | cons => simp
  have hend := h.ends (by omega)
  have hll := h.len
  have hsp : ∀ i, i < acc.length → acc.getD i 0 ≠ 32 → sp (acc.getD i 0).toNat = false := fun i hi hne => by
    have hmem : acc.getD i 0 ∈ acc := by
      rw [List.getD_eq_getElem?_getD, List.getElem?_eq_getElem hi]
      exact List.getElem_mem _
    rcases filt_mem hfl hmem with e | e
    · exact absurd e hne
    · exact (hpl _ e).2.2.2
  refine ⟨⟨hend.1, hsp 0 hend.1 hend.2.1, hsp _ (by omega) hend.2.2⟩, fun x hx => ?_, by omega, hfl⟩
  rcases filt_mem hfl hx with rfl | e
  · decide
  · exact ⟨(hpl x e).1, (hpl x e).2.1⟩
theorem segF_length : ∀ L : List (Nat × Nat × Tag), (∀ x ∈ L, x.1 ≤ 3 ∧ x.2.1 ≤ 3 ∧ x.2.2.a ≤ 3 ∧ x.2.2.b ≤ 3) → (segF L).length ≤ ((L.map (·.2.2)).map fun t => t.v.length + 15).sum
  | [], _ => by simp [segF]
  | (a, b, t) :: r, h => by
    have h1 := segF_length r fun x hx => h x (List.mem_cons_of_mem _ hx)
    have h2 := h _ List.mem_cons_self
    simp only at h2
    simp only [segF, Tag.bytes, List.map_cons, List.sum_cons, List.length_append, List.length_cons, blank_length]
    omega
/-- What a key's text, name and numbers are. -/
structure KeyIs (K m B : List UInt8) (bits x : Int) (ver : Value → World → Prop) : Prop where
  way : KeyWay m K ver
  bits : KeyBits m K B bits x ver
  ne : m ≠ []
  len : m.length ≤ 20000
  b0 : 0 < B.length
  bl : B.length ≤ 100000
theorem KeyIs.name {K m B : List UInt8} {bits x : Int} {ver : Value → World → Prop} (h : KeyIs K m B bits x ver) : Core K ∧ (∀ x ∈ K, x.toNat < 128 ∧ x ≠ 59) ∧ K.length ≤ 10 := by
  rcases h.way with ⟨_, rfl, _⟩ | ⟨rfl, _⟩
  · exact ⟨⟨by decide, by decide, by decide⟩, by decide, by decide⟩
  · exact ⟨⟨by decide, by decide, by decide⟩, by decide, by decide⟩
theorem reads_any {K m B acc : List UInt8} {bits x : Int} {ver : Value → World → Prop} {a1 b1 a2 b2 : Nat} (hk : KeyIs K m B bits x ver) (hacc : TextR (text64F m) (text64F m).length acc)
    (L : List (Nat × Nat × Tag)) (hp : (L.map (·.2.2)).Perm (tags0 a1 b1 a2 b2 K acc)) (h1 : a1 ≤ 3) (h2 : b1 ≤ 3) (h3 : a2 ≤ 3) (h4 : b2 ≤ 3) (hL : ∀ x ∈ L, x.1 ≤ 3 ∧ x.2.1 ≤ 3) (w : World) :
    Calls Tryz.prog 12 #[.string (str (recF L))] w fun e w' => DRecE K B bits x e w' ∧ Below w.heap.size w w' := by
  obtain ⟨c1, c2, c3, c4⟩ := hacc.tag hk.ne hk.len
  obtain ⟨n1, n2, n3⟩ := hk.name
  have hok := tags0_ok h1 h2 h3 h4 n1 n2 (by omega) c1 c2 c3
  obtain ⟨s1, s2, s3, s4⟩ := rec_says L hp hok hL
  have hlen : (recF L).length ≤ 50000 := by
    have h5 := segF_length L fun x hx => by
      have hx2 := hL x hx
      have ht := hok _ (hp.mem_iff.1 (List.mem_map.2 ⟨x, hx, rfl⟩))
      exact ⟨hx2.1, hx2.2, ht.a, ht.b⟩
    have h6 : ((L.map (·.2.2)).map fun t => t.v.length + 15).sum = ((tags0 a1 b1 a2 b2 K acc).map fun t => t.v.length + 15).sum := (hp.map _).sum_nat
    rw [h6] at h5
    simp [tags0] at h5
    simp [recF]
    omega
  have hpk := fun W => pubkey_any (recF L) (partsF 0 headTag L) K acc m ver W hlen s1 s2 s3 s4 (by omega) c4 hk.ne hk.len hk.way
  exact drecord_any (recF L) K B bits x w hk.b0 hk.bl fun W => record_any (recF L) m K B bits x ver W hk.way hk.bits hpk
end Go.Proofs.YtcebfkhfnjbfjaaGreatDoor
