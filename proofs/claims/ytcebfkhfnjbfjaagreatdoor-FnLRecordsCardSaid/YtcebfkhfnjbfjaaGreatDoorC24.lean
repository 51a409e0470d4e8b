/- Contract of parseHeaderParams. -/
import Derived.Test.YtcebfkhfnjbfjaaGreatDoorC22
import Derived.Test.YtcebfkhfnjbfjaaGreatDoorC23
namespace Go.Proofs.YtcebfkhfnjbfjaaGreatDoor
open Go.RowKit
set_option linter.unusedVariables false
set_option linter.unusedSimpArgs false
theorem cut_unique {c : UInt8} : ∀ {a b x y : List UInt8}, a ++ c :: b = x ++ c :: y → c ∉ a → c ∉ x → a = x ∧ b = y
  | [], b, [], y, h, _, _ => ⟨rfl, by simpa using h⟩
  | [], b, z :: x, y, h, _, h2 => by
    simp only [List.nil_append, List.cons_append, List.cons.injEq] at h
    exact absurd (h.1 ▸ List.mem_cons_self) h2
  | z :: a, b, [], y, h, h1, _ => by
    simp only [List.nil_append, List.cons_append, List.cons.injEq] at h
    exact absurd (h.1 ▸ List.mem_cons_self) h1
  | z :: a, b, u :: x, y, h, h1, h2 => by
    simp only [List.cons_append, List.cons.injEq] at h
    have := cut_unique h.2 (fun hh => h1 (List.mem_cons_of_mem _ hh)) (fun hh => h2 (List.mem_cons_of_mem _ hh))
    exact ⟨by rw [h.1, this.1], this.2⟩
theorem lookup_notin {k : List UInt8} : ∀ {kvs : KVs}, k ∉ kvs.map (·.1) → kvs.lookup k = none
  | [], _ => rfl
  | p :: r, h => by
    simp only [List.map_cons, List.mem_cons, not_or] at h
    rw [List.lookup_cons, show (k == p.1) = false by simpa using h.1]
    exact lookup_notin h.2
/-- A map of these tags is returned, and no error. -/
def MapE (base : Nat) (kvs : KVs) (e : Ending) (w : World) : Prop := ∃ b, base ≤ b ∧ e = .returned (.tuple #[.map (some b), .nilIface]) ∧ MapIs b kvs w
/-- A tag and its value, trimmed. -/
def tagF (p : List UInt8 × List UInt8) : List UInt8 × List UInt8 := (trimF p.1, trimF p.2)
/-- A part that can be read. -/
def GoodTag (p : List UInt8 × List UInt8) : Prop := 61 ∉ p.1 ∧ (∀ x ∈ p.1, x.toNat < 128) ∧ (∀ x ∈ p.2, x.toNat < 128) ∧ p.1.length ≤ 50000 ∧ p.2.length ≤ 50000
theorem zero9 : ∀ W, Sem.run Tryz.prog (zeroValue 9) W = .ok (.string (str [])) W := fun W => by
  simp [zeroValue, run_underlying Tryz.underlying9]
  rfl
set_option maxHeartbeats 2000000 in
set_option maxRecDepth 100000 in
theorem params_any (l : List UInt8) (ps : KVs) (w : World) (hl : l.length ≤ 100000) (hsp : splitF 59 l = ps.map fun p => p.1 ++ 61 :: p.2)
    (hg : ∀ p ∈ ps, GoodTag p) (hnd : ((ps.map tagF).map (·.1)).Nodup) :
    Calls Tryz.prog 62 #[.string (str l)] w fun e w' => MapE w.heap.size (ps.map tagF) e w' ∧ Below w.heap.size w w' := by
  have hsplit := zzSplit_any l 59 w hl
  rw [hsp] at hsplit
  obtain ⟨n, hn⟩ : ∃ n, ps.length = n := ⟨_, rfl⟩
  have hn0 : 0 < n := by
    have := splitF_ne 59 l
    rw [hsp] at this
    rw [← hn]
    cases ps with
    | nil => simp at this
    | cons p r => simp
  have hnl : n ≤ 100001 := by
    have := splitF_length 59 l
    rw [hsp, List.length_map] at this
    omega
  clear hsp
  obtain ⟨kvs, hkvs⟩ : ∃ kvs, ps.map tagF = kvs := ⟨_, rfl⟩
  rw [hkvs] at hnd ⊢
  have hat : ∀ i, i < n → ∃ a b k v, (ps.map fun p => p.1 ++ 61 :: p.2)[i]? = some (a ++ 61 :: b) ∧ GoodTag (a, b) ∧ trimF a = k ∧ trimF b = v ∧ kvs.take (i + 1) = kvs.take i ++ [(k, v)] ∧ (kvs.take i).lookup k = none := fun i hi => by
    have hx : ps[i]? = some ps[i] := List.getElem?_eq_getElem (by omega)
    have hk : kvs[i]? = some (tagF ps[i]) := by rw [← hkvs, List.getElem?_map, hx]; rfl
    have htk : kvs.take (i + 1) = kvs.take i ++ [tagF ps[i]] := by rw [List.take_add_one, hk]; rfl
    refine ⟨ps[i].1, ps[i].2, _, _, by rw [List.getElem?_map, hx]; rfl, hg _ (List.getElem_mem _), rfl, rfl, htk, ?_⟩
    refine lookup_notin fun hmem => ?_
    have h3 : ((kvs.take (i + 1)).map (·.1)).Nodup := (List.Sublist.map _ (List.take_sublist _ _)).nodup hnd
    rw [htk, List.map_append, List.nodup_append] at h3
    exact h3.2.2 _ hmem _ (by simp [tagF]) rfl
  obtain ⟨xs, hxs⟩ : ∃ xs, (ps.map fun p => p.1 ++ 61 :: p.2) = xs := ⟨_, rfl⟩
  rw [hxs] at hat hsplit
  have hxl : (strs xs).length = n := by rw [← hxs]; simp [strs, hn]
  have hkl : kvs.length = n := by rw [← hkvs]; simp [hn]
  have hcutc := fun (t : List UInt8) (h : t.length ≤ 200000) W => zzCut_any t 61 W (by omega)
  clear hg hnd hxs hkvs hn
  obtain ⟨ME, hME⟩ : ∃ ME, MapE w.heap.size kvs = ME := ⟨_, rfl⟩
  rw [hME]
  have hb0 := Below.refl w.heap.size w
  have hs59 : str [59] = ⟨#[59]⟩ := rfl
  have hmm : ∀ W, Sem.run Tryz.prog (Instr.makeMap 119 none) W = .ok (.map (some W.heap.size)) (W.alloc (.map #[] 0)) := fun W => rfl
  go_enter Tryz.func62, Tryz.ntmps62
  go_wp2_with fail
  refine hsplit.mono ?_
  rintro e w1 ⟨⟨v, rfl, hown⟩, hb1⟩
  obtain ⟨g4, c4, hv, _⟩ := hown.get 0 ((strs xs)[0]'(by omega)) (List.getElem?_eq_getElem (by omega))
  rw [hxl] at hv
  subst hv
  have hne1 := (hown.lt g4 rfl).2
  have hmap := MapIs.new w1
  have hb2 := hb1.alloc hb1.size (.map #[] 0)
  have hown2 := hown.alloc (.map #[] 0)
  have hmb : w.heap.size ≤ w1.heap.size := hb1.size
  clear hsplit hown hb1
  go_wp2_with fail
  obtain ⟨b, hb⟩ : ∃ b, w1.heap.size = b := ⟨_, rfl⟩
  rw [hb] at hmap hmb ⊢
  have hne : g4 ≠ b := by omega
  clear hne1 hb
  generalize w1.alloc (.map #[] 0) = w2 at hmap hb2 hown2 ⊢
  go_loopw [19] (fun v19 W => ∃ i : Nat, v19 = .int .i64 (i : Int) ∧ i ≤ n ∧ Own w.heap.size 9 (.slice (some ⟨g4, 0, none⟩) n c4) (strs xs) W ∧ MapIs b (kvs.take i) W ∧ Below w.heap.size w W) (fun v19 _ => (n - intOf v19).toNat)
  case atStart => exact ⟨0, rfl, by omega, hown2, hmap, hb2⟩
  case round =>
    clear hown2 hmap hb2
    obtain ⟨i, rfl, hi, hown, hmap, hb1⟩ := hrel
    by_cases h1 : i < n
    · have hd1 : decide ((i : Int) < (n : Int)) = true := by simp; omega
      obtain ⟨a, c, k, v, hx, hgood, hk, hv, htk, hlk⟩ := hat i h1
      obtain ⟨ha1, ha2, ha3, ha4, ha5⟩ := hgood
      obtain ⟨g', c', e, hcell, _⟩ := hown.get i (.string (str (a ++ 61 :: c))) (by simp only [strs, List.getElem?_map, hx]; rfl)
      simp only [Value.slice.injEq, Option.some.injEq, Addr.mk.injEq] at e
      obtain ⟨⟨rfl, -, -⟩, -, rfl⟩ := e
      have hct := hcutc (a ++ 61 :: c) (by simp at ha4 ha5 ⊢; omega)
      have ht1 := zzTrimSpace_any a
      have ht2 := zzTrimSpace_any c
      rw [hk] at ht1
      rw [hv] at ht2
      clear hcutc hat hk hv hx
      go_wp2_with fail
      refine (hct _).mono ?_
      rintro e w3 ⟨h3, hb3⟩
      obtain rfl : e = .returned (.tuple #[.string (str a), .string (str c), .bool true]) := by
        rcases h3 with ⟨hn3, _⟩ | ⟨x, y, hxy, hn3, rfl⟩
        · exact absurd (List.mem_append_right _ List.mem_cons_self) hn3
        · obtain ⟨rfl, rfl⟩ := cut_unique hxy ha1 hn3
          rfl
      replace hown := hown.below hb3 (Nat.le_refl _)
      replace hmap := hmap.keep hb3 (Nat.le_refl _)
      replace hb1 := hb1.trans (hb3.mono hb1.size)
      clear h3 hb3 hct hcell
      go_wp2_with fail
      refine (ht1 _ (by omega) ha2).mono ?_
      rintro e w4 ⟨rfl, hb4⟩
      replace hown := hown.below hb4 (Nat.le_refl _)
      replace hmap := hmap.keep hb4 (Nat.le_refl _)
      replace hb1 := hb1.trans (hb4.mono hb1.size)
      have hlook := hmap.lookup2 Tryz.underlying119 Tryz.underlying9 zero9 k w4 rfl
      rw [hlk] at hlook
      simp only [Option.getD_none, Option.isSome_none] at hlook
      clear hb4 ht1
      go_wp2_with fail
      refine (ht2 _ (by omega) ha3).mono ?_
      rintro e w5 ⟨rfl, hb5⟩
      replace hown := hown.below hb5 (Nat.le_refl _)
      replace hmap := hmap.keep hb5 (Nat.le_refl _)
      replace hb1 := hb1.trans (hb5.mono hb1.size)
      clear hb5 ht2 hlook
      go_wp2_with (refine wpList_tag Tryz.underlying119 Tryz.underlying9 rfl (.tmp 47) (.tmp 48) (.tmp 50) rfl rfl k v rfl rfl hmap hlk ?_; intro w6 hmap6 hg6; rw [← htk] at hmap6; have hown6 := hown.grown hg6 (.inr (by simpa [Value.ownBlock] using hne)); replace hb1 := below_grown hb1 hg6 (fun k hk => by simp only [Option.some.injEq] at hk; omega) hb1.size; clear hown hmap hg6)
      go_roundw
      case rel => exact ⟨i + 1, by go_num, by omega, hown6, hmap6, hb1⟩
      case measure => simp [intOf] <;> omega
    · have hd1 : decide ((i : Int) < (n : Int)) = false := by simp; omega
      obtain rfl : i = n := by omega
      have hfin : ME (.returned (.tuple #[.map (some b), .nilIface])) wr := by
        rw [← hME]
        rw [List.take_of_length_le (by omega)] at hmap
        exact ⟨b, hmb, rfl, hmap⟩
      clear hmap hat
      go_wp2
      go_ret2
      exact ⟨hfin, hb1⟩
end Go.Proofs.YtcebfkhfnjbfjaaGreatDoor
