/- The arguments, as they read, are options and slices that came in. -/
import Derived.Test.YtcebfkhfnjbfjaaGreatDoorC43
import Derived.ProofKit
import Derived.SliceStrings
import Derived.OpenShut
namespace Go.Proofs.YtcebfkhfnjbfjaaGreatDoor
open Go.ChangeShapes Go.WideShapes Go.ChangeAt Go.RowKit
set_option linter.unusedVariables false
set_option linter.unusedSimpArgs false
section
variable {H : Type} {enc : TypeId × Value → H} {W : World} {fuel : Nat} {v : Value} {x : DataW H × List MemPlace}
/-- A slice of bytes. -/
theorem open_bytes (h : DataW.trod enc Tryz.prog W 0 (fun _ => true) true fuel 22 [v] = some x) : ∃ l : List UInt8, SlI v (bs l) W := by
  rcases open_ints Tryz.underlying22 Tryz.underlying5 (by kernel_rfl) h with ⟨hcs, _⟩ | ⟨a, len, cap, zs, hcs, _, hl, hm, hz, _, hcell, hwz⟩
  · obtain rfl : v = .slice none 0 0 := by simpa using hcs
    exact ⟨[], none, 0, rfl, Nat.le_refl _, by simp [maxLen], .inl rfl⟩
  · obtain rfl : v = .slice (some a) len cap := by simpa using hcs
    simp only [if_true] at hz
    have hb : bs ((zs.take len).map fun n => UInt8.ofNat n.toNat) = (zs.take len).map (Value.int .u8) := by
      simp only [bs, List.map_map]
      refine List.map_congr_left fun n hn => ?_
      have h1 : 0 ≤ n ∧ n ≤ 255 := bounds_u8 (hwz n (List.mem_of_mem_take hn))
      simp only [Function.comp]
      congr 1
      rw [UInt8.toNat_ofNat_of_lt' (by show n.toNat < 256; omega)]
      omega
    have hlen : (bs ((zs.take len).map fun n => UInt8.ofNat n.toNat)).length = len := by rw [hb]; simp; omega
    refine ⟨(zs.take len).map fun n => UInt8.ofNat n.toNat, some a, cap, by rw [hlen], by rw [hlen]; exact hl, hm, ?_⟩
    by_cases h0 : len = 0
    · subst h0
      exact .inl (by simp [bs])
    · refine .inr ?_
      obtain ⟨b, o, sp⟩ := a
      have hc0 := hcell 0 (by omega)
      have hsp : sp = none := by simpa [Addr.add] using World.cell?_spot hc0
      subst hsp
      refine ⟨b, o, rfl, fun i y hy => ?_⟩
      rw [hb, List.getElem?_map, List.getElem?_take] at hy
      have hi : i < len := by
        by_cases hi : i < len
        · exact hi
        · rw [if_neg hi] at hy; cases hy
      rw [if_pos hi, List.getElem?_eq_getElem (by omega)] at hy
      have := hcell i (by omega)
      rw [List.getD_eq_getElem?_getD, List.getElem?_eq_getElem (by omega)] at this
      have ha : Addr.add ⟨b, o, none⟩ i = ⟨b, o + i, none⟩ := by cases i <;> simp [Addr.add]
      rw [ha] at this
      rw [this]
      exact hy
theorem text_of (s : ByteArray) : str s.data.toList = s := rfl
/-- A slice of texts. -/
theorem open_texts (h : DataW.trod enc Tryz.prog W 0 (fun _ => true) true fuel 23 [v] = some x) : ∃ l : List (List UInt8), SlI v (strs l) W ∧ ∀ k ∈ l, k.length ≤ maxLen := by
  rcases open_strings Tryz.underlying23 Tryz.underlying9 (by kernel_rfl) h with ⟨hcs, _⟩ | ⟨a, len, cap, ss, hcs, _, hl, hm, hz, _, hcell, hws⟩
  · obtain rfl : v = .slice none 0 0 := by simpa using hcs
    exact ⟨[], ⟨none, 0, rfl, Nat.le_refl _, by simp [maxLen], .inl rfl⟩, by simp⟩
  · obtain rfl : v = .slice (some a) len cap := by simpa using hcs
    simp only [if_true] at hz
    have hlen : (strs ((ss.take len).map fun s => s.data.toList)).length = len := by simp [strs]; omega
    refine ⟨(ss.take len).map fun s => s.data.toList, ⟨some a, cap, by rw [hlen], by rw [hlen]; exact hl, hm, ?_⟩, ?_⟩
    · by_cases h0 : len = 0
      · subst h0
        exact .inl (by simp [strs])
      · refine .inr ?_
        obtain ⟨b, o, sp⟩ := a
        have hc0 := hcell 0 (by omega)
        have hsp : sp = none := by simpa [Addr.add] using World.cell?_spot hc0
        subst hsp
        refine ⟨b, o, rfl, fun i y hy => ?_⟩
        simp only [strs, List.map_map, List.getElem?_map, List.getElem?_take] at hy
        have hi : i < len := by
          by_cases hi : i < len
          · exact hi
          · rw [if_neg hi] at hy; cases hy
        rw [if_pos hi, List.getElem?_eq_getElem (by omega)] at hy
        have := hcell i (by omega)
        rw [List.getD_eq_getElem?_getD, List.getElem?_eq_getElem (by omega)] at this
        have ha : Addr.add ⟨b, o, none⟩ i = ⟨b, o + i, none⟩ := by cases i <;> simp [Addr.add]
        rw [ha] at this
        rw [this]
        exact hy
    · intro k hk
      simp only [List.mem_map] at hk
      obtain ⟨s, hs, rfl⟩ := hk
      rw [Array.length_toList]
      exact hws s (List.mem_of_mem_take hs)
theorem array15 {α : Type} {cs : Array α} (h : cs.size = 15) : ∃ c0 c1 c2 c3 c4 c5 c6 c7 c8 c9 c10 c11 c12 c13 c14, cs = #[c0, c1, c2, c3, c4, c5, c6, c7, c8, c9, c10, c11, c12, c13, c14] := by
  obtain ⟨l⟩ := cs
  match l, h with
  | [c0, c1, c2, c3, c4, c5, c6, c7, c8, c9, c10, c11, c12, c13, c14], _ => exact ⟨c0, c1, c2, c3, c4, c5, c6, c7, c8, c9, c10, c11, c12, c13, c14, rfl⟩
theorem cells25 : Tryz.prog.cellsOf 25 = 15 := by kernel_rfl
theorem cells9 : Tryz.prog.cellsOf 9 = 1 := by kernel_rfl
theorem cells22 : Tryz.prog.cellsOf 22 = 1 := by kernel_rfl
theorem cells23 : Tryz.prog.cellsOf 23 = 1 := by kernel_rfl
theorem cells4 : Tryz.prog.cellsOf 4 = 1 := by kernel_rfl
theorem cells2 : Tryz.prog.cellsOf 2 = 1 := by kernel_rfl
theorem text_cell (h : DataW.trod enc Tryz.prog W 0 (fun _ => true) true fuel 9 [v] = some x) : ∃ l : List UInt8, v = .string (str l) ∧ l.length ≤ maxLen := by
  obtain ⟨s, h1, -, h2⟩ := DataW.trod_string Tryz.underlying9 h
  obtain rfl : v = .string s := by simpa using h1
  exact ⟨s.data.toList, rfl, by rw [Array.length_toList]; exact h2⟩
theorem int_cell (h : DataW.trod enc Tryz.prog W 0 (fun _ => true) true fuel 2 [v] = some x) : ∃ n, v = .int .i64 n := by
  obtain ⟨n, h1, -, -⟩ := DataW.trod_int Tryz.underlying2 h
  exact ⟨n, by simpa using h1⟩
theorem bool_cell (h : DataW.trod enc Tryz.prog W 0 (fun _ => true) true fuel 4 [v] = some x) : ∃ b, v = .bool b := by
  obtain ⟨b, h1, -⟩ := DataW.trod_bool Tryz.underlying4 h
  exact ⟨b, by simpa using h1⟩
set_option maxRecDepth 100000 in
/-- The options. -/
theorem open_opts {r : Reach} {b0 : Nat} {d : DataW H} {p : List MemPlace} (hv : Value.okWide Tryz.prog W r b0 25 v) (h : DataW.Trod enc Tryz.prog W 0 (fun _ => true) true 25 v d p) :
    ∃ o : Opts, v = .agg o.cells ∧ o.Ok W ∧ (∀ k ∈ o.keys, k.length ≤ maxLen) ∧ ∀ k ∈ o.query, k.length ≤ maxLen := by
  obtain ⟨cs, rfl, hsz⟩ := okWide_struct Tryz.underlying25 hv
  obtain ⟨c0, c1, c2, c3, c4, c5, c6, c7, c8, c9, c10, c11, c12, c13, c14, rfl⟩ := array15 (hsz.trans cells25)
  obtain ⟨fuel, hf⟩ := h
  obtain ⟨xs, n, _, _, _, hlen, hF⟩ := DataW.trod_struct Tryz.underlying25 hf
  have hx : ∀ i, i < 15 → ∃ y, xs[i]? = some y := fun i hi => ⟨xs[i]'(by rw [hlen]; exact hi), List.getElem?_eq_getElem _⟩
  have e0 := hF 0 _ rfl
  have e1 := hF 1 _ rfl
  have e2 := hF 2 _ rfl
  have e3 := hF 3 _ rfl
  have e4 := hF 4 _ rfl
  have e5 := hF 5 _ rfl
  have e6 := hF 6 _ rfl
  have e7 := hF 7 _ rfl
  have e8 := hF 8 _ rfl
  have e9 := hF 9 _ rfl
  have e10 := hF 10 _ rfl
  have e11 := hF 11 _ rfl
  have e12 := hF 12 _ rfl
  have e13 := hF 13 _ rfl
  have e14 := hF 14 _ rfl
  clear hF hf
  obtain ⟨y0, z0⟩ := hx 0 (by omega)
  obtain ⟨y1, z1⟩ := hx 1 (by omega)
  obtain ⟨y2, z2⟩ := hx 2 (by omega)
  obtain ⟨y3, z3⟩ := hx 3 (by omega)
  obtain ⟨y4, z4⟩ := hx 4 (by omega)
  obtain ⟨y5, z5⟩ := hx 5 (by omega)
  obtain ⟨y6, z6⟩ := hx 6 (by omega)
  obtain ⟨y7, z7⟩ := hx 7 (by omega)
  obtain ⟨y8, z8⟩ := hx 8 (by omega)
  obtain ⟨y9, z9⟩ := hx 9 (by omega)
  obtain ⟨y10, z10⟩ := hx 10 (by omega)
  obtain ⟨y11, z11⟩ := hx 11 (by omega)
  obtain ⟨y12, z12⟩ := hx 12 (by omega)
  obtain ⟨y13, z13⟩ := hx 13 (by omega)
  obtain ⟨y14, z14⟩ := hx 14 (by omega)
  rw [z0] at e0
  rw [z1] at e1
  rw [z2] at e2
  rw [z3] at e3
  rw [z4] at e4
  rw [z5] at e5
  rw [z6] at e6
  rw [z7] at e7
  rw [z8] at e8
  rw [z9] at e9
  rw [z10] at e10
  rw [z11] at e11
  rw [z12] at e12
  rw [z13] at e13
  rw [z14] at e14
  clear hx z0 z1 z2 z3 z4 z5 z6 z7 z8 z9 z10 z11 z12 z13 z14 hlen
  simp only [cells9, cells22, cells23, cells4, cells2, Value.cells, List.drop_zero, List.drop_succ_cons, List.take_succ_cons, List.take_zero] at e0 e1 e2 e3 e4 e5 e6 e7 e8 e9 e10 e11 e12 e13 e14
  obtain ⟨dom, rfl, l0⟩ := text_cell e0
  obtain ⟨sel, rfl, l1⟩ := text_cell e1
  obtain ⟨idn, rfl, l2⟩ := text_cell e2
  obtain ⟨kind, rfl, l3⟩ := text_cell e3
  obtain ⟨seed, s4⟩ := open_bytes e4
  obtain ⟨n, rfl, l5⟩ := text_cell e5
  obtain ⟨e, rfl, l6⟩ := text_cell e6
  obtain ⟨d', rfl, l7⟩ := text_cell e7
  obtain ⟨hdr, rfl, l8⟩ := text_cell e8
  obtain ⟨body, rfl, l9⟩ := text_cell e9
  obtain ⟨keys, s10, k10⟩ := open_texts e10
  obtain ⟨all, rfl⟩ := bool_cell e11
  obtain ⟨exp, rfl⟩ := int_cell e12
  obtain ⟨now, rfl⟩ := int_cell e13
  obtain ⟨query, s14, k14⟩ := open_texts e14
  refine ⟨⟨dom, sel, idn, kind, seed, n, e, d', hdr, body, all, exp, now, keys, query, c4, c10, c14⟩, rfl, ⟨s4, s10, s14, ?_⟩, k10, k14⟩
  intro l hl
  simp only [List.mem_cons, List.not_mem_nil, or_false] at hl
  rcases hl with rfl | rfl | rfl | rfl | rfl | rfl | rfl | rfl | rfl <;> assumption
/-- Bytes that came in. -/
theorem open_bytesT {d : DataW H} {p : List MemPlace} {a : Option Addr} {len cap : Nat} (h : DataW.Trod enc Tryz.prog W 0 (fun _ => true) true 22 (.slice a len cap) d p) : ∃ l : List UInt8, SlI (.slice a len cap) (bs l) W := by
  obtain ⟨fuel, hf⟩ := h
  exact open_bytes (by simpa [Value.cells] using hf)
end
end Go.Proofs.YtcebfkhfnjbfjaaGreatDoor
