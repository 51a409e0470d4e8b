/- Contract of parsePublicKey. -/
import Derived.Test.YtcebfkhfnjbfjaaGreatDoorC28
import Derived.Test.YtcebfkhfnjbfjaaGreatDoorC32
namespace Go.Proofs.YtcebfkhfnjbfjaaGreatDoor
open Go.RowKit
set_option linter.unusedVariables false
set_option linter.unusedSimpArgs false
/-- What the record's tags say. -/
structure Rec (kvs : KVs) (K P : List UInt8) : Prop where
  v : kvs.lookup [118] = some [68, 75, 73, 77, 49]
  p : kvs.lookup [112] = some P
  k : kvs.lookup [107] = some K
  h : kvs.lookup [104] = some [115, 104, 97, 50, 53, 54]
  n : kvs.lookup [110] = some [110, 111, 116, 101]
  s : kvs.lookup [115] = some [101, 109, 97, 105, 108]
  t : kvs.lookup [116] = some [115]
/-- What is returned. -/
def QueryE (ver : Value → World → Prop) (K : List UInt8) (e : Ending) (w : World) : Prop :=
  ∃ R V hg hn hc sg sn sc fg fn fc, e = .returned (.tuple #[.pointer (some ⟨R, 0, none⟩), .nilIface]) ∧
    w.heap[R]? = some (.cells #[V, .string (str K), .slice (some ⟨hg, 0, none⟩) hn hc, .string (str [110, 111, 116, 101]), .slice (some ⟨sg, 0, none⟩) sn sc, .slice (some ⟨fg, 0, none⟩) fn fc] 95 (0, 0)) ∧ ver V w
/-- The verifier of a key of Ed25519. -/
def EdV (m : List UInt8) (V : Value) (w : World) : Prop := ∃ v, V = .iface 103 (.agg #[v]) ∧ Sl v (bs m) w
/-- The verifier of a key of RSA. -/
def RsaV (n : List UInt8) (x : Nat) (V : Value) (w : World) : Prop :=
  ∃ K vn, V = .iface 98 (.agg #[.pointer (some ⟨K, 0, none⟩)]) ∧ w.heap[K]? = some (.cells #[vn, .int .i64 (x : Int)] 101 (0, 0)) ∧ Sl vn (bs n) w
section
variable {b : Nat} {kvs : KVs} {w : World}
theorem MapIs.have (h : MapIs b kvs w) {k v : List UInt8} (hk : kvs.lookup k = some v) : Sem.run Tryz.prog (Instr.lookup 119 (.map (some b)) (.string (str k)) true) w = .ok (.tuple #[.string (str v), .bool true]) w := by
  have := h.lookup2 Tryz.underlying119 Tryz.underlying9 zero9 k w rfl
  rw [hk] at this
  exact this
theorem MapIs.have1 (h : MapIs b kvs w) {k v : List UInt8} (hk : kvs.lookup k = some v) : Sem.run Tryz.prog (Instr.lookup 119 (.map (some b)) (.string (str k)) false) w = .ok (.string (str v)) w := by
  have := h.lookup1 Tryz.underlying119 Tryz.underlying9 zero9 k w rfl
  rw [hk] at this
  exact this
end
theorem cells_at {w : World} {R : Nat} {cs : Array Value} (h : w.heap[R]? = some (.cells cs 95 (0, 0))) (i : Nat) (v : Value) (hv : cs[i]? = some v) :
    w.cell? ⟨R, i, none⟩ = some v ∧ w.frozen? ⟨R, i, none⟩ = false := ⟨by rw [cell_of_row w R i _ 95 (0, 0) h]; exact hv, frozen_of_row w R i _ 95 h⟩
/-- What stands while the answer is laid. -/
structure Laying (b R base : Nat) (kvs : KVs) (cs : Array Value) (w0 w : World) : Prop where
  cells : w.heap[R]? = some (.cells cs 95 (0, 0))
  map : MapIs b kvs w
  below : Below base w0 w
  le : base ≤ R
  noint : ∀ x ∈ cs.toList, ∀ k n, x ≠ .int k n
theorem Laying.lt {b R base : Nat} {kvs : KVs} {cs : Array Value} {w0 w : World} (h : Laying b R base kvs cs w0 w) : R < w.heap.size := (Array.getElem?_eq_some_iff.1 h.cells).1
theorem Laying.keep {b R base : Nat} {kvs : KVs} {cs : Array Value} {w0 w w' : World} (h : Laying b R base kvs cs w0 w) (hb : Below w.heap.size w w') : Laying b R base kvs cs w0 w' :=
  ⟨(hb.block R h.lt).trans h.cells, h.map.keep hb (Nat.le_refl _), h.below.trans (hb.mono (by have := h.lt; have := h.le; omega)), h.le, h.noint⟩
theorem Laying.set {b R base : Nat} {kvs : KVs} {cs : Array Value} {w0 w : World} (h : Laying b R base kvs cs w0 w) (hb : b < R) (i : Nat) (v : Value) (hv : ∀ k n, v ≠ .int k n) : Laying b R base kvs (cs.setIfInBounds i v) w0 (w.setCell ⟨R, i, none⟩ v) :=
  ⟨heap_setCell_same w R i _ 95 v h.cells, h.map.grown (grownBy_setCell w _ v) (by simp; omega), h.below.setCell h.le _, h.le, fun x hx k n => by
    rw [Array.toList_setIfInBounds] at hx
    rcases List.mem_or_eq_of_mem_set hx with hx | rfl
    · exact h.noint x hx k n
    · exact hv k n⟩
theorem Laying.other {b R base : Nat} {kvs : KVs} {cs : Array Value} {w0 w : World} (h : Laying b R base kvs cs w0 w) {g o : Nat} {k : IntKind} {n : Int} (hc : w.cell? ⟨g, o, none⟩ = some (.int k n)) : g ≠ R := by
  rintro rfl
  rw [cell_of_row w g o _ 95 (0, 0) h.cells] at hc
  exact h.noint _ (Array.mem_toList_iff.2 (Array.mem_of_getElem? hc)) k n rfl
theorem Laying.sl {b R base : Nat} {kvs : KVs} {cs : Array Value} {w0 w : World} (h : Laying b R base kvs cs w0 w) {v : Value} {l : List UInt8} (hs : Sl v (bs l) w) (hl : 0 < l.length) (i : Nat) (u : Value) : Sl v (bs l) (w.setCell ⟨R, i, none⟩ u) := by
  obtain ⟨g0, o0, c0, e0, hc0⟩ := hs.byte hl
  have hne := h.other hc0
  obtain ⟨a, cap, h1, h2, h3, h4⟩ := hs
  refine ⟨a, cap, h1, h2, h3, ?_⟩
  rcases h4 with h4 | ⟨g, o, rfl, h5⟩
  · exact .inl h4
  · refine .inr ⟨g, o, rfl, fun j x hx => ?_⟩
    rw [h1] at e0
    simp only [Value.slice.injEq, Option.some.injEq, Addr.mk.injEq] at e0
    obtain ⟨⟨rfl, _⟩, _⟩ := e0
    rw [World.cell?_of_block (w := w) (heap_setCell_other w ⟨R, i, none⟩ g u hne)]
    exact h5 j x hx
theorem bareB_le (c : List UInt8) : (bareB c).length ≤ c.length := (List.dropWhile_sublist _).length_le
/-- The ways of a key. -/
def KeyWay (m K : List UInt8) (ver : Value → World → Prop) : Prop :=
  (m.length = 32 ∧ K = [101, 100, 50, 53, 53, 49, 57] ∧ ver = EdV m) ∨
  (K = [114, 115, 97] ∧ ∃ cn ce, KeyB cn ce ∧ (m = innerB cn ce ∨ m = outerB cn ce) ∧ 128 ≤ (bareB cn).length ∧ ver = RsaV (bareB cn) (accF ce ce.length))
theorem KeyWay.keep {m K : List UInt8} {ver : Value → World → Prop} (h : KeyWay m K ver) {V : Value} {w w' : World} (hv : ver V w) {B : Nat} (hb : Below B w w') (hB : w.heap.size ≤ B) : ver V w' := by
  rcases h with ⟨_, _, rfl⟩ | ⟨_, cn, ce, _, _, _, rfl⟩
  · obtain ⟨v, h1, h2⟩ := hv
    exact ⟨v, h1, h2.below hb hB⟩
  · obtain ⟨K, vn, h1, h2, h3⟩ := hv
    exact ⟨K, vn, h1, (hb.block K (by have := (Array.getElem?_eq_some_iff.1 h2).1; omega)).trans h2, h3.below hb hB⟩
theorem KeyWay.set {m K : List UInt8} {ver : Value → World → Prop} (h : KeyWay m K ver) {b R base : Nat} {kvs : KVs} {cs : Array Value} {w0 w : World} (hL : Laying b R base kvs cs w0 w) {V : Value} (hv : ver V w) (i : Nat) (u : Value) : ver V (w.setCell ⟨R, i, none⟩ u) := by
  rcases h with ⟨h32, _, rfl⟩ | ⟨_, cn, ce, _, _, h128, rfl⟩
  · obtain ⟨v, h1, h2⟩ := hv
    exact ⟨v, h1, hL.sl h2 (by omega) i u⟩
  · obtain ⟨K, vn, h1, h2, h3⟩ := hv
    refine ⟨K, vn, h1, ?_, hL.sl h3 (by omega) i u⟩
    have hne : K ≠ R := by
      rintro rfl
      have := hL.cells
      rw [h2] at this
      simp at this
    rw [heap_setCell_other w ⟨R, i, none⟩ K u hne]
    exact h2
set_option maxHeartbeats 4000000 in
set_option maxRecDepth 100000 in
theorem pubkey_any (l : List UInt8) (ps : KVs) (K P m : List UInt8) (ver : Value → World → Prop) (w : World) (hl : l.length ≤ 50000) (hsp : splitF 59 l = ps.map fun p => p.1 ++ 61 :: p.2)
    (hg : ∀ p ∈ ps, GoodTag p) (hnd : ((ps.map tagF).map (·.1)).Nodup) (hr : Rec (ps.map tagF) K P) (hP : P.length ≤ 100000) (hPm : P.filter (· ≠ 32) = text64F m) (hm0 : m ≠ []) (hm : m.length ≤ 20000) (hway : KeyWay m K ver) :
    Calls Tryz.prog 44 #[.string (str l)] w fun e w' => QueryE ver K e w' ∧ Below w.heap.size w w' := by
  have hpar := params_any l ps w (by omega) hsp hg hnd
  obtain ⟨kvs, hkvs⟩ : ∃ kvs, ps.map tagF = kvs := ⟨_, rfl⟩
  rw [hkvs] at hpar hr
  have hra := fun W => zzReplaceAll_any P W hP
  rw [hPm] at hra
  have hdec := fun W => zzDecode_any m W hm
  have hP0 : P ≠ [] := by
    rintro rfl
    have : (text64F m).length = 0 := by rw [← hPm]; rfl
    rw [text64F, text64_length] at this
    have : 0 < m.length := by cases m with | nil => exact absurd rfl hm0 | cons => simp
    omega
  obtain ⟨tx, htx⟩ : ∃ tx, text64F m = tx := ⟨_, rfl⟩
  rw [htx] at hra hdec hPm
  obtain ⟨EE, hEE⟩ : ∃ EE, QueryE ver K = EE := ⟨_, rfl⟩
  rw [hEE]
  clear hsp hg hnd hkvs hPm htx hl
  go_enter Tryz.func44, Tryz.ntmps44
  go_wp2_with fail
  refine hpar.mono ?_
  rintro e w1 ⟨⟨b, hbb, rfl, hmap⟩, hb1⟩
  clear hpar
  have hcells := heap_alloc_new w1 (.cells #[.nilIface, .string ⟨#[]⟩, .slice none 0 0, .string ⟨#[]⟩, .slice none 0 0, .slice none 0 0] 95)
  have hb2 := hb1.alloc hb1.size (.cells #[.nilIface, .string ⟨#[]⟩, .slice none 0 0, .string ⟨#[]⟩, .slice none 0 0, .slice none 0 0] 95)
  have hmap2 := hmap.grown (World.grownBy_alloc w1 (.cells #[.nilIface, .string ⟨#[]⟩, .slice none 0 0, .string ⟨#[]⟩, .slice none 0 0, .slice none 0 0] 95) none) (by simp)
  have hbR := hmap.lt
  have hL : Laying b w1.heap.size w.heap.size kvs #[.nilIface, .string ⟨#[]⟩, .slice none 0 0, .string ⟨#[]⟩, .slice none 0 0, .slice none 0 0] w _ := ⟨hcells, hmap2, hb2, hb1.size, by simp⟩
  have k1 := hmap2.have hr.v
  have k2 := hmap2.have hr.p
  have e1 : ((str [68, 75, 73, 77, 49]).toList == [68, 75, 73, 77, 49]) = true := by rw [toList_str]; rfl
  have e2 : (str P).toList.isEmpty = false := by rw [toList_str]; cases P with | nil => exact absurd rfl hP0 | cons => rfl
  rw [show str [118] = ⟨#[118]⟩ from rfl] at k1
  rw [show str [112] = ⟨#[112]⟩ from rfl] at k2
  generalize str [68, 75, 73, 77, 49] = v1 at k1 e1
  rw [show str [32] = ⟨#[32]⟩ from rfl, show str [] = ⟨#[]⟩ from rfl] at hra
  generalize str P = sP at k2 e2 hra
  clear hcells hmap2 hb2
  go_wp2_with fail
  refine (hra _).mono ?_
  rintro e w3 ⟨rfl, hb3⟩
  obtain ⟨R, hR⟩ : ∃ R, w1.heap.size = R := ⟨_, rfl⟩
  rw [hR] at hL hbR ⊢
  clear hb1 hmap k1 k2 e1 e2 hR
  generalize w1.alloc (.cells #[.nilIface, .string ⟨#[]⟩, .slice none 0 0, .string ⟨#[]⟩, .slice none 0 0, .slice none 0 0] 95) = w2 at hL hb3
  replace hL := hL.keep hb3
  clear hb3
  go_wp2_with fail
  refine (hdec _).mono ?_
  rintro e w4 ⟨⟨v, rfl, hsl⟩, hb3⟩
  replace hL := hL.keep hb3
  clear hb3 hdec hra
  obtain ⟨a4, c4, rfl⟩ := hsl.lenB
  have k3 := hL.map.have1 hr.k
  rw [show str [107] = ⟨#[107]⟩ from rfl] at k3
  have htg := fun W => tags_any [115, 104, 97, 50, 53, 54] W (by decide) (by decide) (by decide)
  have htg2 := fun W => tags_any [101, 109, 97, 105, 108] W (by decide) (by decide) (by decide)
  have htg3 := fun W => tags_any [115] W (by decide) (by decide) (by decide)
  have hway' := hway
  obtain ⟨q, hq⟩ : ∃ q, m.length = q := ⟨_, rfl⟩
  rw [hq] at hsl hm ⊢
  rcases hway with ⟨hm32, rfl, hver⟩ | ⟨rfl, cn, ce, hkb, hmm, hn128, hver⟩
  · rw [hm32] at hq
    subst hq
    have e1 : ((str [101, 100, 50, 53, 53, 49, 57]).toList == [114, 115, 97]) = false := by rw [toList_str]; rfl
    have e2 : ((str [101, 100, 50, 53, 53, 49, 57]).toList == [101, 100, 50, 53, 53, 49, 57]) = true := by rw [toList_str]; rfl
    have e3 : (str [101, 100, 50, 53, 53, 49, 57]).toList.isEmpty = false := by rw [toList_str]; rfl
    obtain ⟨c0, f0⟩ := cells_at hL.cells 0 _ rfl
    obtain ⟨c1, f1⟩ := cells_at hL.cells 1 _ rfl
    have hv0 : ver (.iface 103 (.agg #[.slice a4 32 c4])) w4 := by rw [hver]; exact ⟨_, rfl, hsl⟩
    have hvA := hway'.set hL hv0 0 (.iface 103 (.agg #[.slice a4 32 c4]))
    have hLA := hL.set hbR 0 (.iface 103 (.agg #[.slice a4 32 c4])) (by simp)
    replace hvA := hway'.set hLA hvA 1 (.string ⟨#[101, 100, 50, 53, 53, 49, 57]⟩)
    replace hLA := hLA.set hbR 1 (.string ⟨#[101, 100, 50, 53, 53, 49, 57]⟩) (by simp)
    simp only [List.setIfInBounds_toArray, List.set_cons_zero, List.set_cons_succ] at hLA
    have kh := hLA.map.have hr.h
    rw [show str [104] = ⟨#[104]⟩ from rfl] at kh
    generalize str [115, 104, 97, 50, 53, 54] = vh at kh htg
    generalize str [101, 100, 50, 53, 53, 49, 57] = sK at k3 e1 e2 e3
    clear hver hv0 hm32
    go_wp2_with fail
    refine (htg _).mono ?_
    clear kh c0 c1 f0 f1 htg hsl hL
    rintro e w5 ⟨⟨v5, rfl, ho5⟩, hb5⟩
    obtain ⟨g5, c5, e5, -⟩ := ho5.get 0 _ rfl
    simp only [strs, List.map_cons, List.map_nil, List.length_cons, List.length_nil, Nat.zero_add] at e5
    subst e5
    replace hvA := hway'.keep hvA hb5 (Nat.le_refl _)
    replace hLA := hLA.keep hb5
    obtain ⟨c2, f2⟩ := cells_at hLA.cells 2 _ rfl
    obtain ⟨c3, f3⟩ := cells_at hLA.cells 3 _ rfl
    replace hvA := hway'.set hLA hvA 2 (.slice (some ⟨g5, 0, none⟩) 1 c5)
    replace hLA := hLA.set hbR 2 (.slice (some ⟨g5, 0, none⟩) 1 c5) (by simp)
    have kn := hLA.map.have hr.n
    replace hvA := hway'.set hLA hvA 3 (.string (str [110, 111, 116, 101]))
    replace hLA := hLA.set hbR 3 (.string (str [110, 111, 116, 101])) (by simp)
    have ks := hLA.map.have hr.s
    rw [show str [110] = ⟨#[110]⟩ from rfl] at kn
    rw [show str [115] = ⟨#[115]⟩ from rfl] at ks
    simp only [List.setIfInBounds_toArray, List.set_cons_zero, List.set_cons_succ] at hLA
    have htg2' := fun W => htg2 W
    obtain ⟨vn, hvn⟩ : ∃ vn, str [110, 111, 116, 101] = vn := ⟨_, rfl⟩
    rw [hvn] at kn ks hLA hvA
    generalize str [101, 109, 97, 105, 108] = ve at ks htg2'
    clear hb5 ho5
    go_wp2_with fail
    refine (htg2' _).mono ?_
    rintro e w6 ⟨⟨v6, rfl, ho6⟩, hb6⟩
    obtain ⟨g6, c6, e6, h6, -⟩ := ho6.get 0 (.string (str (stripF [101, 109, 97, 105, 108]))) rfl
    simp only [strs, List.map_cons, List.map_nil, List.length_cons, List.length_nil, Nat.zero_add] at e6
    subst e6
    replace hvA := hway'.keep hvA hb6 (Nat.le_refl _)
    replace hLA := hLA.keep hb6
    have e4 : ((str (stripF [101, 109, 97, 105, 108])).toList == [42]) = false := by rw [toList_str]; decide
    generalize str (stripF [101, 109, 97, 105, 108]) = vs at h6 e4
    obtain ⟨c4', f4⟩ := cells_at hLA.cells 4 _ rfl
    clear hb6 ho6 htg2' kn ks c2 c3 f2 f3
    go_wp2_with fail
    go_loopw [21, 168] (fun v21 v168 W => ∃ i : Nat, v168 = .int .i64 (i : Int) ∧ i ≤ 1 ∧ v21 = .bool false ∧ W = w6) (fun _ v168 _ => (1 - intOf v168).toNat)
    case atStart => exact ⟨0, rfl, by omega, rfl, rfl⟩
    case round =>
      obtain ⟨i, rfl, hi, rfl, rfl⟩ := hrel
      by_cases h1 : i < 1
      · obtain rfl : i = 0 := by omega
        rw [show (((0 : Nat) : Int)) = 0 from rfl]
        go_wp2
        go_roundw
        case rel => exact ⟨1, by go_num, by omega, by simp⟩
        case measure => simp [intOf]
      · obtain rfl : i = 1 := by omega
        rw [show (((1 : Nat) : Int)) = 1 from rfl]
        replace hvA := hway'.set hLA hvA 4 (.slice (some ⟨g6, 0, none⟩) 1 c6)
        replace hLA := hLA.set hbR 4 (.slice (some ⟨g6, 0, none⟩) 1 c6) (by simp)
        have kt := hLA.map.have hr.t
        rw [show str [116] = ⟨#[116]⟩ from rfl] at kt
        simp only [List.setIfInBounds_toArray, List.set_cons_zero, List.set_cons_succ] at hLA
        generalize str [115] = vt at kt htg3
        go_wp2_with fail
        refine (htg3 _).mono ?_
        rintro e w7 ⟨⟨v7, rfl, ho7⟩, hb7⟩
        obtain ⟨g7, c7, e7, -⟩ := ho7.get 0 _ rfl
        simp only [strs, List.map_cons, List.map_nil, List.length_cons, List.length_nil, Nat.zero_add] at e7
        subst e7
        replace hvA := hway'.keep hvA hb7 (Nat.le_refl _)
        replace hLA := hLA.keep hb7
        obtain ⟨c5', f5⟩ := cells_at hLA.cells 5 _ rfl
        replace hvA := hway'.set hLA hvA 5 (.slice (some ⟨g7, 0, none⟩) 1 c7)
        replace hLA := hLA.set hbR 5 (.slice (some ⟨g7, 0, none⟩) 1 c7) (by simp)
        simp only [List.setIfInBounds_toArray, List.set_cons_zero, List.set_cons_succ] at hLA
        have hfin : EE (.returned (.tuple #[.pointer (some ⟨R, 0, none⟩), .nilIface])) (w7.setCell ⟨R, 5, none⟩ (.slice (some ⟨g7, 0, none⟩) 1 c7)) := by
          rw [← hEE]
          rw [← hvn] at hLA
          exact ⟨R, _, g5, 1, c5, g6, 1, c6, g7, 1, c7, rfl, hLA.cells, hvA⟩
        have hbe := hLA.below
        clear kt ho7 hb7 htg3 hLA
        go_wp2
        go_ret2
        exact ⟨hfin, hbe⟩
  · have e1 : ((str [114, 115, 97]).toList == [114, 115, 97]) = true := by rw [toList_str]; rfl
    generalize str [114, 115, 97] = sK at k3 e1
    rcases hmm with rfl | rfl
    · have hin := pkix_inner _ cn ce w4 hsl hkb
      go_wp2_with fail
      refine hin.mono ?_
      rintro e w4' ⟨⟨d, x, rfl⟩, hb4⟩
      replace hL := hL.keep hb4
      have hsl' := hsl.below hb4 (Nat.le_refl _)
      have hp1 := pkcs1_any _ cn ce w4' hsl' hkb
      clear hin hb4 k3 e1 hsl hsl'
      go_wp2_with fail
      refine hp1.mono ?_
      clear hp1
      rintro e w5 ⟨⟨K, vn, rfl, hK, hSn⟩, hb5⟩
      replace hL := hL.keep hb5
      clear hb5
      go_wp2_with fail
      refine (Size_any K vn (bareB cn) _ w5 hK hSn).mono ?_
      rintro e w6 ⟨rfl, hb6⟩
      have hne : K ≠ R := by
        rintro rfl
        have := hL.cells
        rw [hK] at this
        simp at this
      replace hL := hL.keep hb6
      have hv0 : ver (.iface 98 (.agg #[.pointer (some ⟨K, 0, none⟩)])) w6 := by
        rw [hver]
        exact ⟨K, vn, rfl, (hb6.block K (Array.getElem?_eq_some_iff.1 hK).1).trans hK, hSn.below hb6 (Nat.le_refl _)⟩
      obtain ⟨nl, hnl⟩ : ∃ nl, (bareB cn).length = nl := ⟨_, rfl⟩
      have hnle : nl ≤ 100000 := by have := bareB_le cn; have := hkb.n; omega
      rw [hnl] at hn128 ⊢
      have hnd : decide ((nl : Int) * 8 < 1024) = false := by simp; omega
      obtain ⟨c0, f0⟩ := cells_at hL.cells 0 _ rfl
      obtain ⟨c1, f1⟩ := cells_at hL.cells 1 _ rfl
      have hvA := hway'.set hL hv0 0 (.iface 98 (.agg #[.pointer (some ⟨K, 0, none⟩)]))
      have hLA := hL.set hbR 0 (.iface 98 (.agg #[.pointer (some ⟨K, 0, none⟩)])) (by simp)
      replace hvA := hway'.set hLA hvA 1 (.string ⟨#[114, 115, 97]⟩)
      replace hLA := hLA.set hbR 1 (.string ⟨#[114, 115, 97]⟩) (by simp)
      simp only [List.setIfInBounds_toArray, List.set_cons_zero, List.set_cons_succ] at hLA
      have kh := hLA.map.have hr.h
      rw [show str [104] = ⟨#[104]⟩ from rfl] at kh
      generalize str [115, 104, 97, 50, 53, 54] = vh at kh htg
      clear hver hv0 hK hSn hb6 hne hnl
      go_wp2_with fail
      refine (htg _).mono ?_
      clear kh c0 c1 f0 f1 htg hL hnd
      rintro e w8 ⟨⟨v5, rfl, ho5⟩, hb5⟩
      obtain ⟨g5, c5, e5, -⟩ := ho5.get 0 _ rfl
      simp only [strs, List.map_cons, List.map_nil, List.length_cons, List.length_nil, Nat.zero_add] at e5
      subst e5
      replace hvA := hway'.keep hvA hb5 (Nat.le_refl _)
      replace hLA := hLA.keep hb5
      obtain ⟨c2, f2⟩ := cells_at hLA.cells 2 _ rfl
      obtain ⟨c3, f3⟩ := cells_at hLA.cells 3 _ rfl
      replace hvA := hway'.set hLA hvA 2 (.slice (some ⟨g5, 0, none⟩) 1 c5)
      replace hLA := hLA.set hbR 2 (.slice (some ⟨g5, 0, none⟩) 1 c5) (by simp)
      have kn := hLA.map.have hr.n
      replace hvA := hway'.set hLA hvA 3 (.string (str [110, 111, 116, 101]))
      replace hLA := hLA.set hbR 3 (.string (str [110, 111, 116, 101])) (by simp)
      have ks := hLA.map.have hr.s
      rw [show str [110] = ⟨#[110]⟩ from rfl] at kn
      rw [show str [115] = ⟨#[115]⟩ from rfl] at ks
      simp only [List.setIfInBounds_toArray, List.set_cons_zero, List.set_cons_succ] at hLA
      have htg2' := fun W => htg2 W
      obtain ⟨vnote, hvnote⟩ : ∃ vnote, str [110, 111, 116, 101] = vnote := ⟨_, rfl⟩
      rw [hvnote] at kn ks hLA hvA
      generalize str [101, 109, 97, 105, 108] = ve at ks htg2'
      clear hb5 ho5
      go_wp2_with fail
      refine (htg2' _).mono ?_
      rintro e w9 ⟨⟨v6, rfl, ho6⟩, hb6⟩
      obtain ⟨g6, c6, e6, h6, -⟩ := ho6.get 0 (.string (str (stripF [101, 109, 97, 105, 108]))) rfl
      simp only [strs, List.map_cons, List.map_nil, List.length_cons, List.length_nil, Nat.zero_add] at e6
      subst e6
      replace hvA := hway'.keep hvA hb6 (Nat.le_refl _)
      replace hLA := hLA.keep hb6
      have e4 : ((str (stripF [101, 109, 97, 105, 108])).toList == [42]) = false := by rw [toList_str]; decide
      generalize str (stripF [101, 109, 97, 105, 108]) = vs at h6 e4
      obtain ⟨c4', f4⟩ := cells_at hLA.cells 4 _ rfl
      clear hb6 ho6 htg2' kn ks c2 c3 f2 f3
      go_wp2_with fail
      go_loopw [21, 168] (fun v21 v168 W => ∃ i : Nat, v168 = .int .i64 (i : Int) ∧ i ≤ 1 ∧ v21 = .bool false ∧ W = w9) (fun _ v168 _ => (1 - intOf v168).toNat)
      case atStart => exact ⟨0, rfl, by omega, rfl, rfl⟩
      case round =>
        obtain ⟨i, rfl, hi, rfl, rfl⟩ := hrel
        by_cases h1 : i < 1
        · obtain rfl : i = 0 := by omega
          rw [show (((0 : Nat) : Int)) = 0 from rfl]
          go_wp2
          go_roundw
          case rel => exact ⟨1, by go_num, by omega, by simp⟩
          case measure => simp [intOf]
        · obtain rfl : i = 1 := by omega
          rw [show (((1 : Nat) : Int)) = 1 from rfl]
          replace hvA := hway'.set hLA hvA 4 (.slice (some ⟨g6, 0, none⟩) 1 c6)
          replace hLA := hLA.set hbR 4 (.slice (some ⟨g6, 0, none⟩) 1 c6) (by simp)
          have kt := hLA.map.have hr.t
          rw [show str [116] = ⟨#[116]⟩ from rfl] at kt
          simp only [List.setIfInBounds_toArray, List.set_cons_zero, List.set_cons_succ] at hLA
          generalize str [115] = vt at kt htg3
          go_wp2_with fail
          refine (htg3 _).mono ?_
          rintro e w10 ⟨⟨v7, rfl, ho7⟩, hb7⟩
          obtain ⟨g7, c7, e7, -⟩ := ho7.get 0 _ rfl
          simp only [strs, List.map_cons, List.map_nil, List.length_cons, List.length_nil, Nat.zero_add] at e7
          subst e7
          replace hvA := hway'.keep hvA hb7 (Nat.le_refl _)
          replace hLA := hLA.keep hb7
          obtain ⟨c5', f5⟩ := cells_at hLA.cells 5 _ rfl
          replace hvA := hway'.set hLA hvA 5 (.slice (some ⟨g7, 0, none⟩) 1 c7)
          replace hLA := hLA.set hbR 5 (.slice (some ⟨g7, 0, none⟩) 1 c7) (by simp)
          simp only [List.setIfInBounds_toArray, List.set_cons_zero, List.set_cons_succ] at hLA
          have hfin : EE (.returned (.tuple #[.pointer (some ⟨R, 0, none⟩), .nilIface])) (w10.setCell ⟨R, 5, none⟩ (.slice (some ⟨g7, 0, none⟩) 1 c7)) := by
            rw [← hEE]
            rw [← hvnote] at hLA
            exact ⟨R, _, g5, 1, c5, g6, 1, c6, g7, 1, c7, rfl, hLA.cells, hvA⟩
          have hbe := hLA.below
          clear kt ho7 hb7 htg3 hLA
          go_wp2
          go_ret2
          exact ⟨hfin, hbe⟩
    · have hou := pkix_outer _ cn ce w4 hsl hkb
      go_wp2_with fail
      refine hou.mono ?_
      clear hou
      rintro e w5 ⟨⟨K, vn, rfl, hK, hSn⟩, hb5⟩
      replace hL := hL.keep hb5
      clear hb5 hsl k3 e1
      go_wp2_with fail
      refine (Size_any K vn (bareB cn) _ w5 hK hSn).mono ?_
      rintro e w6 ⟨rfl, hb6⟩
      have hne : K ≠ R := by
        rintro rfl
        have := hL.cells
        rw [hK] at this
        simp at this
      replace hL := hL.keep hb6
      have hv0 : ver (.iface 98 (.agg #[.pointer (some ⟨K, 0, none⟩)])) w6 := by
        rw [hver]
        exact ⟨K, vn, rfl, (hb6.block K (Array.getElem?_eq_some_iff.1 hK).1).trans hK, hSn.below hb6 (Nat.le_refl _)⟩
      obtain ⟨nl, hnl⟩ : ∃ nl, (bareB cn).length = nl := ⟨_, rfl⟩
      have hnle : nl ≤ 100000 := by have := bareB_le cn; have := hkb.n; omega
      rw [hnl] at hn128 ⊢
      have hnd : decide ((nl : Int) * 8 < 1024) = false := by simp; omega
      obtain ⟨c0, f0⟩ := cells_at hL.cells 0 _ rfl
      obtain ⟨c1, f1⟩ := cells_at hL.cells 1 _ rfl
      have hvA := hway'.set hL hv0 0 (.iface 98 (.agg #[.pointer (some ⟨K, 0, none⟩)]))
      have hLA := hL.set hbR 0 (.iface 98 (.agg #[.pointer (some ⟨K, 0, none⟩)])) (by simp)
      replace hvA := hway'.set hLA hvA 1 (.string ⟨#[114, 115, 97]⟩)
      replace hLA := hLA.set hbR 1 (.string ⟨#[114, 115, 97]⟩) (by simp)
      simp only [List.setIfInBounds_toArray, List.set_cons_zero, List.set_cons_succ] at hLA
      have kh := hLA.map.have hr.h
      rw [show str [104] = ⟨#[104]⟩ from rfl] at kh
      generalize str [115, 104, 97, 50, 53, 54] = vh at kh htg
      clear hver hv0 hK hSn hb6 hne hnl
      go_wp2_with fail
      refine (htg _).mono ?_
      clear kh c0 c1 f0 f1 htg hL hnd
      rintro e w8 ⟨⟨v5, rfl, ho5⟩, hb5⟩
      obtain ⟨g5, c5, e5, -⟩ := ho5.get 0 _ rfl
      simp only [strs, List.map_cons, List.map_nil, List.length_cons, List.length_nil, Nat.zero_add] at e5
      subst e5
      replace hvA := hway'.keep hvA hb5 (Nat.le_refl _)
      replace hLA := hLA.keep hb5
      obtain ⟨c2, f2⟩ := cells_at hLA.cells 2 _ rfl
      obtain ⟨c3, f3⟩ := cells_at hLA.cells 3 _ rfl
      replace hvA := hway'.set hLA hvA 2 (.slice (some ⟨g5, 0, none⟩) 1 c5)
      replace hLA := hLA.set hbR 2 (.slice (some ⟨g5, 0, none⟩) 1 c5) (by simp)
      have kn := hLA.map.have hr.n
      replace hvA := hway'.set hLA hvA 3 (.string (str [110, 111, 116, 101]))
      replace hLA := hLA.set hbR 3 (.string (str [110, 111, 116, 101])) (by simp)
      have ks := hLA.map.have hr.s
      rw [show str [110] = ⟨#[110]⟩ from rfl] at kn
      rw [show str [115] = ⟨#[115]⟩ from rfl] at ks
      simp only [List.setIfInBounds_toArray, List.set_cons_zero, List.set_cons_succ] at hLA
      have htg2' := fun W => htg2 W
      obtain ⟨vnote, hvnote⟩ : ∃ vnote, str [110, 111, 116, 101] = vnote := ⟨_, rfl⟩
      rw [hvnote] at kn ks hLA hvA
      generalize str [101, 109, 97, 105, 108] = ve at ks htg2'
      clear hb5 ho5
      go_wp2_with fail
      refine (htg2' _).mono ?_
      rintro e w9 ⟨⟨v6, rfl, ho6⟩, hb6⟩
      obtain ⟨g6, c6, e6, h6, -⟩ := ho6.get 0 (.string (str (stripF [101, 109, 97, 105, 108]))) rfl
      simp only [strs, List.map_cons, List.map_nil, List.length_cons, List.length_nil, Nat.zero_add] at e6
      subst e6
      replace hvA := hway'.keep hvA hb6 (Nat.le_refl _)
      replace hLA := hLA.keep hb6
      have e4 : ((str (stripF [101, 109, 97, 105, 108])).toList == [42]) = false := by rw [toList_str]; decide
      generalize str (stripF [101, 109, 97, 105, 108]) = vs at h6 e4
      obtain ⟨c4', f4⟩ := cells_at hLA.cells 4 _ rfl
      clear hb6 ho6 htg2' kn ks c2 c3 f2 f3
      go_wp2_with fail
      go_loopw [21, 168] (fun v21 v168 W => ∃ i : Nat, v168 = .int .i64 (i : Int) ∧ i ≤ 1 ∧ v21 = .bool false ∧ W = w9) (fun _ v168 _ => (1 - intOf v168).toNat)
      case atStart => exact ⟨0, rfl, by omega, rfl, rfl⟩
      case round =>
        obtain ⟨i, rfl, hi, rfl, rfl⟩ := hrel
        by_cases h1 : i < 1
        · obtain rfl : i = 0 := by omega
          rw [show (((0 : Nat) : Int)) = 0 from rfl]
          go_wp2
          go_roundw
          case rel => exact ⟨1, by go_num, by omega, by simp⟩
          case measure => simp [intOf]
        · obtain rfl : i = 1 := by omega
          rw [show (((1 : Nat) : Int)) = 1 from rfl]
          replace hvA := hway'.set hLA hvA 4 (.slice (some ⟨g6, 0, none⟩) 1 c6)
          replace hLA := hLA.set hbR 4 (.slice (some ⟨g6, 0, none⟩) 1 c6) (by simp)
          have kt := hLA.map.have hr.t
          rw [show str [116] = ⟨#[116]⟩ from rfl] at kt
          simp only [List.setIfInBounds_toArray, List.set_cons_zero, List.set_cons_succ] at hLA
          generalize str [115] = vt at kt htg3
          go_wp2_with fail
          refine (htg3 _).mono ?_
          rintro e w10 ⟨⟨v7, rfl, ho7⟩, hb7⟩
          obtain ⟨g7, c7, e7, -⟩ := ho7.get 0 _ rfl
          simp only [strs, List.map_cons, List.map_nil, List.length_cons, List.length_nil, Nat.zero_add] at e7
          subst e7
          replace hvA := hway'.keep hvA hb7 (Nat.le_refl _)
          replace hLA := hLA.keep hb7
          obtain ⟨c5', f5⟩ := cells_at hLA.cells 5 _ rfl
          replace hvA := hway'.set hLA hvA 5 (.slice (some ⟨g7, 0, none⟩) 1 c7)
          replace hLA := hLA.set hbR 5 (.slice (some ⟨g7, 0, none⟩) 1 c7) (by simp)
          simp only [List.setIfInBounds_toArray, List.set_cons_zero, List.set_cons_succ] at hLA
          have hfin : EE (.returned (.tuple #[.pointer (some ⟨R, 0, none⟩), .nilIface])) (w10.setCell ⟨R, 5, none⟩ (.slice (some ⟨g7, 0, none⟩) 1 c7)) := by
            rw [← hEE]
            rw [← hvnote] at hLA
            exact ⟨R, _, g5, 1, c5, g6, 1, c6, g7, 1, c7, rfl, hLA.cells, hvA⟩
          have hbe := hLA.below
          clear kt ho7 hb7 htg3 hLA
          go_wp2
          go_ret2
          exact ⟨hfin, hbe⟩
end Go.Proofs.YtcebfkhfnjbfjaaGreatDoor
