/- Contract of LKeyOfOptions. -/
import Derived.Test.YtcebfkhfnjbfjaaGreatDoorC18
import Derived.Test.YtcebfkhfnjbfjaaGreatDoorC15
import Derived.BigRegion
namespace Go.Proofs.YtcebfkhfnjbfjaaGreatDoor
open Go.RowKit
set_option linter.unusedVariables false
set_option linter.unusedSimpArgs false
def rsaT : List UInt8 := [114, 115, 97]
def edT : List UInt8 := [101, 100, 50, 53, 53, 49, 57]
theorem optE_eq (l : Option (List UInt8)) : optE l = .returned (.tuple #[.string (str (l.getD [])), .bool l.isSome]) := by cases l <;> rfl
theorem size30 : (Tryz.prog.info? 30).map (·.size) = some 1 := by kernel_rfl
theorem size32 : (Tryz.prog.info? 32).map (·.size) = some 3 := by kernel_rfl
theorem call27 (args : Array Value) (W : World) : Sem.run Tryz.prog (callFunc 27 args) W = .ok (.enter 27 args) W := run_callGo (fn := Tryz.f27) (by kernel_rfl) (by kernel_rfl) (by kernel_rfl) args W
theorem call28 (args : Array Value) (W : World) : Sem.run Tryz.prog (callFunc 28 args) W = .ok (.enter 28 args) W := run_callGo (fn := Tryz.f28) (by kernel_rfl) (by kernel_rfl) (by kernel_rfl) args W
theorem call15 (args : Array Value) (W : World) : Sem.run Tryz.prog (callFunc 15 args) W = .ok (.enter 15 args) W := run_callGo (fn := Tryz.f15) (by kernel_rfl) (by kernel_rfl) (by kernel_rfl) args W
theorem ofF_length (l : List UInt8) : (ofF l).length ≤ l.length := by
  unfold ofF
  have h1 := bareL_length (wordsOf l l.length)
  have h2 := wordsOf_length l l.length
  omega
/-- A text as bytes; false: no bytes. -/
def hexD (l : List UInt8) : List UInt8 := (hexF l).getD []
/-- The numbers of the key, and whether it is one. -/
def keyN (o : Opts) : List Nat := if o.kind = rsaT then ofF (hexD o.n) else []
def keyE (o : Opts) : List Nat := if o.kind = rsaT then ofF (hexD o.e) else []
def keyD (o : Opts) : List Nat := if o.kind = rsaT then ofF (hexD o.d) else []
def ch0 (o : Opts) : Bool := (hexF o.n).isSome
def ch1 (o : Opts) : Bool := ch0 o && (hexF o.e).isSome
def ch2 (o : Opts) : Bool := ch1 o && (hexF o.d).isSome
def ch3 (o : Opts) : Bool := ch2 o && oddF (ofF (hexD o.n)) (ofF (hexD o.e))
def ch4 (o : Opts) : Bool := ch3 o && decide (0 < (ofF (hexD o.d)).length)
def ch5 (o : Opts) : Bool := ch4 o && decide (orderF (ofF (hexD o.d)) (ofF (hexD o.n)) < 0)
def ch6 (o : Opts) : Bool := ch5 o && decide (1024 ≤ bitsL (ofF (hexD o.n)))
def keyOk (o : Opts) : Bool := if o.kind = rsaT then ch6 o else decide (o.kind = edT) && decide (o.seed.length = 32)
/-- How a key is returned. -/
def KeyE (o : Opts) (e : Ending) (w : World) : Prop := ∃ vn ve vd, e = .returned (.tuple #[.agg #[vn, ve, vd], .bool (keyOk o)]) ∧ Num vn (keyN o) w ∧ Num ve (keyE o) w ∧ Num vd (keyD o) w
set_option maxHeartbeats 1000000 in
set_option maxRecDepth 100000 in
theorem LKeyOfOptions_any (o : Opts) (w : World) (h : o.Ok w) (hn : o.n.length ≤ 1000) (he : o.e.length ≤ 1000) (hd : o.d.length ≤ 1000) :
    Calls Tryz.prog 8 #[.agg o.cells] w fun e w' => KeyE o e w' ∧ Below w.heap.size w w' := by
  have hb0 : Below w.heap.size w (w.alloc (.cells o.cells 25)) := (Below.refl _ _).alloc (Nat.le_refl _) _
  have hat := OptAt.new o w
  generalize hw1 : w.alloc (.cells o.cells 25) = w1 at hb0 hat
  have hs1 : w1.heap.size = w.heap.size + 1 := by rw [← hw1]; simp
  have hat2 := hat.alloc (.cells #[.slice none 0 0, .slice none 0 0, .slice none 0 0] 32)
  have hr2 := heap_alloc_new w1 (.cells #[.slice none 0 0, .slice none 0 0, .slice none 0 0] 32)
  have hb2 := hb0.alloc hb0.size (.cells #[.slice none 0 0, .slice none 0 0, .slice none 0 0] 32)
  have hs2 : (w1.alloc (.cells #[.slice none 0 0, .slice none 0 0, .slice none 0 0] 32)).heap.size = w.heap.size + 2 := by simp [hs1]
  have c3 := hat2.c3
  obtain ⟨kk, hkk⟩ : ∃ kk, str o.kind = kk := ⟨_, rfl⟩
  have hkr' := text_is rsaT hkk
  have hke' := text_is edT hkk
  rw [hkk] at c3
  clear hkk
  have c4 := hat2.c4
  have c5 := hat2.c5
  clear hat
  rw [hs1] at hr2
  by_cases hkr : o.kind = rsaT
  · have hk : (kk.toList == [114, 115, 97]) = true := by rw [show [114, 115, 97] = rsaT from rfl, hkr', hkr]; simp
    obtain ⟨KE, hKE⟩ : ∃ KE, KeyE o = KE := ⟨_, rfl⟩
    rw [hKE]
    clear hkr' hke'
    replace hkr : ¬ o.kind ≠ rsaT := by simpa using hkr
    go_enter Tryz.func8, Tryz.ntmps8
    go_wp2_with fail
    clear hk c3 c4
    generalize w1.alloc (.cells #[.slice none 0 0, .slice none 0 0, .slice none 0 0] 32) = w2 at hat2 hr2 hb2 hs2 c5 ⊢
    refine (LHex_any o.n w2 (by omega)).mono ?_
    rw [optE_eq]
    rintro e w3 ⟨rfl, hb3⟩
    replace hat2 := hat2.keep hb3 (Nat.le_refl _)
    have hr3 := (hb3.block _ (by omega)).trans hr2
    have hs3 : w.heap.size + 2 ≤ w3.heap.size := by have := hb3.size; omega
    replace hb3 := hb2.trans (hb3.mono hb2.size)
    have c6 := hat2.c6
    clear hr2 hb2 c5
    go_wp2_with fail
    refine (LHex_any o.e w3 (by omega)).mono ?_
    rw [optE_eq]
    rintro e w4 ⟨rfl, hb4⟩
    have hs4 : w.heap.size + 2 ≤ w3.heap.size := hs3
    replace hat2 := hat2.keep hb4 (Nat.le_refl _)
    have hr4 := (hb4.block _ (by omega)).trans hr3
    have hs5 : w.heap.size + 2 ≤ w4.heap.size := by have := hb4.size; omega
    replace hb4 := hb3.trans (hb4.mono hb3.size)
    have c7 := hat2.c7
    clear hr3 hb3 c6
    go_wp2_with fail
    refine (LHex_any o.d w4 (by omega)).mono ?_
    rw [optE_eq]
    rintro e w5 ⟨rfl, hb5⟩
    replace hat2 := hat2.keep hb5 (Nat.le_refl _)
    have hr5 := (hb5.block _ (by omega)).trans hr4
    have hs6 : w.heap.size + 2 ≤ w5.heap.size := by have := hb5.size; omega
    replace hb5 := hb4.trans (hb5.mono hb4.size)
    have l1 : (hexD o.n).length ≤ 1000 := by
      unfold hexD
      cases hx : hexF o.n with
      | none => simp
      | some r => have := hexF_length hx; simp; omega
    have l2 : (hexD o.e).length ≤ 1000 := by
      unfold hexD
      cases hx : hexF o.e with
      | none => simp
      | some r => have := hexF_length hx; simp; omega
    have l3 : (hexD o.d).length ≤ 1000 := by
      unfold hexD
      cases hx : hexF o.d with
      | none => simp
      | some r => have := hexF_length hx; simp; omega
    clear hr4 hb4 c7 hs1 hs2 hs4
    rw [show (hexF o.n).getD [] = hexD o.n from rfl, show (hexF o.e).getD [] = hexD o.e from rfl, show (hexF o.d).getD [] = hexD o.d from rfl]
    go_wp2_with fail
    refine (LOf_any (hexD o.n) w5 (by omega)).mono ?_
    rintro e w6 ⟨⟨vn, rfl, hvn⟩, hb6⟩
    replace hat2 := hat2.keep hb6 (Nat.le_refl _)
    have hr6 := (hb6.block _ (by omega)).trans hr5
    have hs7 : w.heap.size + 2 ≤ w6.heap.size := by have := hb6.size; omega
    replace hb6 := hb5.trans (hb6.mono hb5.size)
    clear hb5 hr5
    go_wp2_with fail
    refine (LOf_any (hexD o.e) w6 (by omega)).mono ?_
    rintro e w7 ⟨⟨ve, rfl, hve⟩, hb7⟩
    replace hat2 := hat2.keep hb7 (Nat.le_refl _)
    replace hvn := hvn.below hb7 (Nat.le_refl _)
    have hr7 := (hb7.block _ (by omega)).trans hr6
    have hs8 : w.heap.size + 2 ≤ w7.heap.size := by have := hb7.size; omega
    replace hb7 := hb6.trans (hb7.mono hb6.size)
    clear hb6 hr6
    go_wp2_with fail
    refine (LOf_any (hexD o.d) w7 (by omega)).mono ?_
    rintro e w8 ⟨⟨vd, rfl, hvd⟩, hb8⟩
    replace hat2 := hat2.keep hb8 (Nat.le_refl _)
    replace hvn := hvn.below hb8 (Nat.le_refl _)
    replace hve := hve.below hb8 (Nat.le_refl _)
    have hr8 := (hb8.block _ (by omega)).trans hr7
    have hs9 : w.heap.size + 2 ≤ w8.heap.size := by have := hb8.size; omega
    replace hb8 := hb7.trans (hb8.mono hb7.size)
    clear hb7 hr7
    obtain ⟨an, cn, rfl⟩ := hvn.len
    obtain ⟨ae, ce, rfl⟩ := hve.len
    obtain ⟨ad, cd, rfl⟩ := hvd.len
    obtain ⟨n1, hn1⟩ : ∃ n1, (ofF (hexD o.n)).length = n1 := ⟨_, rfl⟩
    obtain ⟨n2, hn2⟩ : ∃ n2, (ofF (hexD o.e)).length = n2 := ⟨_, rfl⟩
    obtain ⟨n3, hn3⟩ : ∃ n3, (ofF (hexD o.d)).length = n3 := ⟨_, rfl⟩
    rw [hn1] at hvn ⊢
    rw [hn2] at hve ⊢
    rw [hn3] at hvd ⊢
    go_wp2_with fail
    have hb9 := hb8.alloc hb8.size (.cells #[.slice an n1 cn, .slice ae n2 ce, .slice ad n3 cd] 32)
    have hB := heap_alloc_new w8 (.cells #[.slice an n1 cn, .slice ae n2 ce, .slice ad n3 cd] 32)
    have hO : (w8.alloc (.cells #[.slice an n1 cn, .slice ae n2 ce, .slice ad n3 cd] 32)).heap[w.heap.size + 1]? = some (.cells #[.slice none 0 0, .slice none 0 0, .slice none 0 0] 32) := by
      rw [Below.heap_alloc w8 _ _ (by omega)]
      exact hr8
    replace hvn := hvn.alloc (.cells #[.slice an n1 cn, .slice ae n2 ce, .slice ad n3 cd] 32)
    replace hve := hve.alloc (.cells #[.slice an n1 cn, .slice ae n2 ce, .slice ad n3 cd] 32)
    replace hvd := hvd.alloc (.cells #[.slice an n1 cn, .slice ae n2 ce, .slice ad n3 cd] 32)
    have hs10 : (w8.alloc (.cells #[.slice an n1 cn, .slice ae n2 ce, .slice ad n3 cd] 32)).heap.size = w8.heap.size + 1 := by simp
    clear hr8 hb8 hat2
    generalize w8.alloc (.cells #[.slice an n1 cn, .slice ae n2 ce, .slice ad n3 cd] 32) = w9 at hb9 hB hO hvn hve hvd hs10 ⊢
    obtain ⟨b1, hb1e⟩ : ∃ b1, b1 = ch0 o := ⟨_, rfl⟩
    obtain ⟨b2, hb2e⟩ : ∃ b2, b2 = (b1 && (hexF o.e).isSome) := ⟨_, rfl⟩
    obtain ⟨b3, hb3e⟩ : ∃ b3, b3 = (b2 && (hexF o.d).isSome) := ⟨_, rfl⟩
    obtain ⟨q4, hq4⟩ : ∃ q4, q4 = oddF (ofF (hexD o.n)) (ofF (hexD o.e)) := ⟨_, rfl⟩
    obtain ⟨b4, hb4e⟩ : ∃ b4, b4 = (b3 && q4) := ⟨_, rfl⟩
    obtain ⟨b5, hb5e⟩ : ∃ b5, b5 = (b4 && decide ((0 : Int) < n3)) := ⟨_, rfl⟩
    obtain ⟨q6, hq6⟩ : ∃ q6, q6 = orderF (ofF (hexD o.d)) (ofF (hexD o.n)) := ⟨_, rfl⟩
    obtain ⟨b6, hb6e⟩ : ∃ b6, b6 = (b5 && decide (q6 < 0)) := ⟨_, rfl⟩
    obtain ⟨q7, hq7⟩ : ∃ q7, q7 = bitsL (ofF (hexD o.n)) := ⟨_, rfl⟩
    obtain ⟨b7, hb7e⟩ : ∃ b7, b7 = (b6 && decide ((1024 : Int) ≤ q7)) := ⟨_, rfl⟩
    have hfin : b7 = keyOk o := by
      have : ¬ ¬ o.kind = rsaT := hkr
      rw [hb7e, hb6e, hb5e, hb4e, hb3e, hb2e, hb1e, hq7, hq6, hq4, ← hn3]
      unfold keyOk
      rw [if_pos (by simpa using this)]
      simp only [ch6, ch5, ch4, ch3, ch2, ch1]
      norm_cast
    have m1 : (ofF (hexD o.n)).length ≤ 1000 := Nat.le_trans (ofF_length _) (by omega)
    have m2 : (ofF (hexD o.e)).length ≤ 1000 := Nat.le_trans (ofF_length _) (by omega)
    have m3 : (ofF (hexD o.d)).length ≤ 1000 := Nat.le_trans (ofF_length _) (by omega)
    let I : World → Prop := fun W => w9.grownBy W (some (w.heap.size + 1)) ∧ ∃ old, W.heap[w.heap.size + 1]? = some (.cells old 32 (0, 0)) ∧ old.size = 3
    let S : Nat → World → Prop := fun i W => i = 35 → W.heap[w.heap.size + 1]? = some (.cells #[.slice an n1 cn, .slice ae n2 ce, .slice ad n3 cd] 32 (0, 0))
    let R : World → World → Prop := fun W W' => S 35 W → S 35 W'
    have hR : ∀ W, R W W := fun W h => h
    have hN : ∀ W, I W → Num (.slice an n1 cn) (ofF (hexD o.n)) W := fun W hI => hvn.keepOff hI.1 hO
    have hE : ∀ W, I W → Num (.slice ae n2 ce) (ofF (hexD o.e)) W := fun W hI => hve.keepOff hI.1 hO
    have hD : ∀ W, I W → Num (.slice ad n3 cd) (ofF (hexD o.d)) W := fun W hI => hvd.keepOff hI.1 hO
    have hBW : ∀ W, I W → W.heap[w8.heap.size]? = some (.cells #[.slice an n1 cn, .slice ae n2 ce, .slice ad n3 cd] 32) := fun W hI => (hI.1.block _ (by omega) (by simp; omega)).trans hB
    have hcell : ∀ W, I W → ∀ i c, (#[Value.slice an n1 cn, .slice ae n2 ce, .slice ad n3 cd] : Array Value)[i]? = some c → W.cell? ⟨w8.heap.size, i, none⟩ = some c := fun W hI i c hc => by rw [cell_of_row W _ i _ 32 (0, 0) (hBW W hI)]; exact hc
    have hRb : ∀ W W', I W → Below W.heap.size W W' → R W W' := fun W W' hI hb h e => by
      rw [hb.block _ (by have := hI.1.size; omega)]
      exact h e
    have hIb : ∀ W W', I W → Below W.heap.size W W' → I W' := fun W W' hI hb => by
      refine ⟨grownBy_trans hI.1 (grownBy_below hb (Nat.le_refl _)), ?_⟩
      rw [hb.block _ (by have := hI.1.size; omega)]
      exact hI.2
    have hset : ∀ W, I W → R W (W.setRow (w.heap.size + 1) #[.slice an n1 cn, .slice ae n2 ce, .slice ad n3 cd]) ∧ I (W.setRow (w.heap.size + 1) #[.slice an n1 cn, .slice ae n2 ce, .slice ad n3 cd]) ∧ S 35 (W.setRow (w.heap.size + 1) #[.slice an n1 cn, .slice ae n2 ce, .slice ad n3 cd]) := fun W hI => by
      obtain ⟨h1, old, h2, h3⟩ := hI
      have h4 := setRow_heap W (w.heap.size + 1) old #[.slice an n1 cn, .slice ae n2 ce, .slice ad n3 cd] 32 (0, 0) h2
      exact ⟨fun _ _ => h4, ⟨grownBy_trans h1 ⟨rfl, rfl, rfl, by simp, fun k hk hne => setRow_other W _ k _ (fun e => hne (by rw [e]))⟩, _, h4, rfl⟩, fun _ => h4⟩
    refine wp_region_typedV (by kernel_rfl) [] [(2, b1), (5, b2), (8, b3), (15, b4), (21, b5), (29, b6)] (fun _ _ _ => True) (fun u W v => match u with | 2 => v = .pointer (some ⟨w.heap.size + 1, 0, none⟩) | 3 => v = .bool b7 | 5 => v = .bool (hexF o.n).isSome | 7 => v = .bool (hexF o.e).isSome | 9 => v = .bool (hexF o.d).isSome | 10 => v = .pointer (some ⟨w8.heap.size, 0, none⟩) | 49 => v = .agg #[.slice an n1 cn, .slice ae n2 ce, .slice ad n3 cd] | 50 => v = .bool b1 | 51 => v = .bool b1 | 52 => b1 = true → v = .bool (hexF o.e).isSome | 53 => v = .bool b2 | 54 => v = .bool b2 | 55 => b2 = true → v = .bool (hexF o.d).isSome | 56 => v = .bool b3 | 57 => v = .bool b3 | 58 => b3 = true → v = .pointer (some ⟨w8.heap.size, 0, none⟩) | 59 => b3 = true → v = .slice an n1 cn | 60 => b3 = true → v = .pointer (some ⟨w8.heap.size, 1, none⟩) | 61 => b3 = true → v = .slice ae n2 ce | 62 => b3 = true → v = .bool q4 | 63 => v = .bool b4 | 64 => v = .bool b4 | 65 => b4 = true → v = .pointer (some ⟨w8.heap.size, 2, none⟩) | 66 => b4 = true → v = .slice ad n3 cd | 67 => b4 = true → v = .int .i64 (n3 : Int) | 68 => b4 = true → v = .bool (decide ((0 : Int) < n3)) | 69 => v = .bool b5 | 70 => v = .bool b5 | 71 => b5 = true → v = .pointer (some ⟨w8.heap.size, 2, none⟩) | 72 => b5 = true → v = .slice ad n3 cd | 73 => b5 = true → v = .pointer (some ⟨w8.heap.size, 0, none⟩) | 74 => b5 = true → v = .slice an n1 cn | 75 => b5 = true → v = .int .i64 q6 | 76 => b5 = true → v = .bool (decide (q6 < 0)) | 77 => v = .bool b6 | 78 => v = .bool b6 | 79 => b6 = true → v = .pointer (some ⟨w8.heap.size, 0, none⟩) | 80 => b6 = true → v = .slice an n1 cn | 81 => b6 = true → v = .int .i64 (q7 : Int) | 82 => b6 = true → v = .bool (decide ((1024 : Int) ≤ q7)) | 83 => v = .bool b7 | _ => True) I R S ?hmono ?hmonoS (by kernel_rfl) [49, 50, 51, 52, 53, 54, 55, 56, 57, 58, 59, 60, 61, 62, 63, 64, 65, 66, 67, 68, 69, 70, 71, 72, 73, 74, 75, 76, 77, 78, 79, 80, 81, 82, 83, 3] (by kernel_rfl) [10, 5, 7, 9, 10, 10, 10, 10, 10, 10, 2] (by kernel_rfl) ?h0 [] (by kernel_rfl) ?hz ⟨⟨rfl, rfl, rfl, Nat.le_refl _, fun _ _ _ => rfl⟩, _, hO, rfl⟩ [(some 51, b1), (some 54, b2), (some 57, b3), (some 64, b4), (some 70, b5), (some 78, b6)] (by kernel_rfl) ?hgs (fun W _ h => h) ?hs ?hQ
    case hmono => exact fun u W W' v _ _ _ hv => hv
    case hmonoS =>
      intro i W W' _ _ hR h e
      subst e
      exact hR h rfl
    case h0 => simp [hb1e, ch0]
    case hz => simp
    case hgs =>
      intro g c hm W v _ hv
      simp only [List.mem_cons, Prod.mk.injEq, Option.some.injEq, List.not_mem_nil, or_false] at hm
      rcases hm with ⟨rfl, rfl⟩ | ⟨rfl, rfl⟩ | ⟨rfl, rfl⟩ | ⟨rfl, rfl⟩ | ⟨rfl, rfl⟩ | ⟨rfl, rfl⟩ <;> exact hv
    case hs =>
      have hB' := hBW
      refine ⟨SafeOpW.v (SafeOpW.of hR fun W0 hI0 => safe_loadB Tryz.underlying32 rfl w8.heap.size #[.slice an n1 cn, .slice ae n2 ce, .slice ad n3 cd] 32 (0, 0) size32 (fun v hv => hv) (fun W hI => by subst hI; exact hB' _ hI0) rfl) (fun _ h => absurd h (by decide)),
        SafeOpW.v (safeW_move hR (fun W v hI hv => by show v = _; rw [hb1e]; exact hv)) (fun _ h => absurd h (by decide)),
        SafeOpW.v (safeW_move hR (fun W v hI hv => hv)) (fun _ h => absurd h (by decide)),
        entryV 2 b1 true rfl rfl (fun hc d hd W hI => by cases hd; intro h; exact absurd h hc) (fun _ _ h => absurd h (by decide)) fun hc => SafeOpW.v (safeW_move hR (fun W v hI hv _ => hv)) (fun _ h => absurd h (by decide)),
        SafeOpW.v (SafeOpW.of hR fun W0 hI0 => safe_pick b1 (fun v hv => hv) (fun hc v hv => by rw [hv hc, hb2e, hc]; rfl) (fun hc => by show _ = _; rw [hb2e, hc]; rfl)) (fun _ h => absurd h (by decide)),
        SafeOpW.v (safeW_move hR (fun W v hI hv => hv)) (fun _ h => absurd h (by decide)),
        entryV 5 b2 true rfl rfl (fun hc d hd W hI => by cases hd; intro h; exact absurd h hc) (fun _ _ h => absurd h (by decide)) fun hc => SafeOpW.v (safeW_move hR (fun W v hI hv _ => hv)) (fun _ h => absurd h (by decide)),
        SafeOpW.v (SafeOpW.of hR fun W0 hI0 => safe_pick b2 (fun v hv => hv) (fun hc v hv => by rw [hv hc, hb3e, hc]; rfl) (fun hc => by show _ = _; rw [hb3e, hc]; rfl)) (fun _ h => absurd h (by decide)),
        SafeOpW.v (safeW_move hR (fun W v hI hv => hv)) (fun _ h => absurd h (by decide)),
        entryV 8 b3 true rfl rfl (fun hc d hd W hI => by cases hd; intro h; exact absurd h hc) (fun _ _ h => absurd h (by decide)) fun hc => SafeOpW.v (SafeOpW.of hR fun W0 hI0 => safe_fieldAddr Tryz.underlying32 rfl size30 (by decide) w8.heap.size 0 (fun v hv => hv) (fun _ => rfl)) (fun _ h => absurd h (by decide)),
        entryV 8 b3 true rfl rfl (fun hc d hd W hI => by cases hd; intro h; exact absurd h hc) (fun _ _ h => absurd h (by decide)) fun hc => SafeOpW.v (SafeOpW.of hR fun W0 hI0 => safe_loadC Tryz.underlying30 rfl ⟨w8.heap.size, 0, none⟩ (fun v hv => hv hc) (.slice an n1 cn) (fun W hI => by subst hI; exact hcell _ hI0 0 _ rfl) (fun _ => rfl)) (fun _ h => absurd h (by decide)),
        entryV 8 b3 true rfl rfl (fun hc d hd W hI => by cases hd; intro h; exact absurd h hc) (fun _ _ h => absurd h (by decide)) fun hc => SafeOpW.v (SafeOpW.of hR fun W0 hI0 => safe_fieldAddr Tryz.underlying32 rfl size30 (by decide) w8.heap.size 0 (fun v hv => hv) (fun _ => rfl)) (fun _ h => absurd h (by decide)),
        entryV 8 b3 true rfl rfl (fun hc d hd W hI => by cases hd; intro h; exact absurd h hc) (fun _ _ h => absurd h (by decide)) fun hc => SafeOpW.v (SafeOpW.of hR fun W0 hI0 => safe_loadC Tryz.underlying30 rfl ⟨w8.heap.size, 1, none⟩ (fun v hv => hv hc) (.slice ae n2 ce) (fun W hI => by subst hI; exact hcell _ hI0 1 _ rfl) (fun _ => rfl)) (fun _ h => absurd h (by decide)),
        entryV 8 b3 true rfl rfl (fun hc d hd W hI => by cases hd; intro h; exact absurd h hc) (fun _ _ h => absurd h (by decide)) fun hc => SafeOpW.v (safeW_call2 (fun _ v => v = .slice an n1 cn) (fun _ v => v = .slice ae n2 ce) (fun W v hI hv => hv hc) (fun W v hI hv => hv hc) call27 (fun a b W hI ha hb => by subst ha hb; exact (lOdd_any _ _ _ _ W (hN W hI) (hE W hI) (by omega) (by omega)).mono fun e w' ⟨h1, hb⟩ => ⟨_, h1, hRb W w' hI hb, hIb W w' hI hb, fun d hd => by cases hd; exact fun _ => by rw [hq4]⟩)) (fun _ h => absurd h (by decide)),
        SafeOpW.v (SafeOpW.of hR fun W0 hI0 => safe_pick b3 (fun v hv => hv) (fun hc v hv => by rw [hv hc, hb4e, hc]; rfl) (fun hc => by show _ = _; rw [hb4e, hc]; rfl)) (fun _ h => absurd h (by decide)),
        SafeOpW.v (safeW_move hR (fun W v hI hv => hv)) (fun _ h => absurd h (by decide)),
        entryV 15 b4 true rfl rfl (fun hc d hd W hI => by cases hd; intro h; exact absurd h hc) (fun _ _ h => absurd h (by decide)) fun hc => SafeOpW.v (SafeOpW.of hR fun W0 hI0 => safe_fieldAddr Tryz.underlying32 rfl size30 (by decide) w8.heap.size 0 (fun v hv => hv) (fun _ => rfl)) (fun _ h => absurd h (by decide)),
        entryV 15 b4 true rfl rfl (fun hc d hd W hI => by cases hd; intro h; exact absurd h hc) (fun _ _ h => absurd h (by decide)) fun hc => SafeOpW.v (SafeOpW.of hR fun W0 hI0 => safe_loadC Tryz.underlying30 rfl ⟨w8.heap.size, 2, none⟩ (fun v hv => hv hc) (.slice ad n3 cd) (fun W hI => by subst hI; exact hcell _ hI0 2 _ rfl) (fun _ => rfl)) (fun _ h => absurd h (by decide)),
        entryV 15 b4 true rfl rfl (fun hc d hd W hI => by cases hd; intro h; exact absurd h hc) (fun _ _ h => absurd h (by decide)) fun hc => SafeOpW.v (SafeOpW.of hR fun W0 hI0 => safe_len Tryz.underlying30 n3 (fun v hv => ⟨_, _, hv hc⟩) (fun _ => rfl)) (fun _ h => absurd h (by decide)),
        entryV 15 b4 true rfl rfl (fun hc d hd W hI => by cases hd; intro h; exact absurd h hc) (fun _ _ h => absurd h (by decide)) fun hc => SafeOpW.v (SafeOpW.of hR fun W0 hI0 => safe_gtr (n3 : Int) 0 (fun v hv => hv hc) rfl (fun _ => rfl)) (fun _ h => absurd h (by decide)),
        SafeOpW.v (SafeOpW.of hR fun W0 hI0 => safe_pick b4 (fun v hv => hv) (fun hc v hv => by rw [hv hc, hb5e, hc]; rfl) (fun hc => by show _ = _; rw [hb5e, hc]; rfl)) (fun _ h => absurd h (by decide)),
        SafeOpW.v (safeW_move hR (fun W v hI hv => hv)) (fun _ h => absurd h (by decide)),
        entryV 21 b5 true rfl rfl (fun hc d hd W hI => by cases hd; intro h; exact absurd h hc) (fun _ _ h => absurd h (by decide)) fun hc => SafeOpW.v (SafeOpW.of hR fun W0 hI0 => safe_fieldAddr Tryz.underlying32 rfl size30 (by decide) w8.heap.size 0 (fun v hv => hv) (fun _ => rfl)) (fun _ h => absurd h (by decide)),
        entryV 21 b5 true rfl rfl (fun hc d hd W hI => by cases hd; intro h; exact absurd h hc) (fun _ _ h => absurd h (by decide)) fun hc => SafeOpW.v (SafeOpW.of hR fun W0 hI0 => safe_loadC Tryz.underlying30 rfl ⟨w8.heap.size, 2, none⟩ (fun v hv => hv hc) (.slice ad n3 cd) (fun W hI => by subst hI; exact hcell _ hI0 2 _ rfl) (fun _ => rfl)) (fun _ h => absurd h (by decide)),
        entryV 21 b5 true rfl rfl (fun hc d hd W hI => by cases hd; intro h; exact absurd h hc) (fun _ _ h => absurd h (by decide)) fun hc => SafeOpW.v (SafeOpW.of hR fun W0 hI0 => safe_fieldAddr Tryz.underlying32 rfl size30 (by decide) w8.heap.size 0 (fun v hv => hv) (fun _ => rfl)) (fun _ h => absurd h (by decide)),
        entryV 21 b5 true rfl rfl (fun hc d hd W hI => by cases hd; intro h; exact absurd h hc) (fun _ _ h => absurd h (by decide)) fun hc => SafeOpW.v (SafeOpW.of hR fun W0 hI0 => safe_loadC Tryz.underlying30 rfl ⟨w8.heap.size, 0, none⟩ (fun v hv => hv hc) (.slice an n1 cn) (fun W hI => by subst hI; exact hcell _ hI0 0 _ rfl) (fun _ => rfl)) (fun _ h => absurd h (by decide)),
        entryV 21 b5 true rfl rfl (fun hc d hd W hI => by cases hd; intro h; exact absurd h hc) (fun _ _ h => absurd h (by decide)) fun hc => SafeOpW.v (safeW_call2 (fun _ v => v = .slice ad n3 cd) (fun _ v => v = .slice an n1 cn) (fun W v hI hv => hv hc) (fun W v hI hv => hv hc) call28 (fun a b W hI ha hb => by subst ha hb; exact (LOrder_any _ _ _ _ W (hD W hI) (hN W hI) (by omega) (by omega)).mono fun e w' ⟨h1, hb⟩ => ⟨_, h1, hRb W w' hI hb, hIb W w' hI hb, fun d hd => by cases hd; exact fun _ => by rw [hq6]⟩)) (fun _ h => absurd h (by decide)),
        entryV 21 b5 true rfl rfl (fun hc d hd W hI => by cases hd; intro h; exact absurd h hc) (fun _ _ h => absurd h (by decide)) fun hc => SafeOpW.v (SafeOpW.of hR fun W0 hI0 => safe_lss q6 0 (fun v hv => hv hc) rfl (fun _ => rfl)) (fun _ h => absurd h (by decide)),
        SafeOpW.v (SafeOpW.of hR fun W0 hI0 => safe_pick b5 (fun v hv => hv) (fun hc v hv => by rw [hv hc, hb6e, hc]; rfl) (fun hc => by show _ = _; rw [hb6e, hc]; rfl)) (fun _ h => absurd h (by decide)),
        SafeOpW.v (safeW_move hR (fun W v hI hv => hv)) (fun _ h => absurd h (by decide)),
        entryV 29 b6 true rfl rfl (fun hc d hd W hI => by cases hd; intro h; exact absurd h hc) (fun _ _ h => absurd h (by decide)) fun hc => SafeOpW.v (SafeOpW.of hR fun W0 hI0 => safe_fieldAddr Tryz.underlying32 rfl size30 (by decide) w8.heap.size 0 (fun v hv => hv) (fun _ => rfl)) (fun _ h => absurd h (by decide)),
        entryV 29 b6 true rfl rfl (fun hc d hd W hI => by cases hd; intro h; exact absurd h hc) (fun _ _ h => absurd h (by decide)) fun hc => SafeOpW.v (SafeOpW.of hR fun W0 hI0 => safe_loadC Tryz.underlying30 rfl ⟨w8.heap.size, 0, none⟩ (fun v hv => hv hc) (.slice an n1 cn) (fun W hI => by subst hI; exact hcell _ hI0 0 _ rfl) (fun _ => rfl)) (fun _ h => absurd h (by decide)),
        entryV 29 b6 true rfl rfl (fun hc d hd W hI => by cases hd; intro h; exact absurd h hc) (fun _ _ h => absurd h (by decide)) fun hc => SafeOpW.v (safeW_call1 (fun _ v => v = .slice an n1 cn) (fun W v hI hv => hv hc) call15 (fun a W hI ha => by subst ha; exact (LBits_any _ _ W (hN W hI) (by omega)).mono fun e w' ⟨h1, hb⟩ => ⟨_, h1, hRb W w' hI hb, hIb W w' hI hb, fun d hd => by cases hd; exact fun _ => by rw [hq7]⟩)) (fun _ h => absurd h (by decide)),
        entryV 29 b6 true rfl rfl (fun hc d hd W hI => by cases hd; intro h; exact absurd h hc) (fun _ _ h => absurd h (by decide)) fun hc => SafeOpW.v (SafeOpW.of hR fun W0 hI0 => safe_geq (q7 : Int) 1024 (fun v hv => hv hc) rfl (fun _ => rfl)) (fun _ h => absurd h (by decide)),
        SafeOpW.v (SafeOpW.of hR fun W0 hI0 => safe_pick b6 (fun v hv => hv) (fun hc v hv => by rw [hv hc, hb7e, hc]; rfl) (fun hc => by show _ = _; rw [hb7e, hc]; rfl)) (fun _ h => absurd h (by decide)),
        safeV_storeB (w.heap.size + 1) #[.slice an n1 cn, .slice ae n2 ce, .slice ad n3 cd] 32 size32 (fun W v hI hv => hv) (fun W v hI hv => hv) (by simp [Value.oneCell']) (fun W hI => hI.2) (fun W hI => hset W hI),
        SafeOpW.v (safeW_assign hR (fun W v hI hv => hv)) (fun _ h => absurd h (by decide)), trivial⟩
    case hQ =>
      rintro f w10 hI hS hT
      have h3 : f 3 = .bool b7 := hT 3 (by simp)
      have h35 : w10.heap[w.heap.size + 1]? = some (.cells #[.slice an n1 cn, .slice ae n2 ce, .slice ad n3 cd] 32 (0, 0)) := hS 35 (by decide) rfl
      simp only [putAll, List.setIfInBounds_toArray, List.set_cons_zero, List.set_cons_succ]
      obtain ⟨KO, hKO⟩ : ∃ KO, KO = keyOk o := ⟨_, rfl⟩
      rw [h3, hfin, ← hKO]
      have hvn' := hN _ hI
      have hve' := hE _ hI
      have hvd' := hD _ hI
      have hbel : Below w.heap.size w w10 := below_grown hb9 hI.1 (by intro k hk; simp at hk; omega) hb9.size
      clear hT hS h3 hI hRb hIb hset hN hE hD hBW hcell hR
      clear_value I S R
      clear hfin hb1e hb2e hb3e hb4e hb5e hb6e hb7e hq4 hq6 hq7
      go_wp2
      refine ret_cell_tmp rfl (w.heap.size + 1) 32 #[.slice an n1 cn, .slice ae n2 ce, .slice ad n3 cd] (0, 0) _ rfl h35 Tryz.underlying32 rfl size32 rfl ?_
      have hkr2 : o.kind = rsaT := by simpa using hkr
      refine ⟨?_, hbel⟩
      rw [← hKE]
      refine ⟨_, _, _, by rw [← hKO]; rfl, ?_, ?_, ?_⟩
      · rw [keyN, if_pos hkr2]; exact hvn'
      · rw [keyE, if_pos hkr2]; exact hve'
      · rw [keyD, if_pos hkr2]; exact hvd'
  · have hk : (kk.toList == [114, 115, 97]) = false := by rw [show [114, 115, 97] = rsaT from rfl, hkr']; simpa using hkr
    obtain ⟨KE, hKE⟩ : ∃ KE, KeyE o = KE := ⟨_, rfl⟩
    rw [hKE]
    by_cases hke : o.kind = edT
    · have hk2 : (kk.toList == [101, 100, 50, 53, 53, 49, 57]) = true := by rw [show [101, 100, 50, 53, 53, 49, 57] = edT from rfl, hke', hke]; simp
      clear hkr' hke'
      replace hke : ¬ o.kind ≠ edT := by simpa using hke
      obtain ⟨sa, sc, hsv⟩ := h.seed.len
      rw [hsv] at c4
      go_enter Tryz.func8, Tryz.ntmps8
      go_wp2_with fail
      go_region
      go_wp2
      refine ret_cell_tmp rfl (w.heap.size + 1) 32 #[.slice none 0 0, .slice none 0 0, .slice none 0 0] (0, 0) _ rfl hr2 Tryz.underlying32 rfl size32 rfl ?_
      have hke2 : o.kind = edT := by simpa using hke
      refine ⟨?_, hb2.trans ⟨rfl, rfl, rfl, Nat.le_refl _, fun _ _ => rfl⟩⟩
      rw [← hKE]
      refine ⟨.slice none 0 0, .slice none 0 0, .slice none 0 0, ?_, ?_, ?_, ?_⟩
      rotate_left
      · rw [keyN, if_neg hkr]; exact ⟨by simp, Sl.nil _⟩
      · rw [keyE, if_neg hkr]; exact ⟨by simp, Sl.nil _⟩
      · rw [keyD, if_neg hkr]; exact ⟨by simp, Sl.nil _⟩
      · rw [keyOk, if_neg hkr]
        have : (((o.seed.length : Int) == 32)) = decide (o.seed.length = 32) := by
          by_cases e : o.seed.length = 32
          · simp [e]
          · have : ((o.seed.length : Int) == 32) = false := by simp; omega
            simp [this, e]
        rw [← this]
        simp [hke2]
    · have hk2 : (kk.toList == [101, 100, 50, 53, 53, 49, 57]) = false := by rw [show [101, 100, 50, 53, 53, 49, 57] = edT from rfl, hke']; simpa using hke
      clear hkr' hke'
      go_enter Tryz.func8, Tryz.ntmps8
      go_wp2_with fail
      go_region
      go_wp2
      refine ret_cell_tmp rfl (w.heap.size + 1) 32 #[.slice none 0 0, .slice none 0 0, .slice none 0 0] (0, 0) _ rfl hr2 Tryz.underlying32 rfl size32 rfl ?_
      refine ⟨?_, hb2.trans ⟨rfl, rfl, rfl, Nat.le_refl _, fun _ _ => rfl⟩⟩
      rw [← hKE]
      refine ⟨.slice none 0 0, .slice none 0 0, .slice none 0 0, ?_, ?_, ?_, ?_⟩
      rotate_left
      · rw [keyN, if_neg hkr]; exact ⟨by simp, Sl.nil _⟩
      · rw [keyE, if_neg hkr]; exact ⟨by simp, Sl.nil _⟩
      · rw [keyD, if_neg hkr]; exact ⟨by simp, Sl.nil _⟩
      · rw [keyOk, if_neg hkr]
        simp [hke]
end Go.Proofs.YtcebfkhfnjbfjaaGreatDoor
