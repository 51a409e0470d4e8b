/- Exact contract of LOf (as a function of the text). Exact contract of LOrder. Exact contract of lOdd. Contracts of the guards: zzFits2, zzFits1, DPlain, lShort. Contract of zzFits1. -/
import Derived.Test.YtcebfkhfnjbfjaaGreatDoorC16
import Derived.Test.YtcebfkhfnjbfjaaGreatDoorC14
import Derived.Test.YtcebfkhfnjbfjaaGreatDoorC13
namespace Go.Proofs.YtcebfkhfnjbfjaaGreatDoor
open Go.RowKit
set_option linter.unusedVariables false
set_option linter.unusedSimpArgs false
/-- A word, and one more byte in place k. -/
def orF (x b k : Nat) : Nat := (Go.bits .or .u32 (x : Int) ((b : Int) * 2 ^ (8 * (k % 4)) % 4294967296)).toNat % 4294967296
/-- The words of the last k bytes. -/
def wordsOf (l : List UInt8) : Nat → List Nat
  | 0 => []
  | k + 1 =>
    let zs := if k % 4 = 0 then wordsOf l k ++ [0] else wordsOf l k
    zs.set (k / 4) (orF (zs.getD (k / 4) 0) (l.getD (l.length - 1 - k) 0).toNat k)
def ofF (l : List UInt8) : List Nat := bareL (wordsOf l l.length)
theorem wordsOf_length (l : List UInt8) : ∀ k, (wordsOf l k).length = (k + 3) / 4
  | 0 => rfl
  | k + 1 => by
    simp only [wordsOf, List.length_set]
    split
    · rw [List.length_append, wordsOf_length l k]; simp; omega
    · rw [wordsOf_length l k]; omega
theorem orF_lt (x b k : Nat) : orF x b k < 4294967296 := Nat.mod_lt _ (by omega)
theorem wordsOf_lt (l : List UInt8) : ∀ k, ∀ x ∈ wordsOf l k, x < 4294967296
  | 0 => by simp [wordsOf]
  | k + 1 => by
    intro x hx
    simp only [wordsOf] at hx
    rcases List.mem_or_eq_of_mem_set hx with hx | rfl
    · split at hx
      · rcases List.mem_append.1 hx with hx | hx
        · exact wordsOf_lt l k x hx
        · simp at hx; omega
      · exact wordsOf_lt l k x hx
    · exact orF_lt _ _ _
theorem bits_u32 (op : BinOp) (a b : Int) : 0 ≤ Go.bits op .u32 a b ∧ Go.bits op .u32 a b < 4294967296 := by
  unfold Go.bits
  rw [IntKind.wrap_u32]
  show 0 ≤ _ % (4294967296 : Int) ∧ _ % (4294967296 : Int) < 4294967296
  omega
theorem orF_eq (x b k : Nat) {u v : Int} (hu : u = (x : Int)) (hv : v = (b : Int) * 2 ^ (8 * (k % 4)) % 4294967296) : Go.bits .or .u32 u v = ((orF x b k : Nat) : Int) := by
  subst hu hv
  have := bits_u32 .or (x : Int) ((b : Int) * 2 ^ (8 * (k % 4)) % 4294967296)
  unfold orF
  omega
set_option maxHeartbeats 1000000 in
set_option maxRecDepth 100000 in
theorem LOf_any (l : List UInt8) (w : World) (hl : l.length ≤ 1000000) :
    Calls Tryz.prog 26 #[.string (str l)] w fun e w' => (∃ v, e = .returned v ∧ Num v (ofF l) w') ∧ Below w.heap.size w w' := by
  have hbel := Below.refl w.heap.size w
  have hsz := str_size l
  obtain ⟨n, hn⟩ : ∃ n, l.length = n := ⟨_, rfl⟩
  rw [hn] at hl hsz
  go_enter Tryz.func26, Tryz.ntmps26
  go_wp2
  go_loopw [3, 4] (fun v3 v4 W => ∃ (k : Nat) (x : Int), v4 = .int .i64 x ∧ x = (n : Int) - 1 - k ∧ k ≤ n ∧ Own w.heap.size 45 v3 (words (wordsOf l k)) W ∧ Below w.heap.size w W) (fun _ v4 _ => (intOf v4 + 1).toNat)
  case atStart => exact ⟨0, (n : Int) - 1, rfl, by omega, by omega, Own.nil _ _ _, hbel⟩
  case round =>
    clear hbel
    obtain ⟨k, x, rfl, hx, hk, hown, hbel⟩ := hrel
    by_cases h1 : k < n
    · obtain ⟨y, rfl⟩ : ∃ y : Nat, x = y := ⟨x.toNat, by omega⟩
      have e1 : (n : Int) - 1 - (y : Int) = k := by omega
      have hyk : y + k + 1 = n := by omega
      clear hx
      have hlen := wordsOf_length l k
      by_cases h4 : k % 4 = 0
      · have hd4 : (k : Int) % 4 = 0 := by omega
        go_wp2_with (at_builtin; refine wpList_app rfl (.tmp 21) (.tmp 22) 30 30 rfl _ _ rfl rfl (app_word _ _ hown (by simp only [words, List.length_map]; omega) hbel.size) ?_; intro v2 w2 ho1 hg1)
        obtain ⟨zs, hzs⟩ : ∃ zs, wordsOf l k ++ [0] = zs := ⟨_, rfl⟩
        have hlz : zs.length = k / 4 + 1 := by rw [← hzs]; simp [hlen]; omega
        replace hbel := (hown.alloc _).belowGrown (hbel.alloc hbel.size _) hg1 (Nat.le_refl _) (by have := hbel.size; simp; omega)
        have ho2 : Own w.heap.size 45 v2 (words zs) w2 := by rw [← hzs]; exact ho1.word rfl
        clear ho1 hg1 hown hlen
        have hwk : wordsOf l (k + 1) = zs.set (k / 4) (orF (zs.getD (k / 4) 0) (l.getD y 0).toNat k) := by
          simp only [wordsOf, if_pos h4]
          rw [show l.length - 1 - k = y by omega, hzs]
        clear hzs
        obtain ⟨g, cap, rfl, hc, hf⟩ := ho2.wordAt (i := k / 4) (by omega)
        have hxk : zs[k / 4]'(by omega) = zs.getD (k / 4) 0 := by rw [List.getD_eq_getElem?_getD, List.getElem?_eq_getElem (by omega)]; rfl
        rw [hxk] at hc
        rw [hlz] at ho2 ⊢
        have hix := str_at (P := Tryz.prog) Tryz.underlying9 l .i64 y (by omega)
        have hcl : (l.getD y 0).toNat < 256 := (l.getD y 0).toNat_lt
        generalize (l.getD y 0).toNat = c at hix hwk hcl
        generalize zs.getD (k / 4) 0 = q at hc hwk
        have e8 : (k : Int).tdiv 4 = (k : Int) / 4 := Int.tdiv_eq_ediv_of_nonneg (by omega)
        have e9 : (k : Int).tmod 4 = (k : Int) % 4 := Int.tmod_eq_emod_of_nonneg (by omega)
        have e10 : ((k : Int) / 4).toNat = k / 4 := by omega
        have e11 : (8 * ((k : Int) % 4)).toNat = 8 * (k % 4) := by omega
        have e12 : ¬ (8 * ((k : Int) % 4) < 0) := by omega
        have hcu : (c : Int) % 4294967296 = c := by have : c < 256 := hcl; omega
        clear h4 hd4
        have e3 : IntKind.i64.wrap (8 * ((k : Int) % 4)) = 8 * ((k : Int) % 4) := IntWalk.i64_in _ (by omega)
        have e4 : IntKind.i64.wrap ((k : Int) / 4) = (k : Int) / 4 := IntWalk.i64_in _ (by omega)
        have e5 : (k : Int) / 4 < (k : Int) / 4 + 1 := by omega
        have e6 : 0 ≤ (k : Int) / 4 := by omega
        have e7 : 0 ≤ 8 * ((k : Int) % 4) := by omega
        go_still_tail 15, (by kernel_rfl)
        clear e3 e4 e5 e6 e7 e8 e9 e10 e11 e12
        go_wp2
        go_roundw
        case rel =>
          refine ⟨k + 1, (y : Int) - 1, by go_num, by omega, by omega, ?_, (hbel.setCell (by have := (ho2.lt g rfl).1; dsimp only; omega) _).drew⟩
          rw [hwk, ← words_set, ← orF_eq q c k rfl rfl]
          exact (ho2.set (k / 4) _ rfl).drew
        case measure => simp [intOf] <;> omega
      · have hd4 : ¬ ((k : Int) % 4 = 0) := by omega
        go_wp2_with fail
        obtain ⟨zs, hzs⟩ : ∃ zs, wordsOf l k = zs := ⟨_, rfl⟩
        have hlz : zs.length = k / 4 + 1 := by rw [← hzs]; rw [hlen]; omega
        have ho2 : Own w.heap.size 45 u3 (words zs) wr := by rw [← hzs]; exact hown
        clear hown hlen
        have hwk : wordsOf l (k + 1) = zs.set (k / 4) (orF (zs.getD (k / 4) 0) (l.getD y 0).toNat k) := by
          simp only [wordsOf, if_neg h4]
          rw [show l.length - 1 - k = y by omega, hzs]
        clear hzs
        obtain ⟨g, cap, rfl, hc, hf⟩ := ho2.wordAt (i := k / 4) (by omega)
        have hxk : zs[k / 4]'(by omega) = zs.getD (k / 4) 0 := by rw [List.getD_eq_getElem?_getD, List.getElem?_eq_getElem (by omega)]; rfl
        rw [hxk] at hc
        rw [hlz] at ho2 ⊢
        have hix := str_at (P := Tryz.prog) Tryz.underlying9 l .i64 y (by omega)
        have hcl : (l.getD y 0).toNat < 256 := (l.getD y 0).toNat_lt
        generalize (l.getD y 0).toNat = c at hix hwk hcl
        generalize zs.getD (k / 4) 0 = q at hc hwk
        have e8 : (k : Int).tdiv 4 = (k : Int) / 4 := Int.tdiv_eq_ediv_of_nonneg (by omega)
        have e9 : (k : Int).tmod 4 = (k : Int) % 4 := Int.tmod_eq_emod_of_nonneg (by omega)
        have e10 : ((k : Int) / 4).toNat = k / 4 := by omega
        have e11 : (8 * ((k : Int) % 4)).toNat = 8 * (k % 4) := by omega
        have e12 : ¬ (8 * ((k : Int) % 4) < 0) := by omega
        have hcu : (c : Int) % 4294967296 = c := by have : c < 256 := hcl; omega
        clear h4 hd4
        have e3 : IntKind.i64.wrap (8 * ((k : Int) % 4)) = 8 * ((k : Int) % 4) := IntWalk.i64_in _ (by omega)
        have e4 : IntKind.i64.wrap ((k : Int) / 4) = (k : Int) / 4 := IntWalk.i64_in _ (by omega)
        have e5 : (k : Int) / 4 < (k : Int) / 4 + 1 := by omega
        have e6 : 0 ≤ (k : Int) / 4 := by omega
        have e7 : 0 ≤ 8 * ((k : Int) % 4) := by omega
        go_still_tail 15, (by kernel_rfl)
        clear e3 e4 e5 e6 e7 e8 e9 e10 e11 e12
        go_wp2
        go_roundw
        case rel =>
          refine ⟨k + 1, (y : Int) - 1, by go_num, by omega, by omega, ?_, (hbel.setCell (by have := (ho2.lt g rfl).1; dsimp only; omega) _).drew⟩
          rw [hwk, ← words_set, ← orF_eq q c k rfl rfl]
          exact (ho2.set (k / 4) _ rfl).drew
        case measure => simp [intOf] <;> omega
    · obtain rfl : k = n := by omega
      obtain rfl : x = -1 := by omega
      go_wp2_with fail
      refine (lBare_any _ _ _ (hown.num (wordsOf_lt l k))).mono ?_
      rintro e w1 ⟨⟨v', rfl, hv'⟩, hb1⟩
      go_wp2
      go_ret
      refine ⟨⟨v', rfl, ?_⟩, hbel.trans (hb1.mono hbel.size)⟩
      unfold ofF
      rw [hn]
      exact hv'
end Go.Proofs.YtcebfkhfnjbfjaaGreatDoor
namespace Go.Proofs.YtcebfkhfnjbfjaaGreatDoor
open Go.RowKit
set_option linter.unusedVariables false
set_option linter.unusedSimpArgs false
/-- The order of two numbers of equally many words by those below n, the highest first. -/
def cmpAt (us vs : List Nat) : Nat → Int
  | 0 => 0
  | i + 1 => if us.getD i 0 < vs.getD i 0 then -1 else if vs.getD i 0 < us.getD i 0 then 1 else cmpAt us vs i
/-- The order of two numbers. -/
def orderF (xs ys : List Nat) : Int :=
  if (bareL xs).length = (bareL ys).length then cmpAt (bareL xs) (bareL ys) (bareL xs).length
  else if (bareL xs).length < (bareL ys).length then -1 else 1
set_option maxHeartbeats 1000000 in
set_option maxRecDepth 100000 in
theorem LOrder_any (va vb : Value) (xs ys : List Nat) (w : World) (ha : Num va xs w) (hb : Num vb ys w) (hxl : xs.length ≤ 1000000) (hyl : ys.length ≤ 1000000) :
    Calls Tryz.prog 28 #[va, vb] w fun e w' => e = .returned (.int .i64 (orderF xs ys)) ∧ Below w.heap.size w w' := by
  obtain ⟨r, hr⟩ : ∃ r, orderF xs ys = r := ⟨_, rfl⟩
  rw [hr]
  unfold orderF at hr
  go_enter Tryz.func28, Tryz.ntmps28
  go_wp2_with fail
  refine (lBare_any _ _ _ ha).mono ?_
  rintro e w1 ⟨⟨va', rfl, ha'⟩, hb1⟩
  replace hb := hb.below hb1 (Nat.le_refl _)
  go_wp2_with fail
  refine (lBare_any _ _ _ hb).mono ?_
  rintro e w2 ⟨⟨vb', rfl, hb'⟩, hb2⟩
  replace ha' := ha'.below hb2 (Nat.le_refl _)
  have hbel := hb1.trans (hb2.mono hb1.size)
  have l1 := bareL_length xs
  have l2 := bareL_length ys
  generalize bareL xs = us at ha' l1 hr
  generalize bareL ys = vs at hb' l2 hr
  obtain ⟨aa, ca, rfl⟩ := ha'.len
  obtain ⟨ab, cb, rfl⟩ := hb'.len
  obtain ⟨n, hn⟩ : ∃ n, us.length = n := ⟨_, rfl⟩
  obtain ⟨m, hm⟩ : ∃ m, vs.length = m := ⟨_, rfl⟩
  rw [hn] at ha' l1 hr ⊢
  rw [hm] at hb' l2 hr ⊢
  clear ha hb hb1 hb2
  by_cases hnm : n = m
  · have hd : decide ((n : Int) = (m : Int)) = true := by simp; omega
    clear hd
    subst hnm
    rw [if_pos rfl] at hr
    go_wp2
    go_loopw [5] (fun v5 W => ∃ x : Int, v5 = .int .i64 x ∧ -1 ≤ x ∧ x < n ∧ cmpAt us vs (x + 1).toNat = r ∧ Below w.heap.size w W ∧ Below w2.heap.size w2 W) (fun v5 _ => (intOf v5 + 1).toNat)
    case atStart => exact ⟨(n : Int) - 1, rfl, by omega, by omega, by rw [show ((n : Int) - 1 + 1).toNat = n by omega]; exact hr, hbel, Below.refl _ _⟩
    case round =>
      clear hbel
      obtain ⟨x, rfl, hx0, hx1, hcmp, hbel, hb2⟩ := hrel
      by_cases hx : 0 ≤ x
      · obtain ⟨i, rfl⟩ : ∃ i : Nat, x = i := ⟨x.toNat, by omega⟩
        have ha2 := ha'.below hb2 (Nat.le_refl _)
        have hb3 := hb'.below hb2 (Nat.le_refl _)
        obtain ⟨ga, oa, ca', xa, e, hca, hxa, hga⟩ := ha2.cell (i := i) (by omega)
        simp only [Value.slice.injEq] at e
        obtain ⟨rfl, -, rfl⟩ := e
        obtain ⟨gb, ob, cb', xb, e, hcb, hxb, hgb⟩ := hb3.cell (i := i) (by omega)
        simp only [Value.slice.injEq] at e
        obtain ⟨rfl, -, rfl⟩ := e
        rw [show ((i : Int) + 1).toNat = i + 1 by omega] at hcmp
        simp only [cmpAt, List.getD_eq_getElem?_getD, hga, hgb, Option.getD_some] at hcmp
        clear hga hgb
        by_cases c1 : xa < xb
        · have d1 : decide ((xa : Int) < (xb : Int)) = true := by simp; omega
          go_upto_region 9 with (fail)
          go_quiet (fail)
          go_wp2
          go_ret
          rw [if_pos c1] at hcmp
          exact ⟨by rw [← hcmp]; rfl, hbel.trans ⟨rfl, rfl, rfl, Nat.le_refl _, fun _ _ => rfl⟩⟩
        · have d1 : decide ((xa : Int) < (xb : Int)) = false := by simp; omega
          by_cases c2 : xb < xa
          · have d2 : decide ((xb : Int) < (xa : Int)) = true := by simp; omega
            go_upto_region 9 with (fail)
            go_quiet (fail)
            go_upto_region 11 with (fail)
            go_quiet (fail)
            go_wp2
            go_ret
            rw [if_neg c1, if_pos c2] at hcmp
            exact ⟨by rw [← hcmp]; rfl, hbel.trans ⟨rfl, rfl, rfl, Nat.le_refl _, fun _ _ => rfl⟩⟩
          · have d2 : decide ((xb : Int) < (xa : Int)) = false := by simp; omega
            go_upto_region 9 with (fail)
            go_quiet (fail)
            go_upto_region 11 with (fail)
            go_quiet (fail)
            go_wp2
            go_roundw
            case rel => exact ⟨(i : Int) - 1, by go_num, by omega, by omega, by rw [if_neg c1, if_neg c2] at hcmp; rw [show ((i : Int) - 1 + 1).toNat = i by omega]; exact hcmp, hbel.trans ⟨rfl, rfl, rfl, Nat.le_refl _, fun _ _ => rfl⟩, hb2.trans ⟨rfl, rfl, rfl, Nat.le_refl _, fun _ _ => rfl⟩⟩
            case measure => simp [intOf] <;> omega
      · have d1 : decide (0 ≤ x) = false := by simp; omega
        obtain rfl : x = -1 := by omega
        go_wp2
        go_ret
        exact ⟨by rw [← hcmp]; rfl, hbel⟩
  · have hd : decide ((n : Int) = (m : Int)) = false := by simp; omega
    rw [if_neg hnm] at hr
    by_cases h2 : n < m
    · have hd2 : decide ((n : Int) < (m : Int)) = true := by simp; omega
      rw [if_pos h2] at hr
      go_wp2
      go_ret
      exact ⟨by rw [← hr]; rfl, hbel⟩
    · have hd2 : decide ((n : Int) < (m : Int)) = false := by simp; omega
      rw [if_neg h2] at hr
      go_wp2
      go_ret
      exact ⟨by rw [← hr]; rfl, hbel⟩
end Go.Proofs.YtcebfkhfnjbfjaaGreatDoor
namespace Go.Proofs.YtcebfkhfnjbfjaaGreatDoor
open Go.RowKit
set_option linter.unusedVariables false
set_option linter.unusedSimpArgs false
/-- Are a modulus and an exponent odd, and is this from 3 to 2^31 - 1? -/
def oddF (ns es : List Nat) : Bool := decide (0 < ns.length) && decide (ns.getD 0 0 % 2 = 1) && decide (es.length = 1) && decide (es.getD 0 0 % 2 = 1) && decide (3 ≤ es.getD 0 0) && decide (es.getD 0 0 < 2147483648)
set_option maxHeartbeats 1000000 in
set_option maxRecDepth 100000 in
theorem lOdd_any (va vb : Value) (ns es : List Nat) (w : World) (ha : Num va ns w) (hb : Num vb es w) (hxl : ns.length ≤ 1000000) (hyl : es.length ≤ 1000000) :
    Calls Tryz.prog 27 #[va, vb] w fun e w' => e = .returned (.bool (oddF ns es)) ∧ Below w.heap.size w w' := by
  have hbel := Below.refl w.heap.size w
  obtain ⟨aa, ca, rfl⟩ := ha.len
  obtain ⟨ab, cb, rfl⟩ := hb.len
  rcases ns with _ | ⟨x, ns⟩
  · have hF : oddF [] es = false := by simp [oddF]
    go_enter Tryz.func27, Tryz.ntmps27
    go_wp2
    go_ret
    exact ⟨by rw [hF]; rfl, hbel⟩
  · obtain ⟨ga, oa, ca', xa, e, hca, hxa, hx0⟩ := ha.cell (i := 0) (by simp)
    simp only [Value.slice.injEq] at e
    obtain ⟨rfl, -, rfl⟩ := e
    simp at hx0
    subst hx0
    obtain ⟨n, hn⟩ : ∃ n, (x :: ns).length = n := ⟨_, rfl⟩
    have hn0 : 0 < n := by rw [← hn]; simp
    rw [hn] at ha hxl ⊢
    simp only [Nat.add_zero] at hca
    have d0 : decide (0 < (n : Int)) = true := by simp; omega
    by_cases c1 : x % 2 = 1
    · have d1 : (x : Int) % 2 = 1 := by omega
      by_cases c2 : es.length = 1
      · obtain ⟨y, rfl⟩ : ∃ y, es = [y] := List.length_eq_one_iff.1 c2
        obtain ⟨gb, ob, cb', xb, e, hcb, hxb, hy0⟩ := hb.cell (i := 0) (by simp)
        simp only [Value.slice.injEq] at e
        obtain ⟨rfl, -, rfl⟩ := e
        simp at hy0
        subst hy0
        simp only [Nat.add_zero] at hcb
        have hF : oddF (x :: ns) [y] = (decide (y % 2 = 1) && decide (3 ≤ y) && decide (y < 2147483648)) := by simp [oddF, c1]
        by_cases c3 : y % 2 = 1
        · have d3 : (y : Int) % 2 = 1 := by omega
          by_cases c4 : 3 ≤ y
          · have d4 : decide (3 ≤ (y : Int)) = true := by simp; omega
            by_cases c5 : y < 2147483648
            · have d5 : decide ((y : Int) < 2147483648) = true := by simp; omega
              go_enter Tryz.func27, Tryz.ntmps27
              go_wp2
              go_ret
              exact ⟨by rw [hF]; simp [c3, c4, c5], hbel⟩
            · have d5 : decide ((y : Int) < 2147483648) = false := by simp; omega
              go_enter Tryz.func27, Tryz.ntmps27
              go_wp2
              go_ret
              exact ⟨by rw [hF]; simp [c3, c4, c5], hbel⟩
          · have d4 : decide (3 ≤ (y : Int)) = false := by simp; omega
            go_enter Tryz.func27, Tryz.ntmps27
            go_wp2
            go_ret
            exact ⟨by rw [hF]; simp [c3, c4], hbel⟩
        · have d3 : (y : Int) % 2 = 0 := by omega
          go_enter Tryz.func27, Tryz.ntmps27
          go_wp2
          go_ret
          exact ⟨by rw [hF]; simp [c3], hbel⟩
      · have hF : oddF (x :: ns) es = false := by simp [oddF, c2]
        obtain ⟨m, hm⟩ : ∃ m, es.length = m := ⟨_, rfl⟩
        rw [hm] at hb c2 ⊢
        have d2 : decide ((m : Int) = 1) = false := by simp; omega
        go_enter Tryz.func27, Tryz.ntmps27
        go_wp2
        go_ret
        exact ⟨by rw [hF]; rfl, hbel⟩
    · have hF : oddF (x :: ns) es = false := by simp [oddF, c1]
      have d1 : (x : Int) % 2 = 0 := by omega
      go_enter Tryz.func27, Tryz.ntmps27
      go_wp2
      go_ret
      exact ⟨by rw [hF]; rfl, hbel⟩
end Go.Proofs.YtcebfkhfnjbfjaaGreatDoor
namespace Go.Proofs.YtcebfkhfnjbfjaaGreatDoor
open Go.RowKit
set_option linter.unusedVariables false
set_option linter.unusedSimpArgs false
set_option maxHeartbeats 1000000 in
set_option maxRecDepth 100000 in
theorem zzFits2_any (v : Value) (xs : List (List UInt8)) (w : World) (h : SlI v (strs xs) w) :
    Calls Tryz.prog 16 #[v] w fun e w' => BoolE e ∧ Below w.heap.size w w' := by
  have hbel := Below.refl w.heap.size w
  obtain ⟨a, ca, rfl⟩ := h.len
  have hle := h.le
  obtain ⟨n, hn⟩ : ∃ n, (strs xs).length = n := ⟨_, rfl⟩
  rw [hn] at h hle ⊢
  simp only [maxLen] at hle
  by_cases c1 : 2147483647 < n
  · have d1 : decide (2147483647 < (n : Int)) = true := by simp; omega
    go_enter Tryz.func16, Tryz.ntmps16
    go_wp2
    go_ret
    exact ⟨⟨_, rfl⟩, hbel⟩
  · have d1 : decide (2147483647 < (n : Int)) = false := by simp; omega
    go_enter Tryz.func16, Tryz.ntmps16
    go_wp2
    go_loopw [10] (fun v10 W => ∃ i : Nat, v10 = .int .i64 (i : Int) ∧ i ≤ n ∧ Below w.heap.size w W) (fun v10 _ => (n - intOf v10).toNat)
    case atStart => exact ⟨0, rfl, by omega, hbel⟩
    case round =>
      clear hbel
      obtain ⟨i, rfl, hi, hbel⟩ := hrel
      by_cases h1 : i < n
      · have hd1 : decide ((i : Int) < (n : Int)) = true := by simp; omega
        have hlt : i < xs.length := by rw [← hn] at h1; simpa using h1
        obtain ⟨s, hs⟩ : ∃ s, (strs xs)[i]? = some (.string s) := ⟨str xs[i], by simp [strs]; exact ⟨_, List.getElem?_eq_getElem hlt, rfl⟩⟩
        obtain ⟨g, o, ca', e, hc⟩ := (h.below hbel (Nat.le_refl _)).cell hs
        simp only [Value.slice.injEq] at e
        obtain ⟨rfl, -, rfl⟩ := e
        by_cases c2 : 2147483647 < s.size
        · have d2 : decide (2147483647 < (s.size : Int)) = true := by simp; omega
          go_wp2
          go_ret
          exact ⟨⟨_, rfl⟩, hbel⟩
        · have d2 : decide (2147483647 < (s.size : Int)) = false := by simp; omega
          go_wp2
          go_roundw
          case rel => exact ⟨i + 1, by go_num, by omega, hbel⟩
          case measure => simp [intOf] <;> omega
      · have hd1 : decide ((i : Int) < (n : Int)) = false := by simp; omega
        go_wp2
        go_ret
        exact ⟨⟨_, rfl⟩, hbel⟩
set_option maxHeartbeats 1000000 in
set_option maxRecDepth 100000 in
theorem DPlain_any (s : ByteArray) (m : Int) (w : World) (hs : s.size ≤ 9223372036854775807) :
    Calls Tryz.prog 49 #[.string s, .int .i64 m] w fun e w' => BoolP ((s.size : Int) ≤ m) e ∧ Below w.heap.size w w' := by
  have hbel := Below.refl w.heap.size w
  obtain ⟨n, hn⟩ : ∃ n, s.size = n := ⟨_, rfl⟩
  rw [hn] at hs
  go_enter Tryz.func49, Tryz.ntmps49
  go_wp2
  go_loopw [5] (fun v5 W => ∃ i : Nat, v5 = .int .i64 (i : Int) ∧ i ≤ n ∧ Below w.heap.size w W) (fun v5 _ => (n - intOf v5).toNat)
  case atStart => exact ⟨0, rfl, by omega, hbel⟩
  case round =>
    clear hbel
    obtain ⟨i, rfl, hi, hbel⟩ := hrel
    by_cases h1 : i < n
    · have hd1 : decide ((i : Int) < (n : Int)) = true := by simp; omega
      obtain ⟨x, hx, hix⟩ := str_index (P := Tryz.prog) Tryz.underlying9 s .i64 (i : Int) i rfl (by omega)
      by_cases c1 : 128 ≤ x
      · have d1 : decide (128 ≤ (x : Int)) = true := by simp; omega
        go_wp2
        go_ret
        exact ⟨⟨false, rfl, by simp⟩, hbel⟩
      · have d1 : decide (128 ≤ (x : Int)) = false := by simp; omega
        by_cases c2 : x = 11
        · have d2 : decide (x = 11) = true := by simp; omega
          go_wp2
          go_ret
          exact ⟨⟨false, rfl, by simp⟩, hbel⟩
        · have d2 : (x == 11) = false := by simp; omega
          by_cases c3 : x = 12
          · have d3 : decide ((x : Int) = 12) = true := by simp; omega
            go_wp2
            go_ret
            exact ⟨⟨false, rfl, by simp⟩, hbel⟩
          · have d3 : (x == 12) = false := by simp; omega
            go_wp2
            go_roundw
            case rel => exact ⟨i + 1, by go_num, by omega, hbel⟩
            case measure => simp [intOf] <;> omega
    · have hd1 : decide ((i : Int) < (n : Int)) = false := by simp; omega
      go_wp2
      go_ret
      exact ⟨⟨decide ((n : Int) ≤ m), rfl, by simp [hn]⟩, hbel⟩
set_option maxHeartbeats 1000000 in
set_option maxRecDepth 100000 in
theorem lShort_any (v : Value) (m : Int) (xs : List (List UInt8)) (w : World) (h : SlI v (strs xs) w) (hl : ∀ x ∈ xs, x.length ≤ maxLen) :
    Calls Tryz.prog 36 #[.int .i64 m, v] w fun e w' => BoolP (xs.length ≤ 30 ∧ ∀ x ∈ xs, (x.length : Int) ≤ m) e ∧ Below w.heap.size w w' := by
  have hbel := Below.refl w.heap.size w
  obtain ⟨a, ca, rfl⟩ := h.len
  have hle := h.le
  obtain ⟨n, hn⟩ : ∃ n, (strs xs).length = n := ⟨_, rfl⟩
  rw [hn] at h hle ⊢
  simp only [maxLen] at hle
  by_cases c1 : 30 < n
  · have d1 : decide (30 < (n : Int)) = true := by simp; omega
    go_enter Tryz.func36, Tryz.ntmps36
    go_wp2
    go_ret
    exact ⟨⟨false, rfl, by simp⟩, hbel⟩
  · have d1 : decide (30 < (n : Int)) = false := by simp; omega
    go_enter Tryz.func36, Tryz.ntmps36
    go_wp2
    go_loopw [5] (fun v5 W => ∃ i : Nat, v5 = .int .i64 (i : Int) ∧ i ≤ n ∧ (∀ (k : Nat) (x : List UInt8), k < i → xs[k]? = some x → (x.length : Int) ≤ m) ∧ Below w.heap.size w W) (fun v5 _ => (n - intOf v5).toNat)
    case atStart => exact ⟨0, rfl, by omega, fun k x hk => by omega, hbel⟩
    case round =>
      clear hbel
      obtain ⟨i, rfl, hi, hall, hbel⟩ := hrel
      by_cases h1 : i < n
      · have hd1 : decide ((i : Int) < (n : Int)) = true := by simp; omega
        have hlt : i < xs.length := by rw [← hn] at h1; simpa using h1
        obtain ⟨s, hs, hsz, hse⟩ : ∃ s, (strs xs)[i]? = some (.string s) ∧ s.size ≤ 9223372036854775807 ∧ s.size = xs[i].length := ⟨str xs[i], by simp [strs]; exact ⟨_, List.getElem?_eq_getElem hlt, rfl⟩, by rw [str_size]; exact hl _ (List.getElem_mem hlt), str_size _⟩
        obtain ⟨g, o, ca', e, hc⟩ := (h.below hbel (Nat.le_refl _)).cell hs
        simp only [Value.slice.injEq] at e
        obtain ⟨rfl, -, rfl⟩ := e
        go_wp2_with fail
        refine (DPlain_any s m _ hsz).mono ?_
        rintro e w1 ⟨⟨b, rfl, hbp⟩, hb1⟩
        replace hb1 := hbel.trans (hb1.mono hbel.size)
        cases b
        · go_wp2
          go_ret
          exact ⟨⟨false, rfl, by simp⟩, hb1⟩
        · go_wp2
          go_roundw
          case rel =>
            refine ⟨i + 1, by go_num, by omega, fun k x hk hx => ?_, hb1⟩
            by_cases e : k = i
            · subst e
              rw [List.getElem?_eq_getElem hlt] at hx
              cases hx
              rw [← hse]
              exact hbp (by simp)
            · exact hall k x (by omega) hx
          case measure => simp [intOf] <;> omega
      · have hd1 : decide ((i : Int) < (n : Int)) = false := by simp; omega
        go_wp2
        go_ret
        refine ⟨⟨true, rfl, fun _ => ⟨by simp at hn; omega, fun x hx => ?_⟩⟩, hbel⟩
        obtain ⟨k, hk, hkx⟩ := List.mem_iff_getElem.1 hx
        exact hall k x (by simp at hn; omega) (by rw [List.getElem?_eq_getElem hk, hkx])
end Go.Proofs.YtcebfkhfnjbfjaaGreatDoor
namespace Go.Proofs.YtcebfkhfnjbfjaaGreatDoor
open Go.RowKit
set_option linter.unusedVariables false
set_option linter.unusedSimpArgs false
set_option maxHeartbeats 1000000 in
set_option maxRecDepth 100000 in
theorem zzFits1_any (o : Opts) (w : World) (h : o.Ok w) :
    Calls Tryz.prog 4 #[.agg o.cells] w fun e w' => BoolE e ∧ Below w.heap.size w w' := by
  have hb0 : Below w.heap.size w (w.alloc (.cells o.cells 25)) := (Below.refl _ _).alloc (Nat.le_refl _) _
  have hat := OptAt.new o w
  have c0 := hat.c0
  have c1 := hat.c1
  have c2 := hat.c2
  have c3 := hat.c3
  have c4 := hat.c4
  have c5 := hat.c5
  have c6 := hat.c6
  have c7 := hat.c7
  have c8 := hat.c8
  have c9 := hat.c9
  have c10 := hat.c10
  have c14 := hat.c14
  obtain ⟨as', cs, hs⟩ := h.seed.len
  rw [hs] at c4
  go_enter Tryz.func4, Tryz.ntmps4
  go_wp2_with fail
  all_goals try (go_ret; exact ⟨⟨_, rfl⟩, hb0⟩)
  refine (zzFits2_any _ _ _ (h.keys.alloc _)).mono ?_
  rintro e w1 ⟨⟨b, rfl⟩, hb1⟩
  have hat1 := hat.keep hb1 (Nat.le_refl _)
  have hk1 := (h.query.alloc _).below hb1 (Nat.le_refl _)
  have c14' := hat1.c14
  replace hb1 := hb0.trans (hb1.mono hb0.size)
  cases b
  · go_wp2_with fail
    go_ret
    exact ⟨⟨_, rfl⟩, hb1⟩
  · go_wp2_with fail
    refine (zzFits2_any _ _ _ hk1).mono ?_
    rintro e w2 ⟨⟨b, rfl⟩, hb2⟩
    replace hb2 := hb1.trans (hb2.mono hb1.size)
    cases b
    · go_wp2_with fail
      go_ret
      exact ⟨⟨_, rfl⟩, hb2⟩
    · go_wp2_with fail
      go_ret
      exact ⟨⟨_, rfl⟩, hb2⟩
end Go.Proofs.YtcebfkhfnjbfjaaGreatDoor
