/- Exact contracts of the package's searches in texts: zzIndex, zzCut, zzSplit, zzReplaceAll, for a sign of one byte. -/
import Derived.Test.YtcebfkhfnjbfjaaGreatDoorC14
import Derived.BigQuiet
import Derived.OwnWalk
namespace Go.Proofs.YtcebfkhfnjbfjaaGreatDoor
open Go.RowKit
set_option linter.unusedVariables false
set_option linter.unusedSimpArgs false
/-- The place of a byte's first standing, as it is returned. -/
def IdxE (c : UInt8) (l : List UInt8) (e : Ending) : Prop :=
  (c ∉ l ∧ e = .returned (.int .i64 (-1))) ∨ ∃ a b, l = a ++ c :: b ∧ c ∉ a ∧ e = .returned (.int .i64 (a.length : Int))
theorem split_at {c : UInt8} {l : List UInt8} {i : Nat} (hi : i < l.length) (hc : l.getD i 0 = c) (hn : ∀ k, k < i → l.getD k 0 ≠ c) : l = l.take i ++ c :: l.drop (i + 1) ∧ c ∉ l.take i := by
  constructor
  · have h1 : l = l.take i ++ l.drop i := (List.take_append_drop i l).symm
    have h2 : l.drop i = l[i] :: l.drop (i + 1) := List.drop_eq_getElem_cons hi
    rw [List.getD_eq_getElem?_getD, List.getElem?_eq_getElem hi] at hc
    simp only [Option.getD_some] at hc
    rw [hc] at h2
    rw [← h2]
    exact h1
  · intro hm
    obtain ⟨k, hk, he⟩ := List.mem_iff_getElem.1 hm
    have hk' : k < i := by simp at hk; omega
    refine hn k hk' ?_
    rw [List.getElem_take] at he
    rw [List.getD_eq_getElem?_getD, List.getElem?_eq_getElem (by omega)]
    exact he
theorem not_mem_at {c : UInt8} {l : List UInt8} (hn : ∀ k, k < l.length → l.getD k 0 ≠ c) : c ∉ l := by
  intro hm
  obtain ⟨k, hk, he⟩ := List.mem_iff_getElem.1 hm
  refine hn k hk ?_
  rw [List.getD_eq_getElem?_getD, List.getElem?_eq_getElem hk]
  exact he
theorem take_one {l : List UInt8} {i : Nat} (hi : i < l.length) : (l.take (i + 1)).drop i = [l.getD i 0] := by
  rw [List.drop_take, show i + 1 - i = 1 by omega, List.drop_eq_getElem_cons hi, List.getD_eq_getElem?_getD, List.getElem?_eq_getElem hi]
  rfl
set_option maxHeartbeats 1000000 in
set_option maxRecDepth 100000 in
theorem zzIndex_any (l : List UInt8) (c : UInt8) (w : World) (hl : l.length ≤ 1000000) :
    Calls Tryz.prog 84 #[.string (str l), .string (str [c])] w fun e w' => IdxE c l e ∧ Below w.heap.size w w' := by
  have hbel := Below.refl w.heap.size w
  obtain ⟨n, hn⟩ : ∃ n, l.length = n := ⟨_, rfl⟩
  have hsz : (str l).size = n := by rw [str_size]; exact hn
  have hsc : (str [c]).size = 1 := str_size [c]
  obtain ⟨IE, hIE⟩ : ∃ IE, IdxE c l = IE := ⟨_, rfl⟩
  rw [hIE]
  rw [hn] at hl
  obtain ⟨sc, hscc⟩ : ∃ sc, str [c] = sc := ⟨_, rfl⟩
  have hcl : sc.toList = [c] := by rw [← hscc]; exact toList_str [c]
  rw [hscc] at hsc ⊢
  clear hscc
  go_enter Tryz.func84, Tryz.ntmps84
  go_wp2
  go_loopw [5] (fun v5 W => ∃ i : Nat, v5 = .int .i64 (i : Int) ∧ i ≤ n ∧ (∀ k, k < i → l.getD k 0 ≠ c) ∧ Below w.heap.size w W) (fun v5 _ => (n + 1 - intOf v5).toNat)
  case atStart => exact ⟨0, rfl, by omega, fun k hk => by omega, hbel⟩
  case round =>
    clear hbel
    obtain ⟨i, rfl, hi, hall, hbel⟩ := hrel
    by_cases h1 : i < n
    · have hd1 : decide ((i : Int) + 1 ≤ (n : Int)) = true := by simp; omega
      have hmid := str_mid (P := Tryz.prog) Tryz.underlying9 l .i64 .i64 i (i + 1) (by omega) (by omega)
      rw [take_one (by omega), Int.natCast_add, Int.natCast_one] at hmid
      have htl := toList_str [l.getD i 0]
      generalize str [l.getD i 0] = ss at hmid htl
      by_cases hc : l.getD i 0 = c
      · have hq : (ss.toList == sc.toList) = true := by rw [htl, hcl, hc]; simp
        have hsp := split_at (by omega) hc hall
        have hfin : IE (.returned (.int .i64 (i : Int))) := by
          rw [← hIE]
          exact .inr ⟨_, _, hsp.1, hsp.2, by rw [List.length_take, Nat.min_eq_left (by omega)]⟩
        clear hc hall htl hcl hsp
        go_wp2
        go_ret
        exact ⟨hfin, hbel⟩
      · have hq : (ss.toList == sc.toList) = false := by rw [htl, hcl]; simpa using hc
        have hall' : ∀ k, k < i + 1 → l.getD k 0 ≠ c := fun k hk => by
          by_cases e : k = i
          · rw [e]; exact hc
          · exact hall k (by omega)
        clear hc hall htl hcl
        go_wp2
        go_roundw
        case rel => exact ⟨i + 1, by go_num, by omega, hall', hbel⟩
        case measure => simp [intOf] <;> omega
    · have hd1 : decide ((i : Int) + 1 ≤ (n : Int)) = false := by simp; omega
      have hnm : c ∉ l := not_mem_at fun k hk => hall k (by omega)
      clear hall
      go_wp2
      go_ret
      refine ⟨?_, hbel⟩
      rw [← hIE]
      exact .inl ⟨hnm, rfl⟩
/-- What stands ahead of a byte's first standing, and behind it, as it is returned. -/
def CutE (c : UInt8) (l : List UInt8) (e : Ending) : Prop :=
  (c ∉ l ∧ e = .returned (.tuple #[.string (str l), .string (str []), .bool false])) ∨ ∃ a b, l = a ++ c :: b ∧ c ∉ a ∧ e = .returned (.tuple #[.string (str a), .string (str b), .bool true])
set_option maxHeartbeats 1000000 in
set_option maxRecDepth 100000 in
theorem zzCut_any (l : List UInt8) (c : UInt8) (w : World) (hl : l.length ≤ 1000000) :
    Calls Tryz.prog 81 #[.string (str l), .string (str [c])] w fun e w' => CutE c l e ∧ Below w.heap.size w w' := by
  have hsc : (str [c]).size = 1 := str_size [c]
  have hix := zzIndex_any l c w hl
  obtain ⟨CE, hCE⟩ : ∃ CE, CutE c l = CE := ⟨_, rfl⟩
  rw [hCE]
  generalize str [c] = sc at hsc hix ⊢
  go_enter Tryz.func81, Tryz.ntmps81
  go_wp2_with fail
  refine hix.mono ?_
  rintro e w1 ⟨(⟨hn, rfl⟩ | ⟨a, b, rfl, hn, rfl⟩), hb1⟩
  · go_wp2
    go_ret3
    refine ⟨?_, hb1⟩
    rw [← hCE]
    exact .inl ⟨hn, rfl⟩
  · have hla : a.length ≤ 1000000 := by simp at hl; omega
    have hs1 := str_take (P := Tryz.prog) Tryz.underlying9 (a ++ c :: b) .i64 a.length (by simp)
    have hs2 := str_drop (P := Tryz.prog) Tryz.underlying9 (a ++ c :: b) .i64 (a.length + 1) (by simp)
    rw [List.take_left] at hs1
    rw [show (a ++ c :: b).drop (a.length + 1) = b by simp, Int.natCast_add, Int.natCast_one] at hs2
    have hd : decide (0 ≤ (a.length : Int)) = true := by simp
    clear hix
    generalize str (a ++ c :: b) = sl at hs1 hs2 ⊢
    go_upto_region 3 with (fail)
    go_quiet (fail)
    go_wp2
    go_ret3
    refine ⟨?_, hb1.trans ⟨rfl, rfl, rfl, Nat.le_refl _, fun _ _ => rfl⟩⟩
    rw [← hCE]
    exact .inr ⟨a, b, rfl, hn, rfl⟩
/-- The parts of a text between bytes of a kind. -/
def splitF (c : UInt8) : List UInt8 → List (List UInt8)
  | [] => [[]]
  | x :: r => if x = c then [] :: splitF c r else match splitF c r with
    | p :: q => (x :: p) :: q
    | [] => [[x]]
theorem splitF_ne (c : UInt8) (l : List UInt8) : splitF c l ≠ [] := by
  cases l with
  | nil => simp [splitF]
  | cons x r =>
    unfold splitF
    split
    · simp
    · split <;> simp
theorem splitF_cons {c : UInt8} : ∀ {a b : List UInt8}, c ∉ a → splitF c (a ++ c :: b) = a :: splitF c b
  | [], b, _ => by simp [splitF]
  | x :: a, b, h => by
    have h1 : x ≠ c := fun e => h (by simp [e])
    have h2 : c ∉ a := fun e => h (by simp [e])
    simp only [List.cons_append, splitF, if_neg h1, splitF_cons h2]
theorem splitF_none {c : UInt8} : ∀ {a : List UInt8}, c ∉ a → splitF c a = [a]
  | [], _ => by simp [splitF]
  | x :: a, h => by
    have h1 : x ≠ c := fun e => h (by simp [e])
    have h2 : c ∉ a := fun e => h (by simp [e])
    simp only [splitF, if_neg h1, splitF_none h2]
theorem splitF_length (c : UInt8) : ∀ l : List UInt8, (splitF c l).length ≤ l.length + 1
  | [] => by simp [splitF]
  | x :: r => by
    have := splitF_length c r
    unfold splitF
    split
    · simp; omega
    · split
      · rename_i h; rw [h] at this; simp at this ⊢; omega
      · simp
/-- The parts so far, and what is left. -/
def SplitR (c : UInt8) (l t : List UInt8) (r : List (List UInt8)) : Prop := r ++ splitF c t = splitF c l ∧ t.length + r.length ≤ l.length
/-- An owned slice of texts is returned. -/
def OwnStrsE (base : Nat) (xs : List (List UInt8)) (e : Ending) (w : World) : Prop := ∃ v, e = .returned v ∧ Own base 9 v (strs xs) w
set_option maxHeartbeats 1000000 in
set_option maxRecDepth 100000 in
theorem zzSplit_any (l : List UInt8) (c : UInt8) (w : World) (hl : l.length ≤ 100000) :
    Calls Tryz.prog 80 #[.string (str l), .string (str [c])] w fun e w' => OwnStrsE w.heap.size (splitF c l) e w' ∧ Below w.heap.size w w' := by
  have hbel := Below.refl w.heap.size w
  have hsc : (str [c]).size = 1 := str_size [c]
  have hix := fun (t : List UInt8) (h : t.length ≤ 100000) W => zzIndex_any t c W (by omega)
  obtain ⟨CE, hCE⟩ : ∃ CE, OwnStrsE w.heap.size (splitF c l) = CE := ⟨_, rfl⟩
  rw [hCE]
  generalize str [c] = sc at hsc hix ⊢
  go_enter Tryz.func80, Tryz.ntmps80
  go_wp2_with fail
  go_loopw [0, 5] (fun v0 v5 W => ∃ (t : List UInt8) (r : List (List UInt8)), v0 = .string (str t) ∧ SplitR c l t r ∧ Own w.heap.size 9 v5 (strs r) W ∧ Below w.heap.size w W) (fun v0 _ _ => match v0 with | .string s => s.size | _ => 0)
  case atStart => exact ⟨l, [], rfl, ⟨rfl, by simp⟩, Own.nil _ _ _, hbel⟩
  case round =>
    clear hbel
    obtain ⟨t, r, rfl, ⟨hsp, hlen⟩, hown, hbel⟩ := hrel
    go_wp2_with fail
    refine (hix t (by omega) _).mono ?_
    rintro e w1 ⟨(⟨hn, rfl⟩ | ⟨a, b, rfl, hn, rfl⟩), hb1⟩
    · have hb2 := hbel.trans (hb1.mono hbel.size)
      have hown1 := hown.below hb1 (Nat.le_refl _)
      rw [splitF_none hn] at hsp
      have hroom : (strs r).length + 1 ≤ 8796093022208 := by rw [show (strs r).length = r.length by simp [strs]]; omega
      clear hown hbel hb1 hix
      go_wp2_with (at_builtin; refine wpList_app rfl (.tmp 42) (.tmp 44) 23 23 rfl _ _ rfl rfl (app_str1 _ _ hown1 hroom hb2.size) ?_; intro v' w2 ho hg; replace hb2 := (hown1.alloc _).belowGrown (hb2.alloc hb2.size _) hg (Nat.le_refl _) (by have := hb2.size; simp; omega); replace ho := ho.strEnd; rw [hsp] at ho; clear hown1 hg)
      go_ret
      refine ⟨?_, hb2⟩
      rw [← hCE]
      exact ⟨_, rfl, ho⟩
    · have hb2 := hbel.trans (hb1.mono hbel.size)
      have hown1 := hown.below hb1 (Nat.le_refl _)
      rw [splitF_cons hn] at hsp
      have hroom : (strs r).length + 1 ≤ 8796093022208 := by rw [show (strs r).length = r.length by simp [strs]]; omega
      have hla : a.length ≤ 100000 := by simp at hlen; omega
      have hs1 := str_take (P := Tryz.prog) Tryz.underlying9 (a ++ c :: b) .i64 a.length (by simp)
      have hs2 := str_drop (P := Tryz.prog) Tryz.underlying9 (a ++ c :: b) .i64 (a.length + 1) (by simp)
      rw [List.take_left] at hs1
      rw [show (a ++ c :: b).drop (a.length + 1) = b by simp, Int.natCast_add, Int.natCast_one] at hs2
      have hd : decide ((a.length : Int) < 0) = false := by simp
      have hrel2 : SplitR c l b (r ++ [a]) := ⟨by rw [List.append_assoc]; exact hsp, by simp at hlen ⊢; omega⟩
      have hms : (str b).size < (str (a ++ c :: b)).size := by rw [str_size, str_size]; simp; omega
      clear hown hbel hb1 hix hsp hlen
      generalize str (a ++ c :: b) = sl at hs1 hs2 ⊢
      go_wp2_with (at_builtin; refine wpList_app rfl (.tmp 46) (.tmp 50) 23 23 rfl _ _ rfl rfl (app_str1 _ _ hown1 hroom hb2.size) ?_; intro v' w2 ho hg; replace hb2 := (hown1.alloc _).belowGrown (hb2.alloc hb2.size _) hg (Nat.le_refl _) (by have := hb2.size; simp; omega); replace ho := ho.strEnd; clear hown1 hg)
      go_roundw
      case rel => exact ⟨b, _, rfl, hrel2, ho, hb2⟩
      case measure => exact hms
set_option maxHeartbeats 1000000 in
set_option maxRecDepth 100000 in
theorem zzReplaceAll_any (l : List UInt8) (w : World) (hl : l.length ≤ 100000) :
    Calls Tryz.prog 63 #[.string (str l), .string (str [32]), .string (str [])] w fun e w' => e = .returned (.string (str (l.filter (· ≠ 32)))) ∧ Below w.heap.size w w' := by
  have hbel := Below.refl w.heap.size w
  have hsc : (str [32]).size = 1 := str_size [32]
  have hse : (str []).size = 0 := str_size []
  have hbe : bytesVals (str []) = [] := rfl
  have hix := fun (t : List UInt8) (h : t.length ≤ 100000) W => zzIndex_any t 32 W (by omega)
  obtain ⟨FL, hFL⟩ : ∃ FL, l.filter (· ≠ 32) = FL := ⟨_, rfl⟩
  rw [hFL]
  generalize str [32] = sc at hsc hix ⊢
  generalize str [] = se at hse hbe ⊢
  go_enter Tryz.func63, Tryz.ntmps63
  go_wp2_with fail
  go_loopw [0, 7] (fun v0 v7 W => ∃ (t r : List UInt8), v0 = .string (str t) ∧ r ++ t.filter (· ≠ 32) = FL ∧ t.length + r.length ≤ 100000 ∧ Own w.heap.size 5 v7 (bs r) W ∧ Below w.heap.size w W) (fun v0 _ _ => match v0 with | .string s => s.size | _ => 0)
  case atStart => exact ⟨l, [], rfl, hFL, by simpa using hl, Own.nil _ _ _, hbel⟩
  case round =>
    clear hbel
    obtain ⟨t, r, rfl, hfl, hlen, hown, hbel⟩ := hrel
    go_wp2_with fail
    refine (hix t (by omega) _).mono ?_
    rintro e w1 ⟨(⟨hn, rfl⟩ | ⟨a, b, rfl, hn, rfl⟩), hb1⟩
    · have hb2 := hbel.trans (hb1.mono hbel.size)
      have hown1 := hown.below hb1 (Nat.le_refl _)
      have hft : t.filter (· ≠ 32) = t := List.filter_eq_self.2 fun x hx => by simp; rintro rfl; exact hn hx
      rw [hft] at hfl
      have hroom : (bs r).length + (str t).size ≤ 140737488355328 := by rw [str_size]; simp [bs]; omega
      have hbt := bytesVals_str t
      clear hown hbel hb1 hix hft
      go_wp2_with (at_builtin; refine wpList_app rfl (.tmp 50) (.tmp 51) 22 9 rfl _ _ rfl rfl (app_text _ _ hown1 hroom hb2.size) ?_; intro v' w2 ho hg; replace hb2 := hown1.belowGrown hb2 hg (Nat.le_refl _) hb2.size; rw [hbt, show bs r ++ bs t = bs (r ++ t) by simp [bs], hfl] at ho; have htx := ho.sl.text (P := Tryz.prog) (src := 22) (dst := 9) Tryz.underlying22 Tryz.underlying5 Tryz.underlying9 _ rfl; clear hown1 hg)
      go_ret
      exact ⟨rfl, hb2⟩
    · have hb2 := hbel.trans (hb1.mono hbel.size)
      have hown1 := hown.below hb1 (Nat.le_refl _)
      have hft : a.filter (· ≠ 32) = a := List.filter_eq_self.2 fun x hx => by simp; rintro rfl; exact hn hx
      have hfl2 : (r ++ a) ++ b.filter (· ≠ 32) = FL := by rw [← hfl, List.filter_append, hft, List.filter_cons_of_neg (by simp), List.append_assoc]
      have hla : a.length + b.length + 1 + r.length ≤ 100000 := by simp at hlen; omega
      have hroom : (bs r).length + (str a).size ≤ 140737488355328 := by rw [str_size]; simp [bs]; omega
      have hroom2 : (bs (r ++ a)).length + se.size ≤ 140737488355328 := by rw [hse]; simp [bs]; omega
      have hs1 := str_take (P := Tryz.prog) Tryz.underlying9 (a ++ 32 :: b) .i64 a.length (by simp)
      have hs2 := str_drop (P := Tryz.prog) Tryz.underlying9 (a ++ 32 :: b) .i64 (a.length + 1) (by simp)
      rw [List.take_left] at hs1
      rw [show (a ++ 32 :: b).drop (a.length + 1) = b by simp, Int.natCast_add, Int.natCast_one] at hs2
      have hd : decide ((a.length : Int) < 0) = false := by simp
      have hms : (str b).size < (str (a ++ 32 :: b)).size := by rw [str_size, str_size]; simp; omega
      have hbt := bytesVals_str a
      have hal : a.length ≤ 100000 := by omega
      clear hown hbel hb1 hix hft hfl hlen
      generalize str (a ++ 32 :: b) = sl at hs1 hs2 ⊢
      go_wp2_with (first | (at_builtin; refine wpList_app rfl (.tmp 54) (.tmp 57) 22 9 rfl _ _ rfl rfl (app_text _ _ hown1 hroom hb2.size) ?_; intro v' w2 ho hg; replace hb2 := hown1.belowGrown hb2 hg (Nat.le_refl _) hb2.size; rw [hbt, show bs r ++ bs a = bs (r ++ a) by simp [bs]] at ho; clear hown1 hg) | (at_builtin; refine wpList_app rfl (.tmp 58) (.tmp 59) 22 9 rfl _ _ rfl rfl (app_text _ _ ho hroom2 hb2.size) ?_; intro v'' w3 ho2 hg2; replace hb2 := ho.belowGrown hb2 hg2 (Nat.le_refl _) hb2.size; rw [hbe, List.append_nil] at ho2; clear ho hg2))
      go_roundw
      case rel => exact ⟨b, r ++ a, rfl, hfl2, by simp; omega, ho2, hb2⟩
      case measure => exact hms
end Go.Proofs.YtcebfkhfnjbfjaaGreatDoor
