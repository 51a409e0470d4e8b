/- Contracts of shape: dBlank, DStrip, lProper's closure, dCut, DSplit, DLower. -/
import Derived.Test.YtcebfkhfnjbfjaaGreatDoorC14
import Derived.Test.YtcebfkhfnjbfjaaGreatDoorC17
import Derived.BigQuiet
import Derived.OwnWalk
namespace Go.Proofs.YtcebfkhfnjbfjaaGreatDoor
open Go.RowKit
set_option linter.unusedVariables false
set_option linter.unusedSimpArgs false
set_option maxHeartbeats 1000000 in
set_option maxRecDepth 100000 in
theorem dBlank_any (x : Int) (w : World) :
    Calls Tryz.prog 37 #[.int .u8 x] w fun e w' => BoolE e ∧ Below w.heap.size w w' := by
  have hbel := Below.refl w.heap.size w
  by_cases c1 : x = 32
  · subst c1
    go_enter Tryz.func37, Tryz.ntmps37
    go_wp2
    go_ret
    exact ⟨⟨_, rfl⟩, hbel⟩
  have d1 : (x == 32) = false := by simpa using c1
  by_cases c2 : x = 9
  · subst c2
    go_enter Tryz.func37, Tryz.ntmps37
    go_wp2
    go_ret
    exact ⟨⟨_, rfl⟩, hbel⟩
  have d2 : (x == 9) = false := by simpa using c2
  by_cases c3 : x = 13
  · subst c3
    go_enter Tryz.func37, Tryz.ntmps37
    go_wp2
    go_ret
    exact ⟨⟨_, rfl⟩, hbel⟩
  have d3 : (x == 13) = false := by simpa using c3
  go_enter Tryz.func37, Tryz.ntmps37
  go_wp2
  go_ret
  exact ⟨⟨_, rfl⟩, hbel⟩
set_option maxHeartbeats 1000000 in
set_option maxRecDepth 100000 in
theorem known_any (s : ByteArray) (w : World) :
    Calls Tryz.prog 21 #[.string s] w fun e w' => BoolE e ∧ Below w.heap.size w w' := by
  have hbel := Below.refl w.heap.size w
  go_enter Tryz.func21, Tryz.ntmps21
  go_wp2
  all_goals (go_ret; exact ⟨⟨_, rfl⟩, hbel⟩)
set_option maxHeartbeats 1000000 in
set_option maxRecDepth 100000 in
theorem DStrip_any (l : List UInt8) (w : World) (hl : l.length ≤ 1000000) :
    Calls Tryz.prog 18 #[.string (str l)] w fun e w' => (∃ t, e = .returned (.string t)) ∧ Below w.heap.size w w' := by
  have hbel := Below.refl w.heap.size w
  obtain ⟨n, hn⟩ : ∃ n, l.length = n := ⟨_, rfl⟩
  have hsz : (str l).size = n := by rw [str_size]; exact hn
  rw [hn] at hl
  go_enter Tryz.func18, Tryz.ntmps18
  go_wp2
  go_loopw [3, 4] (fun v3 v4 W => ∃ (i : Nat) (r : List UInt8), v4 = .int .i64 (i : Int) ∧ i ≤ n ∧ r.length ≤ i ∧ Own w.heap.size 5 v3 (bs r) W ∧ Below w.heap.size w W) (fun _ v4 _ => (n - intOf v4).toNat)
  case atStart => exact ⟨0, [], rfl, by omega, by simp, Own.nil _ _ _, hbel⟩
  case round =>
    clear hbel
    obtain ⟨i, r, rfl, hi, hrl, hown, hbel⟩ := hrel
    by_cases h1 : i < n
    · have hd1 : decide ((i : Int) < (n : Int)) = true := by simp; omega
      have hix := str_at (P := Tryz.prog) Tryz.underlying9 l .i64 i (by omega)
      go_wp2_with fail
      refine (dBlank_any _ _).mono ?_
      rintro e w1 ⟨⟨b, rfl⟩, hb1⟩
      have hb2 := hbel.trans (hb1.mono hbel.size)
      have hown1 := hown.below hb1 (Nat.le_refl _)
      cases b
      · go_wp2_with (at_builtin; refine wpList_app rfl (.tmp 16) (.tmp 20) 22 22 rfl _ _ rfl rfl (app_byte _ _ hown1 (by simp; omega) hb2.size) ?_; intro v' w2 ho hg)
        replace hb2 := (hown1.alloc _).belowGrown (hb2.alloc hb2.size _) hg (Nat.le_refl _) (by have := hb2.size; simp; omega)
        replace ho := ho.byteEnd rfl
        clear hown hown1 hb1 hbel hg
        go_wp2
        go_roundw
        case rel => exact ⟨i + 1, _, by go_num, by omega, by simp; omega, ho, hb2⟩
        case measure => simp [intOf] <;> omega
      · go_wp2
        go_roundw
        case rel => exact ⟨i + 1, r, by go_num, by omega, by omega, hown1, hb2⟩
        case measure => simp [intOf] <;> omega
    · have hd1 : decide ((i : Int) < (n : Int)) = false := by simp; omega
      have htx := hown.sl.text (P := Tryz.prog) (src := 22) (dst := 9) Tryz.underlying22 Tryz.underlying5 Tryz.underlying9 _ rfl
      go_wp2
      go_ret
      exact ⟨⟨_, rfl⟩, hbel⟩
set_option maxHeartbeats 1000000 in
set_option maxRecDepth 100000 in
theorem dCut_any (l : List UInt8) (c : Int) (w : World) (hl : l.length ≤ 1000000) :
    Calls Tryz.prog 38 #[.string (str l), .int .u8 c] w fun e w' => (∃ a b is, e = .returned (.tuple #[.string (str a), .string (str b), .bool is]) ∧ (is = true → b.length < l.length)) ∧ Below w.heap.size w w' := by
  have hbel := Below.refl w.heap.size w
  obtain ⟨n, hn⟩ : ∃ n, l.length = n := ⟨_, rfl⟩
  have hsz : (str l).size = n := by rw [str_size]; exact hn
  rw [hn] at hl
  go_enter Tryz.func38, Tryz.ntmps38
  go_wp2
  go_loopw [7] (fun v7 W => ∃ i : Nat, v7 = .int .i64 (i : Int) ∧ i ≤ n ∧ Below w.heap.size w W) (fun v7 _ => (n - intOf v7).toNat)
  case atStart => exact ⟨0, rfl, by omega, hbel⟩
  case round =>
    clear hbel
    obtain ⟨i, rfl, hi, hbel⟩ := hrel
    by_cases h1 : i < n
    · have hd1 : decide ((i : Int) < (n : Int)) = true := by simp; omega
      have hix := str_at (P := Tryz.prog) Tryz.underlying9 l .i64 i (by omega)
      generalize ((l.getD i 0).toNat : Int) = x at hix
      by_cases hc : x = c
      · subst hc
        have hs1 := str_take (P := Tryz.prog) Tryz.underlying9 l .i64 i (by omega)
        have hs2 := str_drop (P := Tryz.prog) Tryz.underlying9 l .i64 (i + 1) (by omega)
        rw [Int.natCast_add, Int.natCast_one] at hs2
        go_upto_region 5 with (fail)
        go_quiet (fail)
        go_wp2
        go_ret3
        exact ⟨⟨_, _, _, rfl, fun _ => by simp; omega⟩, hbel.trans ⟨rfl, rfl, rfl, Nat.le_refl _, fun _ _ => rfl⟩⟩
      · have hd2 : (x == c) = false := by simpa using hc
        go_wp2
        go_roundw
        case rel => exact ⟨i + 1, by go_num, by omega, hbel⟩
        case measure => simp [intOf] <;> omega
    · have hd1 : decide ((i : Int) < (n : Int)) = false := by simp; omega
      go_wp2
      go_ret3
      exact ⟨⟨l, [], false, rfl, by simp⟩, hbel⟩
set_option maxHeartbeats 1000000 in
set_option maxRecDepth 100000 in
theorem DSplit_any (l : List UInt8) (c : Int) (w : World) (hl : l.length ≤ 1000000) :
    Calls Tryz.prog 19 #[.string (str l), .int .u8 c] w fun e w' => (∃ (a : Option Addr) (n cap : Nat), e = .returned (.slice a n cap) ∧ n ≤ 1000001) ∧ Below w.heap.size w w' := by
  have hbel := Below.refl w.heap.size w
  obtain ⟨n, hn⟩ : ∃ n, l.length = n := ⟨_, rfl⟩
  rw [hn] at hl
  go_enter Tryz.func19, Tryz.ntmps19
  go_wp2
  go_loopw [0, 5] (fun v0 v5 W => ∃ (t : List UInt8) (r : List (List UInt8)), v0 = .string (str t) ∧ t.length + r.length ≤ n ∧ Own w.heap.size 9 v5 (strs r) W ∧ Below w.heap.size w W) (fun v0 _ _ => match v0 with | .string s => s.size | _ => 0)
  case atStart => exact ⟨l, [], rfl, by simp; omega, Own.nil _ _ _, hbel⟩
  case round =>
    clear hbel
    obtain ⟨t, r, rfl, htr, hown, hbel⟩ := hrel
    go_wp2_with fail
    refine (dCut_any t c _ (by omega)).mono ?_
    rintro e w1 ⟨⟨a, b, is, rfl, hb⟩, hb1⟩
    have hb2 := hbel.trans (hb1.mono hbel.size)
    have hown1 := hown.below hb1 (Nat.le_refl _)
    cases is
    · go_wp2_with (at_builtin; refine wpList_app rfl (.tmp 16) (.tmp 18) 23 23 rfl _ _ rfl rfl (app_str1 _ _ hown1 (by simp; omega) hb2.size) ?_; intro v' w2 ho hg; replace hb2 := (hown1.alloc _).belowGrown (hb2.alloc hb2.size _) hg (Nat.le_refl _) (by have := hb2.size; simp; omega); replace ho := ho.strEnd; clear hown hown1 hb1 hbel hg; obtain ⟨a', cap, rfl⟩ := ho.len)
      go_ret
      exact ⟨⟨_, _, _, rfl, by simp; omega⟩, hb2⟩
    · have hlt := hb rfl
      go_wp2_with (at_builtin; refine wpList_app rfl (.tmp 16) (.tmp 18) 23 23 rfl _ _ rfl rfl (app_str1 _ _ hown1 (by simp; omega) hb2.size) ?_; intro v' w2 ho hg; replace hb2 := (hown1.alloc _).belowGrown (hb2.alloc hb2.size _) hg (Nat.le_refl _) (by have := hb2.size; simp; omega); replace ho := ho.strEnd; clear hown hown1 hb1 hbel hg)
      go_roundw
      case rel => exact ⟨b, _, rfl, by simp; omega, ho, hb2⟩
      case measure => simp [str_size]; omega
set_option maxHeartbeats 1000000 in
set_option maxRecDepth 100000 in
theorem DLower_any (l : List UInt8) (w : World) (hl : l.length ≤ 1000000) :
    Calls Tryz.prog 20 #[.string (str l)] w fun e w' => (∃ t, e = .returned (.string t)) ∧ Below w.heap.size w w' := by
  obtain ⟨n, hn⟩ : ∃ n, l.length = n := ⟨_, rfl⟩
  have hsz : (str l).size = n := by rw [str_size]; exact hn
  have kb := fun W => Lib.run_convert_string_bytes (P := Tryz.prog) W 9 22 5 (str l) Tryz.underlying9 Tryz.underlying22 Tryz.underlying5
  have hown := Own.ofBytes w (str l) w.heap.size (Nat.le_refl _) (by simp only [maxLen]; omega)
  rw [bytesVals_str] at hown
  have hbel : Below w.heap.size w (Lib.bytesWorld w 5 (str l)) := below_bytes (Below.refl _ _) (Nat.le_refl _) _
  rw [hn] at hl
  rw [hsz] at hown kb
  go_enter Tryz.func20, Tryz.ntmps20
  go_wp2
  generalize grownCap w n 0 5 = cap at hown ⊢
  generalize Lib.bytesWorld w 5 (str l) = w1 at hown hbel ⊢
  clear kb
  go_loopw [4] (fun v4 W => ∃ (i : Nat) (r : List UInt8), v4 = .int .i64 (i : Int) ∧ i ≤ n ∧ r.length = n ∧ Own w.heap.size 5 (.slice (some ⟨w.heap.size, 0, none⟩) n cap) (bs r) W ∧ Below w.heap.size w W) (fun v4 _ => (n - intOf v4).toNat)
  case atStart => exact ⟨0, l, rfl, by omega, hn, hown, hbel⟩
  case round =>
    clear hbel hown
    obtain ⟨i, r, rfl, hi, hr, hown, hbel⟩ := hrel
    by_cases h1 : i < n
    · have hd1 : decide ((i : Int) < (n : Int)) = true := by simp; omega
      obtain ⟨x, hx⟩ : ∃ x, r[i]? = some x := ⟨_, List.getElem?_eq_getElem (by omega)⟩
      obtain ⟨g, cap', e, hc, hf⟩ := hown.get i (.int .u8 (x.toNat : Int)) (by simp [bs, hx])
      simp only [Value.slice.injEq, Option.some.injEq, Addr.mk.injEq] at e
      obtain ⟨⟨rfl, -⟩, -, -⟩ := e
      have hxl := x.toNat_lt
      by_cases c1 : 65 ≤ x.toNat
      · have d1 : decide (65 ≤ (x.toNat : Int)) = true := by simp; omega
        by_cases c2 : x.toNat ≤ 90
        · have d2 : decide ((x.toNat : Int) ≤ 90) = true := by simp; omega
          have hset := hown.set i (.int .u8 ((x.toNat : Int) + 32)) rfl
          rw [show (x.toNat : Int) + 32 = ((UInt8.ofNat (x.toNat + 32)).toNat : Int) by simp; omega, show (bs r).set i (.int .u8 ((UInt8.ofNat (x.toNat + 32)).toNat : Int)) = bs (r.set i (UInt8.ofNat (x.toNat + 32))) by simp [bs]] at hset
          go_wp2
          go_roundw
          case rel =>
            refine ⟨i + 1, r.set i (UInt8.ofNat (x.toNat + 32)), by go_num, by omega, by simpa using hr, ?_, hbel.setCell (Nat.le_refl _) _⟩
            rw [show (x.toNat : Int) + 32 = ((UInt8.ofNat (x.toNat + 32)).toNat : Int) by simp; omega]
            exact hset
          case measure => simp [intOf] <;> omega
        · have d2 : decide ((x.toNat : Int) ≤ 90) = false := by simp; omega
          go_wp2
          go_roundw
          case rel => exact ⟨i + 1, r, by go_num, by omega, hr, hown, hbel⟩
          case measure => simp [intOf] <;> omega
      · have d1 : decide (65 ≤ (x.toNat : Int)) = false := by simp; omega
        go_wp2
        go_roundw
        case rel => exact ⟨i + 1, r, by go_num, by omega, hr, hown, hbel⟩
        case measure => simp [intOf] <;> omega
    · have hd1 : decide ((i : Int) < (n : Int)) = false := by simp; omega
      have htx := hown.sl.text (P := Tryz.prog) (src := 22) (dst := 9) Tryz.underlying22 Tryz.underlying5 Tryz.underlying9 _ rfl
      go_wp2
      go_ret
      exact ⟨⟨_, rfl⟩, hbel⟩
end Go.Proofs.YtcebfkhfnjbfjaaGreatDoor
