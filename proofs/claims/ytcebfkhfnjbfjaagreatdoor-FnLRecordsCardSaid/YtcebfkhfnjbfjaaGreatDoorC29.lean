/- Exact contract of dText64 and DText64. -/
import Derived.Test.YtcebfkhfnjbfjaaGreatDoorC18
import Derived.Laws.BitsLemmas
namespace Go.Proofs.YtcebfkhfnjbfjaaGreatDoor
open Go.RowKit
set_option linter.unusedVariables false
set_option linter.unusedSimpArgs false
/-- The digits of base64. -/
def digT : List UInt8 := [65, 66, 67, 68, 69, 70, 71, 72, 73, 74, 75, 76, 77, 78, 79, 80, 81, 82, 83, 84, 85, 86, 87, 88, 89, 90, 97, 98, 99, 100, 101, 102, 103, 104, 105, 106, 107, 108, 109, 110, 111, 112, 113, 114, 115, 116, 117, 118, 119, 120, 121, 122, 48, 49, 50, 51, 52, 53, 54, 55, 56, 57, 43, 47]
/-- The number of the bytes at 3 g. -/
def num3 (l : List UInt8) (i : Nat) : Nat := (l.getD i 0).toNat * 65536 + (l.getD (i + 1) 0).toNat * 256 + (l.getD (i + 2) 0).toNat
/-- The digit k of that number; behind the text's end an equals sign. -/
def dig64 (l : List UInt8) (i k : Nat) : UInt8 := if l.length + 1 < i + k + 1 then 61 else digT.getD (num3 l i / 2 ^ (18 - 6 * k) % 64) 0
def four (l : List UInt8) (i : Nat) : List UInt8 := [dig64 l i 0, dig64 l i 1, dig64 l i 2, dig64 l i 3]
/-- The first g groups of a text in base64. -/
def text64 (l : List UInt8) : Nat → List UInt8
  | 0 => []
  | g + 1 => text64 l g ++ four l (3 * g)
def text64F (l : List UInt8) : List UInt8 := text64 l ((l.length + 2) / 3)
theorem text64_length (l : List UInt8) : ∀ g, (text64 l g).length = 4 * g
  | 0 => rfl
  | g + 1 => by rw [text64, List.length_append, text64_length l g]; simp [four]; omega
/-- What stands in the first k places of a number, of m bytes read. -/
def acc3 (l : List UInt8) (i : Nat) : Nat → Nat
  | 0 => 0
  | k + 1 => acc3 l i k * 256 + (l.getD (i + k) 0).toNat
theorem acc3_lt (l : List UInt8) (i : Nat) : acc3 l i 0 < 1 ∧ acc3 l i 1 < 256 ∧ acc3 l i 2 < 65536 ∧ acc3 l i 3 < 16777216 := by
  have h0 := (l.getD (i + 0) 0).toNat_lt
  have h1 := (l.getD (i + 1) 0).toNat_lt
  have h2 := (l.getD (i + 2) 0).toNat_lt
  simp only [acc3]
  omega
theorem acc3_num (l : List UInt8) (i : Nat) : acc3 l i 3 = num3 l i := by simp only [acc3, num3, Nat.add_zero]; omega
theorem wraps_i64 (n : Int) (h₀ : 0 ≤ n) (h₁ : n < 2 ^ 63) : IntKind.i64.wrap n = n := IntWalk.i64_in _ (by omega)
theorem and63 (a : Nat) (h : a < 9223372036854775808) : Go.bits .and .i64 (a : Int) 63 = ((a % 64 : Nat) : Int) := by
  have := bits_mask .i64 63 (by decide) wraps_i64 6 (by decide) (a : Int) (by omega) (by omega)
  have e : ((2 : Int) ^ 6 - 1) = 63 := by decide
  have e2 : ((2 : Int) ^ 6) = 64 := by decide
  rw [e, e2] at this
  rw [this]
  omega
theorem digT_at (q : Nat) (h : q < 64) : ∀ W, Sem.run Tryz.prog (Instr.index 9 (.string ⟨#[65, 66, 67, 68, 69, 70, 71, 72, 73, 74, 75, 76, 77, 78, 79, 80, 81, 82, 83, 84, 85, 86, 87, 88, 89, 90, 97, 98, 99, 100, 101, 102, 103, 104, 105, 106, 107, 108, 109, 110, 111, 112, 113, 114, 115, 116, 117, 118, 119, 120, 121, 122, 48, 49, 50, 51, 52, 53, 54, 55, 56, 57, 43, 47]⟩) (.int .i64 (q : Int))) W = .ok (.int .u8 (((digT.getD q 0).toNat : Nat) : Int)) W :=
  str_at (P := Tryz.prog) Tryz.underlying9 digT .i64 q h
/-- How many bytes are there, of m asked for. -/
def some3 (n i m : Nat) : Nat := min m (n - i)
/-- The slice holds the first g groups and k digits. -/
def Own64 (base : Nat) (v : Value) (l : List UInt8) (g k : Nat) (W : World) : Prop := Own base 5 v (bs (text64 l g ++ (four l (3 * g)).take k)) W
set_option maxHeartbeats 2000000 in
set_option maxRecDepth 100000 in
theorem dText64_any (l : List UInt8) (w : World) (hl : l.length ≤ 100000) :
    Calls Tryz.prog 31 #[.string (str l)] w fun e w' => e = .returned (.string (str (text64F l))) ∧ Below w.heap.size w w' := by
  have hbel := Below.refl w.heap.size w
  obtain ⟨n, hn⟩ : ∃ n, l.length = n := ⟨_, rfl⟩
  have hsz : (str l).size = n := by rw [str_size]; exact hn
  obtain ⟨FIN, hF⟩ : ∃ FIN, text64F l = FIN := ⟨_, rfl⟩
  rw [hF]
  rw [text64F, hn] at hF
  rw [hn] at hl
  go_enter Tryz.func31, Tryz.ntmps31
  go_wp2
  go_loopw [3, 4] (fun v3 v4 W => ∃ g : Nat, v4 = .int .i64 (3 * (g : Int)) ∧ 3 * g ≤ n + 2 ∧ Own w.heap.size 5 v3 (bs (text64 l g)) W ∧ Below w.heap.size w W) (fun _ v4 _ => (n + 3 - intOf v4).toNat)
  case atStart => exact ⟨0, rfl, by omega, Own.nil _ _ _, hbel⟩
  case round =>
    clear hbel
    obtain ⟨g, rfl, hg3, hown, hbel⟩ := hrel
    by_cases h1 : 3 * g < n
    · have hd1 : decide (3 * (g : Int) < (n : Int)) = true := by simp; omega
      go_wp2
      go_loopw [5, 6, 7] (fun v5 v6 v7 W => ∃ k : Nat, v7 = .int .i64 (k : Int) ∧ k ≤ 3 ∧ v5 = .int .i64 (acc3 l (3 * g) k : Int) ∧ v6 = .int .i64 (some3 n (3 * g) k : Int) ∧ Own w.heap.size 5 u3 (bs (text64 l g)) W ∧ Below w.heap.size w W) (fun _ _ v7 _ => (4 - intOf v7).toNat)
      case atStart => exact ⟨0, rfl, by omega, rfl, by simp [some3], hown, hbel⟩
      case round =>
        clear hown hbel
        obtain ⟨k, rfl, hk, rfl, rfl, hown, hbel⟩ := hrel
        obtain ⟨a0, a1, a2, a3⟩ := acc3_lt l (3 * g)
        by_cases h2 : k < 3
        · have hd2 : decide ((k : Int) < 3) = true := by simp; omega
          have hal : acc3 l (3 * g) k < 65536 := by
            rcases k with _ | _ | _ | k
            · omega
            · exact Nat.lt_of_lt_of_le a1 (by omega)
            · exact a2
            · omega
          have hac : acc3 l (3 * g) (k + 1) = acc3 l (3 * g) k * 256 + (l.getD (3 * g + k) 0).toNat := rfl
          generalize acc3 l (3 * g) k = a at hal hac
          clear a0 a1 a2 a3
          by_cases h3 : 3 * g + k < n
          · have hd3 : decide (3 * (g : Int) + (k : Int) < (n : Int)) = true := by simp; omega
            have hix := str_at (P := Tryz.prog) Tryz.underlying9 l .i64 (3 * g + k) (by omega)
            have hcl := (l.getD (3 * g + k) 0).toNat_lt
            generalize (l.getD (3 * g + k) 0).toNat = c at hix hac hcl
            rw [show ((3 * g + k : Nat) : Int) = 3 * (g : Int) + k by omega] at hix
            have hs3 : some3 n (3 * g) (k + 1) = some3 n (3 * g) k + 1 := by simp only [some3]; omega
            have hs4 : some3 n (3 * g) k ≤ 3 := by simp only [some3]; omega
            generalize some3 n (3 * g) k = s at hs3 hs4
            go_wp2
            go_roundw
            case rel => exact ⟨k + 1, by go_num, by omega, by rw [hac]; go_num, by rw [hs3]; go_num, hown, hbel⟩
            case measure => simp [intOf] <;> omega
          · have hd3 : decide (3 * (g : Int) + (k : Int) < (n : Int)) = false := by simp; omega
            have hs3 : some3 n (3 * g) (k + 1) = some3 n (3 * g) k := by simp only [some3]; omega
            have hc0 : (l.getD (3 * g + k) 0).toNat = 0 := by rw [List.getD_eq_getElem?_getD, List.getElem?_eq_none (by omega)]; rfl
            rw [hc0] at hac
            generalize some3 n (3 * g) k = s at hs3
            go_wp2
            go_roundw
            case rel => exact ⟨k + 1, by go_num, by omega, by rw [hac]; go_num, by rw [hs3], hown, hbel⟩
            case measure => simp [intOf] <;> omega
        · have hd2 : decide ((k : Int) < 3) = false := by simp; omega
          obtain rfl : k = 3 := by omega
          have hs3 : some3 n (3 * g) 3 = min 3 (n - 3 * g) := rfl
          rw [acc3_num] at a3 ⊢
          obtain ⟨a, ha⟩ : ∃ a, num3 l (3 * g) = a := ⟨_, rfl⟩
          obtain ⟨m, hm⟩ : ∃ m, some3 n (3 * g) 3 = m := ⟨_, rfl⟩
          rw [ha] at a3 ⊢
          rw [hm] at hs3 ⊢
          have hs4 : ∀ j, j < 4 → (m < j ↔ n < 3 * g + j) := fun j hj => by omega
          have hs5 : m ≤ 3 := by omega
          rw [show (((3 : Nat) : Int)) = 3 from rfl]
          clear a0 a1 a2 hs3 hm
          go_wp2
          go_loopw [3, 8] (fun v3 v8 W => ∃ k : Nat, v8 = .int .i64 (k : Int) ∧ k ≤ 4 ∧ Own64 w.heap.size v3 l g k W ∧ Below w.heap.size w W) (fun _ v8 _ => (5 - intOf v8).toNat)
          case atStart => exact ⟨0, rfl, by omega, by unfold Own64; simpa using hown, hbel⟩
          case round =>
            clear hown hbel
            obtain ⟨k, rfl, hk4, hown, hbel⟩ := hrel
            unfold Own64 at hown
            by_cases h4 : k < 4
            · have hd4 : decide ((k : Int) < 4) = true := by simp; omega
              have htk : (four l (3 * g)).take (k + 1) = (four l (3 * g)).take k ++ [dig64 l (3 * g) k] := by
                rcases k with _ | _ | _ | _ | k <;> first | rfl | omega
              have hlen : (bs (text64 l g ++ (four l (3 * g)).take k)).length ≤ 1000000 := by
                have := text64_length l g
                simp [four]; omega
              by_cases h5 : m < k
              · have hd5 : decide ((m : Int) < (k : Int)) = true := by simp; omega
                have hdg : dig64 l (3 * g) k = 61 := by unfold dig64; rw [if_pos (by have := (hs4 k h4).1 h5; omega)]
                have htl : text64 l g ++ (four l (3 * g)).take (k + 1) = text64 l g ++ (four l (3 * g)).take k ++ [61] := by rw [htk, hdg, List.append_assoc]
                generalize text64 l g ++ (four l (3 * g)).take k = tt at hown hlen htl
                have hroom : (bs tt).length + 1 ≤ 140737488355328 := Nat.le_trans (Nat.succ_le_succ hlen) (by decide)
                clear hs4
                go_wp2_with (at_builtin; refine wpList_app rfl (.tmp 44) (.tmp 45) 22 22 rfl _ _ rfl rfl (app_byte _ _ hown hroom hbel.size) ?_; intro v' w2 ho hg; replace hbel := (hown.alloc _).belowGrown (hbel.alloc hbel.size _) hg (Nat.le_refl _) (by have := hbel.size; simp; omega); replace ho := ho.byteEnd (c := 61) rfl; rw [← htl] at ho; replace ho : Own64 w.heap.size v' l g (k + 1) w2 := ho; clear hown hg htl)
                go_roundw
                case rel => exact ⟨k + 1, by go_num, by omega, ho, hbel⟩
                case measure => simp [intOf] <;> omega
              · have hd5 : decide ((m : Int) < (k : Int)) = false := by simp; omega
                have hdg : dig64 l (3 * g) k = digT.getD (a / 2 ^ (18 - 6 * k) % 64) 0 := by unfold dig64; rw [if_neg (by intro hh; exact h5 ((hs4 k h4).2 (by omega))), ha]
                have htl : text64 l g ++ (four l (3 * g)).take (k + 1) = text64 l g ++ (four l (3 * g)).take k ++ [digT.getD (a / 2 ^ (18 - 6 * k) % 64) 0] := by rw [htk, hdg, List.append_assoc]
                have hsh : ((a : Int) / 2 ^ (18 - 6 * k)) = ((a / 2 ^ (18 - 6 * k) : Nat) : Int) := by simp
                have hzl : a / 2 ^ (18 - 6 * k) ≤ a := Nat.div_le_self _ _
                generalize a / 2 ^ (18 - 6 * k) = z at hzl hsh htl
                have hzl2 : z < 9223372036854775808 := by omega
                have hm63 := and63 z hzl2
                have hdt := digT_at (z % 64) (Nat.mod_lt _ (by decide))
                rw [← hsh] at hm63
                clear hzl hzl2
                generalize z % 64 = q at hm63 hdt htl
                generalize text64 l g ++ (four l (3 * g)).take k = tt at hown hlen htl
                have hroom : (bs tt).length + 1 ≤ 140737488355328 := Nat.le_trans (Nat.succ_le_succ hlen) (by decide)
                clear htk hdg hsh
                generalize digT.getD q 0 = d at hdt htl
                clear hs4
                go_wp2_with (at_builtin; refine wpList_app rfl (.tmp 47) (.tmp 55) 22 22 rfl _ _ rfl rfl (app_byte _ _ hown hroom hbel.size) ?_; intro v' w2 ho hg; replace hbel := (hown.alloc _).belowGrown (hbel.alloc hbel.size _) hg (Nat.le_refl _) (by have := hbel.size; simp; omega); replace ho := ho.byteEnd (c := d) rfl; rw [← htl] at ho; replace ho : Own64 w.heap.size v' l g (k + 1) w2 := ho; clear hown hg htl)
                go_roundw
                case rel => exact ⟨k + 1, by go_num, by omega, ho, hbel⟩
                case measure => simp [intOf] <;> omega
            · have hd4 : decide ((k : Int) < 4) = false := by simp; omega
              obtain rfl : k = 4 := by omega
              go_wp2
              go_roundw
              case rel => exact ⟨g + 1, by go_num, by omega, hown, hbel⟩
              case measure => simp [intOf] <;> omega
    · have hd1 : decide (3 * (g : Int) < (n : Int)) = false := by simp; omega
      have e1 : (n + 2) / 3 = g := by omega
      rw [e1] at hF
      rw [hF] at hown
      have htx := hown.sl.text (P := Tryz.prog) (src := 22) (dst := 9) Tryz.underlying22 Tryz.underlying5 Tryz.underlying9 _ rfl
      go_wp2
      go_ret
      exact ⟨rfl, hbel⟩
theorem DText64_any (l : List UInt8) (w : World) (hl : l.length ≤ 100000) :
    Calls Tryz.prog 11 #[.string (str l)] w fun e w' => e = .returned (.string (str (text64F l))) ∧ Below w.heap.size w w' := by
  go_enter Tryz.func11, Tryz.ntmps11
  go_wp2_with fail
  refine (dText64_any l w hl).mono ?_
  rintro e w1 ⟨rfl, hb1⟩
  go_wp2
  go_ret
  exact ⟨rfl, hb1⟩
end Go.Proofs.YtcebfkhfnjbfjaaGreatDoor
