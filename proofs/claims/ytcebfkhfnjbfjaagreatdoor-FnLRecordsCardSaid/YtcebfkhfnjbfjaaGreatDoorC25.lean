/- strings.FieldsFunc, laid at this program: the library's own contract. -/
import Derived.Test.YtcebfkhfnjbfjaaGreatDoorC14
import Derived.Test.YtcebfkhfnjbfjaaGreatDoorC22
import Derived.Test.YtcebfkhfnjbfjaaGreatDoorC24
import Derived.Shelf.Strings.FieldsFuncAny
namespace Go.Proofs.YtcebfkhfnjbfjaaGreatDoor
open Go.RowKit Go.Shelf
set_option linter.unusedVariables false
set_option linter.unusedSimpArgs false
def ffRen : Ren := ⟨fun | 229 => 130 | n => n, fun | 0 => 0 | 3 => 3 | 4 => 4 | 9 => 9 | 21 => 21 | 31 => 23 | 40 => 156 | 152 => 201 | 154 => 203 | n => n, fun n => n⟩
theorem ffLays : Lays.n229 Tryz.prog ffRen where
  mixed := by kernel_rfl
  f229 := by kernel_rfl
  t0 := by kernel_rfl
  a0 := fun w => by kernel_rfl
  z0 := fun w => by kernel_rfl
  v0 := fun w => by kernel_rfl
  t3 := by kernel_rfl
  a3 := fun w => by kernel_rfl
  z3 := fun w => by kernel_rfl
  v3 := fun w => by kernel_rfl
  t4 := by kernel_rfl
  a4 := fun w => by kernel_rfl
  z4 := fun w => by kernel_rfl
  v4 := fun w => by kernel_rfl
  t9 := by kernel_rfl
  a9 := fun w => by kernel_rfl
  z9 := fun w => by kernel_rfl
  v9 := fun w => by kernel_rfl
  t21 := by kernel_rfl
  a21 := fun w => by kernel_rfl
  z21 := fun w => by kernel_rfl
  v21 := fun w => by kernel_rfl
  t31 := by kernel_rfl
  a31 := fun w => by kernel_rfl
  z31 := fun w => by kernel_rfl
  v31 := fun w => by kernel_rfl
  t40 := by kernel_rfl
  a40 := fun w => by kernel_rfl
  z40 := fun w => by kernel_rfl
  v40 := fun w => by kernel_rfl
  t152 := by kernel_rfl
  a152 := fun w => by kernel_rfl
  z152 := fun w => by kernel_rfl
  v152 := fun w => by kernel_rfl
  t154 := by kernel_rfl
  a154 := fun w => by kernel_rfl
  z154 := fun w => by kernel_rfl
  v154 := fun w => by kernel_rfl
/-- Blanks of a field. -/
def blankF (x : Nat) : Bool := x == 32 || x == 9 || x == 10 || x == 13
set_option maxHeartbeats 1000000 in
set_option maxRecDepth 100000 in
theorem closure_any (x : Nat) (W : World) (hx : x ≤ 1114111) : Calls Tryz.prog 131 #[.int .i32 (x : Int)] W fun e w' => e = .returned (.bool (blankF x)) ∧ ∃ q, w' = W.drewN q := by
  have key : ∀ b : Bool, ((x : Int) == 32) = b → Calls Tryz.prog 131 #[.int .i32 (x : Int)] W fun e w' => e = .returned (.bool (blankF x)) ∧ ∃ q, w' = W.drewN q := by
    intro b1 h1
    obtain ⟨b2, h2⟩ : ∃ b, ((x : Int) == 9) = b := ⟨_, rfl⟩
    obtain ⟨b3, h3⟩ : ∃ b, ((x : Int) == 10) = b := ⟨_, rfl⟩
    obtain ⟨b4, h4⟩ : ∃ b, ((x : Int) == 13) = b := ⟨_, rfl⟩
    have hp : blankF x = (b1 || b2 || b3 || b4) := by
      rw [← h1, ← h2, ← h3, ← h4]
      have e : ∀ n : Nat, ((x : Int) == (n : Int)) = (x == n) := fun n => by
        rw [Bool.eq_iff_iff]
        simp only [beq_iff_eq]
        omega
      have e1 : ((x : Int) == 32) = (x == 32) := e 32
      have e2 : ((x : Int) == 9) = (x == 9) := e 9
      have e3 : ((x : Int) == 10) = (x == 10) := e 10
      have e4 : ((x : Int) == 13) = (x == 13) := e 13
      rw [e1, e2, e3, e4]
      rfl
    rw [hp]
    clear hp
    generalize (x : Int) = y at *
    cases b1 <;> cases b2 <;> cases b3 <;> cases b4
    all_goals (
      go_enter Tryz.func131, Tryz.ntmps131
      go_wp2
      go_ret
      exact ⟨rfl, 0, rfl⟩)
  exact key _ rfl
theorem fields_any (w : World) : Calls Tryz.prog 130 #[.string (str [32, 66, 13, 10]), .func (.func 131) #[] #[]] w fun e w' => (∃ v, e = .returned v ∧ v = .slice (some ⟨v.ownBlock.getD 0, 0, none⟩) 1 1 ∧ w'.cell? ⟨v.ownBlock.getD 0, 0, none⟩ = some (.string (str [66]))) ∧ Below w.heap.size w w' := by
  have hF : Lib.goFieldsP blankF (str [32, 66, 13, 10]) = [str [66]] := by decide
  have h := Any.strings_FieldsFunc_runes ffLays 131 #[] (enters_of Tryz.func131 (by kernel_rfl) rfl) blankF (str [32, 66, 13, 10]) w (by decide) (fun W x hx _ => closure_any x W hx) (by kernel_rfl) (by kernel_rfl)
  rw [hF] at h
  refine Calls.mono h ?_
  rintro e w' ⟨A, rfl, hA, hrow, hb⟩
  refine ⟨⟨_, rfl, rfl, ?_⟩, hb⟩
  have := hrow.cellAt 0 (by simp)
  simpa [Value.ownBlock] using this
set_option maxHeartbeats 1000000 in
set_option maxRecDepth 100000 in
theorem join_one (A : Nat) (t : ByteArray) (w : World) (h : w.cell? ⟨A, 0, none⟩ = some (.string t)) : Calls Tryz.prog 129 #[.slice (some ⟨A, 0, none⟩) 1 1, .string ⟨#[32]⟩] w fun e w' => e = .returned (.string t) ∧ Below w.heap.size w w' := by
  have hb := Below.refl w.heap.size w
  go_enter Tryz.func129, Tryz.ntmps129
  go_wp2
  go_ret
  exact ⟨rfl, hb⟩
set_option maxHeartbeats 1000000 in
set_option maxRecDepth 100000 in
theorem lower_A (w : World) : Calls Tryz.prog 128 #[.string (str [65])] w fun e w' => e = .returned (.string (str [97])) ∧ Below w.heap.size w w' := by
  have hb := Below.refl w.heap.size w
  have hsz : (str [65]).size = 1 := rfl
  have hix := str_at (P := Tryz.prog) Tryz.underlying9 [65] .i64 0 (by decide)
  have ho := Own.nil w.heap.size 5 w
  have hroom : ([] : List Value).length + 1 ≤ 140737488355328 := by simp
  generalize str [65] = sA at hsz hix ⊢
  go_enter Tryz.func128, Tryz.ntmps128
  go_wp2_with fail
  go_loopw [3, 4] (fun v3 v4 W => ∃ i : Nat, v4 = .int .i64 (i : Int) ∧ i ≤ 1 ∧ Own w.heap.size 5 v3 (if i = 0 then [] else [.int .u8 97]) W ∧ Below w.heap.size w W) (fun _ v4 _ => (1 - intOf v4).toNat)
  case atStart => exact ⟨0, rfl, by omega, by simpa using ho, hb⟩
  case round =>
    clear ho hb
    obtain ⟨i, rfl, hi, ho, hb⟩ := hrel
    by_cases h1 : i < 1
    · obtain rfl : i = 0 := by omega
      rw [if_pos rfl] at ho
      rw [show (((0 : Nat) : Int)) = 0 from rfl] at hix ⊢
      go_wp2_with (at_builtin; refine wpList_app rfl (.tmp 26) (.tmp 30) 22 22 rfl _ _ rfl rfl (app_byte _ _ ho hroom hb.size) ?_; intro v' w2 ho2 hg; replace hb := (ho.alloc _).belowGrown (hb.alloc hb.size _) hg (Nat.le_refl _) (by have := hb.size; simp; omega); clear ho hg)
      go_roundw
      case rel => exact ⟨1, by go_num, by omega, by simpa using ho2, hb⟩
      case measure => simp [intOf]
    · obtain rfl : i = 1 := by omega
      rw [if_neg (by decide)] at ho
      rw [show (((1 : Nat) : Int)) = 1 from rfl]
      have htx := ho.sl.text (P := Tryz.prog) (l := [97]) (src := 22) (dst := 9) Tryz.underlying22 Tryz.underlying5 Tryz.underlying9 _ rfl
      go_wp2
      go_ret
      exact ⟨rfl, hb⟩
set_option maxHeartbeats 1000000 in
set_option maxRecDepth 100000 in
theorem relax_any (p : Value) (w : World) : Calls Tryz.prog 127 #[p, .string (str [65, 58, 32, 66, 13, 10])] w fun e w' => e = .returned (.string (str [97, 58, 66, 13, 10])) ∧ Below w.heap.size w w' := by
  have hcut := zzCut_any [65, 58, 32, 66, 13, 10] 58 w (by decide)
  have h128 := lower_A
  have h82 := fun W => zzTrimSpace_any [97] W (by decide) (by decide)
  rw [show trimF [97] = [97] by decide] at h82
  have h130 := fields_any
  have s1 : str [97] ++ (⟨#[58]⟩ : ByteArray) = str [97, 58] := rfl
  have s2 : str [97, 58] ++ str [66] = str [97, 58, 66] := rfl
  have s3 : str [97, 58, 66] ++ (⟨#[13, 10]⟩ : ByteArray) = str [97, 58, 66, 13, 10] := rfl
  have z1 : (str [97]).size = 1 := rfl
  have z2 : (str [66]).size = 1 := rfl
  have z3 : (str [97, 58]).size = 2 := rfl
  have z4 : (str [97, 58, 66]).size = 3 := rfl
  generalize str [65, 58, 32, 66, 13, 10] = sL at hcut ⊢
  generalize str [97, 58, 66, 13, 10] = sc at s3 ⊢
  go_enter Tryz.func127, Tryz.ntmps127
  go_wp2_with fail
  refine hcut.mono ?_
  clear hcut
  rintro e w1 ⟨h, hb1⟩
  obtain rfl : e = .returned (.tuple #[.string (str [65]), .string (str [32, 66, 13, 10]), .bool true]) := by
    rcases h with ⟨hn, _⟩ | ⟨x, y, hxy, hn, rfl⟩
    · exact absurd (by decide) hn
    · obtain ⟨rfl, rfl⟩ := cut_unique (a := [65]) (b := [32, 66, 13, 10]) hxy (by decide) hn
      rfl
  clear h
  generalize str [65] = s65 at h128 ⊢
  generalize str [32, 66, 13, 10] = sB at h130 ⊢
  generalize str [97] = s97 at h128 h82 s1 z1
  generalize str [66] = s66 at h130 s2 z2
  generalize str [97, 58] = sa at s1 s2 z3
  generalize str [97, 58, 66] = sb at s2 s3 z4
  go_wp2_with fail
  refine (h128 _).mono ?_
  rintro e w2 ⟨rfl, hb2⟩
  replace hb1 := hb1.trans (hb2.mono hb1.size)
  clear hb2 h128
  go_wp2_with fail
  refine (h82 _).mono ?_
  rintro e w3 ⟨rfl, hb3⟩
  replace hb1 := hb1.trans (hb3.mono hb1.size)
  clear hb3 h82
  go_wp2_with fail
  refine (h130 _).mono ?_
  rintro e w4 ⟨⟨v, rfl, hv, hcell⟩, hb4⟩
  generalize v.ownBlock.getD 0 = A at hv hcell
  subst hv
  replace hb1 := hb1.trans (hb4.mono hb1.size)
  clear hb4 h130
  have hj := join_one A s66 w4 hcell
  clear hcell
  go_wp2_with fail
  refine hj.mono ?_
  rintro e w5 ⟨rfl, hb5⟩
  replace hb1 := hb1.trans (hb5.mono hb1.size)
  clear hb5 hj
  go_wp2
  go_ret
  exact ⟨rfl, hb1⟩
set_option maxHeartbeats 1000000 in
set_option maxRecDepth 100000 in
theorem canon_any (w : World) : Calls Tryz.prog 50 #[.string ⟨#[114, 101, 108, 97, 120, 101, 100]⟩] w fun e w' => (∃ p, e = .returned (.tuple #[.iface 136 (.pointer (some p)), .bool true])) ∧ Below w.heap.size w w' := by
  have hb := Below.refl w.heap.size w
  have hb1 := hb.alloc (Nat.le_refl _) (.cells #[] 137)
  go_enter Tryz.func50, Tryz.ntmps50
  go_wp2
  go_ret2
  exact ⟨⟨_, rfl⟩, hb1⟩
set_option maxHeartbeats 1000000 in
set_option maxRecDepth 100000 in
theorem header_any (w : World) : Calls Tryz.prog 39 #[.string ⟨#[114, 101, 108, 97, 120, 101, 100]⟩, .string ⟨#[65, 58, 32, 66, 13, 10]⟩] w fun e w' => e = .returned (.tuple #[.string (str [97, 58, 66, 13, 10]), .bool true]) ∧ Below w.heap.size w w' := by
  have h50 := canon_any w
  have h127 := fun p W => relax_any p W
  rw [show str [65, 58, 32, 66, 13, 10] = ⟨#[65, 58, 32, 66, 13, 10]⟩ from rfl] at h127
  generalize str [97, 58, 66, 13, 10] = sc at h127 ⊢
  go_enter Tryz.func39, Tryz.ntmps39
  go_wp2_with fail
  refine h50.mono ?_
  clear h50
  rintro e w1 ⟨⟨p, rfl⟩, hb1⟩
  go_wp2_with fail
  refine (h127 _ _).mono ?_
  clear h127
  rintro e w2 ⟨rfl, hb2⟩
  replace hb1 := hb1.trans (hb2.mono hb1.size)
  clear hb2
  go_wp2
  go_ret2
  exact ⟨rfl, hb1⟩
set_option maxHeartbeats 1000000 in
set_option maxRecDepth 100000 in
theorem field_any (w : World) : Calls Tryz.prog 22 #[.string ⟨#[114, 101, 108, 97, 120, 101, 100]⟩, .string ⟨#[65, 58, 32, 66, 13, 10]⟩] w fun e w' => e = .returned (.string (str [97, 58, 66, 13, 10])) ∧ Below w.heap.size w w' := by
  have h39 := header_any w
  generalize str [97, 58, 66, 13, 10] = sc at h39 ⊢
  go_enter Tryz.func22, Tryz.ntmps22
  go_wp2_with fail
  refine h39.mono ?_
  clear h39
  rintro e w1 ⟨rfl, hb1⟩
  go_wp2
  go_ret
  exact ⟨rfl, hb1⟩
set_option maxHeartbeats 1000000 in
set_option maxRecDepth 100000 in
/-- A field is written in its relaxed form. -/
theorem lAwake_any (w : World) : Calls Tryz.prog 6 #[] w fun e w' => e = .returned (.bool true) ∧ Below w.heap.size w w' := by
  have h22 := field_any w
  have e1 : ((str [97, 58, 66, 13, 10]).toList == [97, 58, 66, 13, 10]) = true := by rw [toList_str]; rfl
  generalize str [97, 58, 66, 13, 10] = sc at h22 e1
  go_enter Tryz.func6, Tryz.ntmps6
  go_wp2_with fail
  refine h22.mono ?_
  clear h22
  rintro e w1 ⟨rfl, hb1⟩
  go_wp2
  go_ret
  exact ⟨rfl, hb1⟩
end Go.Proofs.YtcebfkhfnjbfjaaGreatDoor
