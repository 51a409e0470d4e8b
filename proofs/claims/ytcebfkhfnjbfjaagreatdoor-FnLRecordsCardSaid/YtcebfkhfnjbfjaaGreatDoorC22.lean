/- Exact contracts of zzIsSpace and zzTrimSpace, for texts of ASCII. -/
import Derived.Test.YtcebfkhfnjbfjaaGreatDoorC21
import Derived.Lib.OthersKept
import Derived.Laws.IdiomStrings
namespace Go.Proofs.YtcebfkhfnjbfjaaGreatDoor
open Go.RowKit
set_option linter.unusedVariables false
set_option linter.unusedSimpArgs false
/-- Is the sign a blank? -/
def sp (x : Nat) : Bool := decide (9 ≤ x ∧ x ≤ 13) || decide (x = 32)
set_option maxHeartbeats 1000000 in
set_option maxRecDepth 100000 in
theorem zzIsSpace_any (x : Nat) (w : World) (hx : x < 128) :
    Calls Tryz.prog 89 #[.int .i32 (x : Int)] w fun e w' => e = .returned (.bool (sp x)) ∧ Below w.heap.size w w' := by
  have hbel := Below.refl w.heap.size w
  obtain ⟨b, hb⟩ : ∃ b, sp x = b := ⟨_, rfl⟩
  rw [hb]
  unfold sp at hb
  by_cases h1 : 9 ≤ x ∧ x ≤ 13
  · obtain ⟨h2, h3⟩ := h1
    have hb' : b = true := by rw [← hb]; simp [h2, h3]
    subst hb'
    clear hb
    have d1 : decide (9 ≤ (x : Int)) = true := by simp; omega
    have d2 : decide ((x : Int) ≤ 13) = true := by simp; omega
    go_enter Tryz.func89, Tryz.ntmps89
    go_wp2
    go_ret
    exact ⟨rfl, hbel⟩
  · by_cases h32 : x = 32
    · subst h32
      have hb' : b = true := by rw [← hb]; rfl
      subst hb'
      clear hb
      go_enter Tryz.func89, Tryz.ntmps89
      go_wp2
      go_ret
      exact ⟨rfl, hbel⟩
    · have hb' : b = false := by rw [← hb]; simp [h1, h32]
      subst hb'
      clear hb
      have e1 : ((x : Int) == 32) = false := by simp; omega
      have e2 : ((x : Int) == 133) = false := by simp; omega
      have e3 : ((x : Int) == 160) = false := by simp; omega
      have e4 : ((x : Int) == 5760) = false := by simp; omega
      have e5 : decide (8192 ≤ (x : Int)) = false := by simp; omega
      have e6 : ((x : Int) == 8232) = false := by simp; omega
      have e7 : ((x : Int) == 8233) = false := by simp; omega
      have e8 : ((x : Int) == 8239) = false := by simp; omega
      have e9 : ((x : Int) == 8287) = false := by simp; omega
      have e10 : ((x : Int) == 12288) = false := by simp; omega
      by_cases h9 : 9 ≤ x
      · have d1 : decide (9 ≤ (x : Int)) = true := by simp; omega
        have d2 : decide ((x : Int) ≤ 13) = false := by simp; omega
        clear h1
        go_enter Tryz.func89, Tryz.ntmps89
        go_wp2
        go_ret
        exact ⟨rfl, hbel⟩
      · have d1 : decide (9 ≤ (x : Int)) = false := by simp; omega
        clear h1
        go_enter Tryz.func89, Tryz.ntmps89
        go_wp2
        go_ret
        exact ⟨rfl, hbel⟩
/-- The world behind the conversion of a text of one byte into runes. -/
def runeW (w : World) (x : Nat) : World := w.drew.alloc (.cells (#[.int .i32 (x : Int)] ++ Array.replicate (grownCap w 1 0 21 - 1) (.int .i32 0)) 21)
theorem runeW_cell (w : World) (x : Nat) : (runeW w x).cell? ⟨w.heap.size, 0, none⟩ = some (.int .i32 (x : Int)) := by
  rw [runeW, cell_of_row _ w.heap.size 0 _ 21 (0, 0) (heap_alloc_new w.drew _)]
  rw [Array.getElem?_append_left (by simp)]
  rfl
theorem runeW_below {B : Nat} {w0 w : World} (h : Below B w0 w) (hB : B ≤ w.heap.size) (x : Nat) : Below B w0 (runeW w x) := by
  have h1 : Below B w0 w.drew := h.trans ⟨rfl, rfl, rfl, Nat.le_refl _, fun _ _ => rfl⟩
  exact h1.alloc hB _
theorem runeW_size (w : World) (x : Nat) : (runeW w x).heap.size = w.heap.size + 1 := by simp [runeW]
theorem runes_one (x : UInt8) (hx : x.toNat < 128) : Conv.runesFrom (str [x]) (str [x]).size 0 #[] = #[.int .i32 (x.toNat : Int)] := by
  have hs : (str [x]).size = 1 := str_size [x]
  have hlt : 0 < (str [x]).size := by omega
  have h0 : (str [x])[0]'hlt = x := rfl
  rw [hs]
  unfold Conv.runesFrom
  rw [if_pos hlt, decode_ascii (str [x]) 0 hlt (by rw [h0]; exact hx), h0]
  rfl
theorem conv_rune (x : UInt8) (hx : x.toNat < 128) : ∀ W, Sem.run Tryz.prog (convert 9 157 (.string (str [x]))) W = .ok (.slice (some ⟨W.heap.size, 0, none⟩) 1 (grownCap W 1 0 21)) (runeW W x.toNat) := by
  intro W
  have hr := runes_one x hx
  have := run_runes_of_string (P := Tryz.prog) W 9 157 21 (str [x]) Tryz.underlying9 Tryz.underlying157 Tryz.underlying21 (by rw [hr]; simp)
  rw [hr] at this
  exact this
/-- How many blanks stand ahead. -/
def fromF (l : List UInt8) : Nat := (l.takeWhile fun x => sp x.toNat).length
/-- One behind the last sign of the first i that is no blank. -/
def lastF (l : List UInt8) : Nat → Nat
  | 0 => 0
  | i + 1 => if sp (l.getD i 0).toNat then lastF l i else i + 1
/-- A text without blanks at its ends. -/
def trimF (l : List UInt8) : List UInt8 := if fromF l = l.length then [] else (l.take (lastF l l.length)).drop (fromF l)
theorem fromF_at {l : List UInt8} {i : Nat} (hi : i < l.length) (h1 : ∀ k, k < i → sp (l.getD k 0).toNat = true) (h2 : sp (l.getD i 0).toNat = false) : fromF l = i := by
  unfold fromF
  induction l generalizing i with
  | nil => simp at hi
  | cons x r ih =>
    cases i with
    | zero =>
      have : sp x.toNat = false := h2
      simp [List.takeWhile_cons, this]
    | succ i =>
      have h0 : sp x.toNat = true := h1 0 (by omega)
      rw [List.takeWhile_cons, if_pos h0, List.length_cons, ih (i := i) (by simpa using hi) (fun k hk => h1 (k + 1) (by omega)) h2]
theorem fromF_all {l : List UInt8} (h1 : ∀ k, k < l.length → sp (l.getD k 0).toNat = true) : fromF l = l.length := by
  unfold fromF
  induction l with
  | nil => rfl
  | cons x r ih =>
    have h0 : sp x.toNat = true := h1 0 (by simp)
    rw [List.takeWhile_cons, if_pos h0, List.length_cons, ih fun k hk => h1 (k + 1) (by simpa using hk)]
    rfl
theorem lastF_le (l : List UInt8) : ∀ i, lastF l i ≤ i
  | 0 => Nat.le_refl _
  | i + 1 => by
    unfold lastF
    split
    · have := lastF_le l i; omega
    · omega
theorem lastF_ge {l : List UInt8} {f : Nat} (h : sp (l.getD f 0).toNat = false) : ∀ i, f < i → f + 1 ≤ lastF l i
  | 0, hi => by omega
  | i + 1, hi => by
    unfold lastF
    split
    · rename_i hs
      have : f ≠ i := fun e => by subst e; rw [h] at hs; cases hs
      exact lastF_ge h i (by omega)
    · omega
/-- The next sign of a text. -/
theorem next_str {P : Program} {l : List UInt8} {i : Nat} {k : Nat} {W : World} (hk : W.heap[k]? = some (.stringIter (str l) i)) (hi : i < l.length) (ha : (l.getD i 0).toNat < 128) (ty : TypeId) :
    Sem.run P (Instr.next (.pointer (some ⟨k, 0, none⟩)) true ty) W = .ok (.tuple #[.bool true, .int .i64 (i : Int), .int .i32 (((l.getD i 0).toNat : Nat) : Int)]) (W.iterAt k (str l) (i + 1)) := by
  have hlt : i < (str l).size := by rw [str_size]; exact hi
  have he : (str l)[i] = l.getD i 0 := by
    rw [List.getD_eq_getElem?_getD, List.getElem?_eq_getElem hi]
    show (str l).data[i] = _
    simp [str]
  have := Lib.run_next_ascii_at (P := P) W k (str l) i ty hk hlt (by rw [he]; exact ha)
  rw [he] at this
  exact this
theorem next_end {P : Program} {l : List UInt8} {i : Nat} {k : Nat} {W : World} (hk : W.heap[k]? = some (.stringIter (str l) i)) (hi : l.length ≤ i) (ty : TypeId) :
    Sem.run P (Instr.next (.pointer (some ⟨k, 0, none⟩)) true ty) W = .ok (.tuple #[.bool false]) W :=
  Lib.run_next_end_at W k (str l) i ty hk (by rw [str_size]; omega)
/-- Where the iterator stands, and what is left. -/
def iterLeft (k : Nat) (w : World) (n : Nat) : Nat := match w.heap[k]? with | some (.stringIter _ p) => n + 1 - p | _ => 0
theorem iterLeft_at {k p : Nat} {s : ByteArray} {w : World} (h : w.heap[k]? = some (.stringIter s p)) (n : Nat) : iterLeft k w n = n + 1 - p := by simp [iterLeft, h]
/-- Where the text ends, as it is known behind the first j signs; f: the first that is no blank. -/
def toF (l : List UInt8) (f n j : Nat) : Nat := if j = f then n else lastF l j
theorem toF_step {l : List UInt8} {f n j : Nat} (hf : sp (l.getD f 0).toNat = false) (hj : f ≤ j) : toF l f n (j + 1) = if sp (l.getD j 0).toNat then toF l f n j else j + 1 := by
  unfold toF
  rw [if_neg (by omega)]
  show (if sp (l.getD j 0).toNat then lastF l j else j + 1) = _
  by_cases e : j = f
  · subst e
    rw [hf]
    simp
  · rw [if_neg e]
set_option maxHeartbeats 2000000 in
set_option maxRecDepth 100000 in
theorem zzTrimSpace_any (l : List UInt8) (w : World) (hl : l.length ≤ 100000) (ha : ∀ x ∈ l, x.toNat < 128) :
    Calls Tryz.prog 82 #[.string (str l)] w fun e w' => e = .returned (.string (str (trimF l))) ∧ Below w.heap.size w w' := by
  obtain ⟨n, hn⟩ : ∃ n, l.length = n := ⟨_, rfl⟩
  have hsz : (str l).size = n := by rw [str_size]; exact hn
  obtain ⟨TF, hTF⟩ : ∃ TF, trimF l = TF := ⟨_, rfl⟩
  rw [hTF]
  have hat : ∀ k, k < n → (l.getD k 0).toNat < 128 := fun k hk => by
    rw [List.getD_eq_getElem?_getD, List.getElem?_eq_getElem (by omega)]
    exact ha _ (List.getElem_mem _)
  rw [hn] at hl
  have hb0 : Below w.heap.size w (w.iter (str l) 0) := (Below.refl _ _).alloc (Nat.le_refl _) _
  have hit := World.iter_heap w (str l) 0
  clear ha
  go_enter Tryz.func82, Tryz.ntmps82
  go_wp2_with fail
  go_loopw [3] (fun v3 W => ∃ i : Nat, v3 = .int .i64 (n : Int) ∧ i ≤ n ∧ (∀ k, k < i → sp (l.getD k 0).toNat = true) ∧ W.heap[w.heap.size]? = some (.stringIter (str l) i) ∧ Below w.heap.size w W) (fun _ W => iterLeft w.heap.size W n)
  case atStart => exact ⟨0, rfl, by omega, fun k hk => by omega, hit, hb0⟩
  case round =>
    clear hb0 hit
    obtain ⟨i, rfl, hi, hall, hit, hb0⟩ := hrel
    by_cases h1 : i < n
    · have hnx := next_str (P := Tryz.prog) hit (by omega) (hat i h1)
      have hb1 : Below w.heap.size w (wr.iterAt w.heap.size (str l) (i + 1)) := Lib.below_iterAt hb0 (Nat.le_refl _) _ _
      have hit1 := Lib.iterAt_heap wr w.heap.size (str l) i (i + 1) hit
      have hsp := zzIsSpace_any (l.getD i 0).toNat (wr.iterAt w.heap.size (str l) (i + 1)) (hat i h1)
      obtain ⟨b, hb⟩ : ∃ b, sp (l.getD i 0).toNat = b := ⟨_, rfl⟩
      rw [hb] at hsp
      have hm1 := iterLeft_at hit n
      generalize (l.getD i 0).toNat = c at hnx hsp
      go_wp2_with fail
      refine hsp.mono ?_
      rintro e w1 ⟨rfl, hb2⟩
      have hit2 := (hb2.block w.heap.size (Array.getElem?_eq_some_iff.1 hit1).1).trans hit1
      replace hb2 := hb1.trans (hb2.mono hb1.size)
      have hm2 := iterLeft_at hit2 n
      clear hb1 hit1 hnx hsp hit hb0
      cases b
      · have hbf : sp (l.getD i 0).toNat = false := hb
        have hT : trimF l = (l.take (lastF l n)).drop i := by
          unfold trimF
          rw [fromF_at (by omega) hall hb, hn, if_neg (by omega)]
        have hfin := str_mid (P := Tryz.prog) Tryz.underlying9 l .i64 .i64 i (lastF l n) (by have := lastF_ge hb n h1; omega) (by have := lastF_le l n; omega)
        rw [← hT, hTF] at hfin
        have hdn : ((i : Int) == (n : Int)) = false := by simp; omega
        have hdn' : decide ((i : Int) = (n : Int)) = false := by simp; omega
        clear hm1 hm2 hit2 hTF hT hall hb
        go_wp2
        go_loopw [4, 7] (fun v4 v7 W => ∃ j : Nat, v7 = .int .i64 (j : Int) ∧ i ≤ j ∧ j ≤ n ∧ v4 = .int .i64 (toF l i n j : Int) ∧ Below w.heap.size w W) (fun _ v7 _ => (n - intOf v7).toNat)
        case atStart => exact ⟨i, rfl, Nat.le_refl _, by omega, by simp [toF], hb2⟩
        case round =>
          clear hb2
          obtain ⟨j, rfl, hij, hj, rfl, hb2⟩ := hrel
          by_cases h2 : j < n
          · have hd2 : decide ((j : Int) < (n : Int)) = true := by simp; omega
            have hst := toF_step (l := l) (n := n) hbf hij
            have hc1 := hat j h2
            have hix := str_at (P := Tryz.prog) Tryz.underlying9 l .i64 j (by omega)
            have hmid := str_mid (P := Tryz.prog) Tryz.underlying9 l .i64 .i64 j (j + 1) (by omega) (by omega)
            rw [take_one (by omega), Int.natCast_add, Int.natCast_one] at hmid
            have hcv := conv_rune (l.getD j 0) hc1
            have hss := str_size [l.getD j 0]
            have hce := runeW_cell (runeW wr (l.getD j 0).toNat) (l.getD j 0).toNat
            have hb3 : Below w.heap.size w (runeW (runeW wr (l.getD j 0).toNat) (l.getD j 0).toNat) := runeW_below (runeW_below hb2 hb2.size _) (by rw [runeW_size]; have := hb2.size; omega) _
            have hsp := zzIsSpace_any (l.getD j 0).toNat (runeW (runeW wr (l.getD j 0).toNat) (l.getD j 0).toNat) hc1
            generalize str [l.getD j 0] = ss at hmid hcv hss
            obtain ⟨b, hb⟩ : ∃ b, sp (l.getD j 0).toNat = b := ⟨_, rfl⟩
            rw [hb] at hst hsp
            obtain ⟨t', hto⟩ : ∃ t', toF l i n (j + 1) = t' := ⟨_, rfl⟩
            rw [hto] at hst
            generalize (l.getD j 0).toNat = c at hix hcv hce hb3 hsp hc1
            have hge : decide (192 ≤ (c : Int)) = false := by simp; omega
            clear hc1 hb hfin hbf
            generalize toF l i n j = t at hst
            go_wp2
            go_loopw [8] (fun v8 W => v8 = .int .i64 1 ∧ W = wr) (fun _ _ => 0)
            case atStart => exact ⟨rfl, rfl⟩
            case round =>
              obtain ⟨rfl, rfl⟩ := hrel
              by_cases h3 : j + 1 < n
              · have hd3 : decide ((j : Int) + 1 < (n : Int)) = true := by simp; omega
                go_wp2_with fail
                refine hsp.mono ?_
                rintro e w3 ⟨rfl, hb4⟩
                replace hb4 := hb3.trans (hb4.mono hb3.size)
                cases b
                · have et : t' = j + 1 := by rw [hst]; rfl
                  subst et
                  clear hst
                  go_wp2
                  go_roundw
                  case rel => exact ⟨j + 1, by go_num, by omega, by omega, by rw [hto]; go_num, hb4⟩
                  case measure => simp [intOf] <;> omega
                · have et : t' = t := by rw [hst]; rfl
                  subst et
                  clear hst
                  go_wp2
                  go_roundw
                  case rel => exact ⟨j + 1, by go_num, by omega, by omega, by rw [hto], hb4⟩
                  case measure => simp [intOf] <;> omega
              · have hd3 : decide ((j : Int) + 1 < (n : Int)) = false := by simp; omega
                go_wp2_with fail
                refine hsp.mono ?_
                rintro e w3 ⟨rfl, hb4⟩
                replace hb4 := hb3.trans (hb4.mono hb3.size)
                cases b
                · have et : t' = j + 1 := by rw [hst]; rfl
                  subst et
                  clear hst
                  go_wp2
                  go_roundw
                  case rel => exact ⟨j + 1, by go_num, by omega, by omega, by rw [hto]; go_num, hb4⟩
                  case measure => simp [intOf] <;> omega
                · have et : t' = t := by rw [hst]; rfl
                  subst et
                  clear hst
                  go_wp2
                  go_roundw
                  case rel => exact ⟨j + 1, by go_num, by omega, by omega, by rw [hto], hb4⟩
                  case measure => simp [intOf] <;> omega
          · have hd2 : decide ((j : Int) < (n : Int)) = false := by simp; omega
            obtain rfl : j = n := by omega
            have e2 : toF l i j j = lastF l j := by unfold toF; rw [if_neg (by omega)]
            rw [e2]
            generalize lastF l j = t at hfin ⊢
            go_wp2
            go_ret
            exact ⟨rfl, hb2⟩
      · go_wp2
        go_roundw
        case rel =>
          refine ⟨i + 1, rfl, by omega, fun k hk => ?_, hit2, hb2⟩
          by_cases e : k = i
          · rw [e]; exact hb
          · exact hall k (by omega)
        case measure => rw [hm1, hm2]; omega
    · have hnx := next_end (P := Tryz.prog) hit (by omega)
      have hT : TF = [] := by rw [← hTF]; unfold trimF; rw [if_pos (fromF_all fun k hk => hall k (by omega))]
      have hemp : (str [] : ByteArray) = ⟨#[]⟩ := rfl
      subst hT
      clear hTF hall hit
      go_wp2
      go_loopw [4, 7] (fun v4 v7 W => v4 = .int .i64 (n : Int) ∧ v7 = .int .i64 (n : Int) ∧ W = wr) (fun _ _ _ => 0)
      case atStart => exact ⟨rfl, rfl, rfl⟩
      case round =>
        obtain ⟨rfl, rfl, rfl⟩ := hrel
        go_wp2
        go_ret
        exact ⟨rfl, hb0⟩
end Go.Proofs.YtcebfkhfnjbfjaaGreatDoor
