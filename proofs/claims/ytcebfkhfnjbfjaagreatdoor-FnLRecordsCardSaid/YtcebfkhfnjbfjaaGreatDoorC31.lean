/- Contracts of stripWhitespace and parseTagList. -/
import Derived.Test.YtcebfkhfnjbfjaaGreatDoorC24
import Derived.Laws.Runes
namespace Go.Proofs.YtcebfkhfnjbfjaaGreatDoor
open Go.RowKit
set_option linter.unusedVariables false
set_option linter.unusedSimpArgs false
theorem encode_ascii (x : UInt8) (hx : x.toNat < 128) : Utf8.encode (x.toNat : Int) = str [x] := by
  have hv : Utf8.valid (x.toNat : Int) = true := by simp [Utf8.valid]; omega
  unfold Utf8.encode
  simp only [hv, if_true, Int.toNat_natCast]
  rw [if_pos (by omega)]
  simp only [str, UInt8.ofNat_toNat]
/-- The text of a sign. -/
theorem conv_sign (x : UInt8) (hx : x.toNat < 128) : ∀ W, Sem.run Tryz.prog (convert 21 9 (.int .i32 (x.toNat : Int))) W = .ok (.string (str [x])) W := fun W => by
  rw [run_convert_int_string W 21 9 .i32 _ (by rw [Tryz.underlying21]; rfl) Tryz.underlying9, encode_ascii x hx]
/-- A text without its blanks. -/
def stripF (l : List UInt8) : List UInt8 := l.filter fun x => !sp x.toNat
theorem grown_iterAt (w : World) (k : Nat) (s : ByteArray) (p : Nat) : w.grownBy (w.iterAt k s p) (some k) :=
  ⟨rfl, rfl, rfl, by simp [World.iterAt], fun i hi hne => by
    have : k ≠ i := fun e => hne (by rw [e])
    simp [World.iterAt, this]⟩
set_option maxHeartbeats 2000000 in
set_option maxRecDepth 100000 in
theorem strip_any (l : List UInt8) (w : World) (hl : l.length ≤ 100000) (ha : ∀ x ∈ l, x.toNat < 128) :
    Calls Tryz.prog 88 #[.string (str l)] w fun e w' => e = .returned (.string (str (stripF l))) ∧ Below w.heap.size w w' := by
  obtain ⟨n, hn⟩ : ∃ n, l.length = n := ⟨_, rfl⟩
  obtain ⟨SF, hSF⟩ : ∃ SF, stripF l = SF := ⟨_, rfl⟩
  rw [hSF]
  have hat : ∀ k, k < n → (l.getD k 0).toNat < 128 := fun k hk => by
    rw [List.getD_eq_getElem?_getD, List.getElem?_eq_getElem (by omega)]
    exact ha _ (List.getElem_mem _)
  rw [hn] at hl
  have hb0 : Below w.heap.size w (w.iter (str l) 0) := (Below.refl _ _).alloc (Nat.le_refl _) _
  have hit := World.iter_heap w (str l) 0
  have ho0 := Own.nil (w.heap.size + 1) 5 (w.iter (str l) 0)
  have hsz0 : w.heap.size + 1 ≤ (w.iter (str l) 0).heap.size := by simp [World.iter]
  clear ha
  go_enter Tryz.func88, Tryz.ntmps88
  go_wp2_with fail
  go_loopw [3] (fun v3 W => ∃ i : Nat, i ≤ n ∧ Own (w.heap.size + 1) 5 v3 (bs (stripF (l.take i))) W ∧ W.heap[w.heap.size]? = some (.stringIter (str l) i) ∧ w.heap.size + 1 ≤ W.heap.size ∧ Below w.heap.size w W) (fun _ W => iterLeft w.heap.size W n)
  case atStart => exact ⟨0, by omega, by simpa [stripF, bs] using ho0, hit, hsz0, hb0⟩
  case round =>
    clear hb0 hit ho0 hsz0
    obtain ⟨i, hi, hown, hit, hsz, hb0⟩ := hrel
    by_cases h1 : i < n
    · have hnx := next_str (P := Tryz.prog) hit (by omega) (hat i h1)
      have hb1 : Below w.heap.size w (wr.iterAt w.heap.size (str l) (i + 1)) := Lib.below_iterAt hb0 (Nat.le_refl _) _ _
      have hit1 := Lib.iterAt_heap wr w.heap.size (str l) i (i + 1) hit
      have hcv := conv_sign (l.getD i 0) (hat i h1)
      have hsp := zzIsSpace_any (l.getD i 0).toNat (wr.iterAt w.heap.size (str l) (i + 1)) (hat i h1)
      have htk : stripF (l.take (i + 1)) = stripF (l.take i) ++ stripF [l.getD i 0] := by
        rw [List.take_add_one, List.getElem?_eq_getElem (by omega), List.getD_eq_getElem?_getD, List.getElem?_eq_getElem (by omega), stripF, List.filter_append]
        rfl
      have hlenr : (bs (stripF (l.take i))).length ≤ n := by
        have h1 := List.length_filter_le (fun x : UInt8 => !sp x.toNat) (l.take i)
        have h2 := List.length_take_le i l
        simp only [bs, List.length_map, stripF]
        omega
      have hown1 : Own (w.heap.size + 1) 5 u3 (bs (stripF (l.take i))) (wr.iterAt w.heap.size (str l) (i + 1)) := hown.grown (row := some w.heap.size) (grown_iterAt wr w.heap.size (str l) (i + 1)) (.inr fun e => by have := (hown.lt _ e).1; omega)
      have hsz1 : w.heap.size + 1 ≤ (wr.iterAt w.heap.size (str l) (i + 1)).heap.size := Nat.le_trans hsz (grown_iterAt wr w.heap.size (str l) (i + 1)).size
      obtain ⟨b, hb⟩ : ∃ b, sp (l.getD i 0).toNat = b := ⟨_, rfl⟩
      rw [hb] at hsp
      have hm1 := iterLeft_at hit n
      have hse : stripF [l.getD i 0] = if b then [] else [l.getD i 0] := by
        unfold stripF
        rw [List.filter_cons, hb]
        cases b <;> rfl
      obtain ⟨x, hx⟩ : ∃ x, l.getD i 0 = x := ⟨_, rfl⟩
      rw [hx] at hse hcv hnx hsp htk
      have hxs : (str [x]).size = 1 := str_size [x]
      have hbx := bytesVals_str [x]
      generalize (x.toNat : Nat) = c at hnx hsp hcv
      clear hown hb hx hat hn
      go_wp2_with fail
      refine hsp.mono ?_
      rintro e w1 ⟨rfl, hb2⟩
      have hit2 := (hb2.block w.heap.size (Array.getElem?_eq_some_iff.1 hit1).1).trans hit1
      have hown2 := hown1.below hb2 (Nat.le_refl _)
      replace hsz1 : w.heap.size + 1 ≤ w1.heap.size := Nat.le_trans hsz1 hb2.size
      replace hb2 := hb1.trans (hb2.mono hb1.size)
      clear hb1 hit1 hnx hsp hit hb0 hown1
      cases b
      · simp only [Bool.false_eq_true, if_false] at hse
        rw [hse] at htk
        generalize stripF (l.take i) = r at htk hown2 hlenr
        generalize str [x] = sx at hcv hxs hbx
        have hroom : (bs r).length + sx.size ≤ 140737488355328 := by omega
        go_wp2_with (at_builtin; refine wpList_app rfl (.tmp 14) (.tmp 16) 22 9 rfl _ _ rfl rfl (app_text _ _ hown2 hroom hsz1) ?_; intro v' w2 ho hg; replace hb2 := hown2.belowGrown hb2 hg (by omega) hb2.size; have hit3 := (hg.block w.heap.size (Array.getElem?_eq_some_iff.1 hit2).1 (fun e => by have := (hown2.lt _ e.symm).1; omega)).trans hit2; replace hsz1 := Nat.le_trans hsz1 hg.size; rw [hbx, show bs r ++ bs [x] = bs (r ++ [x]) by simp [bs], ← htk] at ho; clear hown2 hg hit2)
        go_roundw
        case rel => exact ⟨i + 1, by omega, ho, hit3, hsz1, hb2⟩
        case measure => rw [iterLeft_at hit3, hm1]; omega
      · simp only [if_true] at hse
        rw [hse, List.append_nil] at htk
        go_wp2
        go_roundw
        case rel => exact ⟨i + 1, by omega, by rw [htk]; exact hown2, hit2, hsz1, hb2⟩
        case measure => rw [iterLeft_at hit2, hm1]; omega
    · obtain rfl : i = n := by omega
      have hnx := next_end (P := Tryz.prog) hit (by omega)
      rw [List.take_of_length_le (by omega), hSF] at hown
      have htx := hown.sl.text (P := Tryz.prog) (src := 22) (dst := 9) Tryz.underlying22 Tryz.underlying5 Tryz.underlying9 _ rfl
      go_wp2
      go_ret
      exact ⟨rfl, hb0⟩
set_option maxHeartbeats 2000000 in
set_option maxRecDepth 100000 in
/-- A list of one tag. -/
theorem tags_any (l : List UInt8) (w : World) (hl : l.length ≤ 50000) (ha : ∀ x ∈ l, x.toNat < 128) (hc : 58 ∉ l) :
    Calls Tryz.prog 69 #[.string (str l)] w fun e w' => OwnStrsE w.heap.size [stripF l] e w' ∧ Below w.heap.size w w' := by
  have hsplit := zzSplit_any l 58 w (by omega)
  rw [splitF_none hc] at hsplit
  have hst := fun W => strip_any l W (by omega) ha
  obtain ⟨u, hu⟩ : ∃ u, stripF l = u := ⟨_, rfl⟩
  rw [hu] at hst ⊢
  obtain ⟨EE, hEE⟩ : ∃ EE, OwnStrsE w.heap.size [u] = EE := ⟨_, rfl⟩
  rw [hEE]
  clear ha hc hl
  go_enter Tryz.func69, Tryz.ntmps69
  go_wp2_with fail
  refine hsplit.mono ?_
  rintro e w1 ⟨⟨v, rfl, hown⟩, hb1⟩
  obtain ⟨g, c, hv, _⟩ := hown.get 0 (.string (str l)) rfl
  simp only [strs, List.map_cons, List.map_nil, List.length_cons, List.length_nil, Nat.zero_add] at hv hown
  subst hv
  clear hsplit
  go_wp2_with fail
  go_loopw [10] (fun v10 W => ∃ i : Nat, v10 = .int .i64 (i : Int) ∧ i ≤ 1 ∧ Own w.heap.size 9 (.slice (some ⟨g, 0, none⟩) 1 c) [.string (str (if i = 0 then l else u))] W ∧ Below w.heap.size w W) (fun v10 _ => (1 - intOf v10).toNat)
  case atStart => exact ⟨0, rfl, by omega, hown, hb1⟩
  case round =>
    clear hown hb1
    obtain ⟨i, rfl, hi, hown, hb1⟩ := hrel
    by_cases h1 : i < 1
    · obtain rfl : i = 0 := by omega
      simp only [if_true] at hown
      obtain ⟨g', c', e, hcell, -⟩ := hown.get 0 (.string (str l)) rfl
      simp only [Value.slice.injEq, Option.some.injEq, Addr.mk.injEq] at e
      obtain ⟨⟨rfl, -, -⟩, -, rfl⟩ := e
      rw [show (((0 : Nat) : Int)) = 0 from rfl]
      go_wp2_with fail
      refine (hst _).mono ?_
      rintro e w2 ⟨rfl, hb2⟩
      replace hown := hown.below hb2 (Nat.le_refl _)
      replace hb1 := hb1.trans (hb2.mono hb1.size)
      obtain ⟨g', c', e, hcell2, hfr⟩ := hown.get 0 (.string (str l)) rfl
      simp only [Value.slice.injEq, Option.some.injEq, Addr.mk.injEq] at e
      obtain ⟨⟨rfl, -, -⟩, -, rfl⟩ := e
      have hown3 := hown.set 0 (.string (str u)) rfl
      have hb3 : Below w.heap.size w (w2.setCell ⟨g, 0, none⟩ (.string (str u))) := below_grown hb1 (grownBy_setCell _ _ _) (fun k hk => by have := (hown.lt g rfl).1; simp only [Option.some.injEq] at hk; subst hk; exact this) hb1.size
      simp only [List.set_cons_zero] at hown3
      clear hb2 hcell hst
      go_wp2
      go_roundw
      case rel => exact ⟨1, by go_num, by omega, by simpa using hown3, hb3⟩
      case measure => simp [intOf]
    · obtain rfl : i = 1 := by omega
      have hfin : EE (.returned (.slice (some ⟨g, 0, none⟩) 1 c)) wr := by
        rw [← hEE]
        exact ⟨_, rfl, by simpa [strs] using hown⟩
      rw [show (((1 : Nat) : Int)) = 1 from rfl]
      go_wp2
      go_ret
      exact ⟨hfin, hb1⟩
end Go.Proofs.YtcebfkhfnjbfjaaGreatDoor
