/- Exact contracts of numbers: LBits, LSize. Exact contract of LBytes. Exact contract of LHex (as a function of the text). Texts as lists of bytes: parts, sums, comparisons. -/
import Derived.Test.YtcebfkhfnjbfjaaGreatDoorC12
import Derived.Test.YtcebfkhfnjbfjaaGreatDoorC13
import Derived.BigQuiet
namespace Go.Proofs.YtcebfkhfnjbfjaaGreatDoor
open Go.RowKit
set_option linter.unusedVariables false
set_option linter.unusedSimpArgs false
/-- How many bits a word has. -/
def blen (x : Nat) : Nat := if h : x = 0 then 0 else blen (x / 2) + 1
decreasing_by omega
theorem blen_zero : blen 0 = 0 := by rw [blen]; simp
theorem blen_pos {x : Nat} (h : x ≠ 0) : blen x = blen (x / 2) + 1 := by rw [blen]; simp [h]
theorem blen_lt : ∀ (k x : Nat), x < 2 ^ k → blen x ≤ k
  | 0, x, h => by
    obtain rfl : x = 0 := by simpa using h
    rw [blen_zero]; omega
  | k + 1, x, h => by
    by_cases hx : x = 0
    · rw [hx, blen_zero]; omega
    · rw [blen_pos hx]
      have := blen_lt k (x / 2) (by rw [Nat.pow_succ] at h; omega)
      omega
/-- How many bits a number has. -/
def bitsL (xs : List Nat) : Nat :=
  match (bareL xs).getLast? with
  | none => 0
  | some x => 32 * ((bareL xs).length - 1) + blen x
theorem bitsL_bound (xs : List Nat) (h : ∀ x ∈ xs, x < 4294967296) : bitsL xs ≤ 32 * xs.length := by
  unfold bitsL
  have hl := bareL_length xs
  cases e : (bareL xs).getLast? with
  | none => simp
  | some x =>
    have hm : x ∈ bareL xs := List.mem_of_getLast? e
    have hx : x ∈ xs := by
      simp only [bareL, List.mem_reverse] at hm
      have := (List.dropWhile_sublist (l := xs.reverse) (· == 0)).subset hm
      simpa using this
    have hb := blen_lt 32 x (by have := h x hx; omega)
    have hpos : (bareL xs) ≠ [] := by intro e'; rw [e'] at e; simp at e
    have := List.length_pos_iff.2 hpos
    simp only
    omega
set_option maxHeartbeats 1000000 in
set_option maxRecDepth 100000 in
theorem LBits_any (v : Value) (xs : List Nat) (w : World) (h : Num v xs w) (hl : xs.length ≤ 1000000) :
    Calls Tryz.prog 15 #[v] w fun e w' => e = .returned (.int .i64 (bitsL xs : Int)) ∧ Below w.heap.size w w' := by
  have hbel := Below.refl w.heap.size w
  have hbb := bitsL_bound xs h.1
  generalize hbits : bitsL xs = bits at hbb ⊢
  go_enter Tryz.func15, Tryz.ntmps15
  go_wp2_with fail
  refine (lBare_any _ _ _ h).mono ?_
  rintro e w1 ⟨⟨v', rfl, hv'⟩, hb1⟩
  have hbl := bareL_length xs
  unfold bitsL at hbits
  generalize bareL xs = ys at hv' hbl hbits
  clear h
  rcases List.eq_nil_or_concat ys with rfl | ⟨zs, x, rfl⟩
  · obtain ⟨a, cap, rfl⟩ := hv'.len
    simp at hbits
    subst hbits
    go_wp2
    go_ret
    exact ⟨rfl, hb1⟩
  · rw [List.concat_eq_append] at hv' hbl hbits
    have hzl : (zs ++ [x]).length = zs.length + 1 := by simp
    obtain ⟨g, o, cap, x', rfl, hc, hx, e⟩ := hv'.cell (i := zs.length) (by omega)
    simp at e
    subst e
    rw [hzl] at hbl ⊢
    simp only [List.getLast?_append, List.getLast?_singleton, hzl] at hbits
    simp at hbits
    obtain ⟨n, hn⟩ : ∃ n, zs.length = n := ⟨_, rfl⟩
    rw [hn] at hc hbl hbits ⊢
    go_wp2
    go_loopw [3, 4] (fun v3 v4 W => ∃ k t : Nat, v3 = .int .i64 (k : Int) ∧ v4 = .int .u32 (t : Int) ∧ k + blen t = bits ∧ t < 4294967296 ∧ Below w.heap.size w W) (fun _ v4 _ => (intOf v4).toNat)
    case atStart => exact ⟨32 * n, x, by go_num, rfl, hbits, hx, hb1⟩
    case round =>
      clear hb1 hc
      obtain ⟨k, t, rfl, rfl, hk, ht, hb⟩ := hrel
      by_cases h0 : t = 0
      · subst h0
        rw [blen_zero] at hk
        go_wp2
        go_ret
        exact ⟨by rw [← hk]; rfl, hb⟩
      · have hd : decide (0 < (t : Int)) = true := by simp; omega
        have hb2 := blen_pos h0
        go_wp2
        go_roundw
        case rel => exact ⟨k + 1, t / 2, by go_num, by go_num, by omega, by omega, hb⟩
        case measure => simp [intOf] <;> omega
set_option maxHeartbeats 1000000 in
set_option maxRecDepth 100000 in
theorem LSize_any (v : Value) (xs : List Nat) (w : World) (h : Num v xs w) (hl : xs.length ≤ 1000000) :
    Calls Tryz.prog 14 #[v] w fun e w' => e = .returned (.int .i64 (((bitsL xs + 7) / 8 : Nat) : Int)) ∧ Below w.heap.size w w' := by
  have hbb := bitsL_bound xs h.1
  go_enter Tryz.func14, Tryz.ntmps14
  go_wp2_with fail
  refine (LBits_any _ _ _ h hl).mono ?_
  rintro e w1 ⟨rfl, hb1⟩
  have e1 : (((bitsL xs + 7) / 8 : Nat) : Int) = ((bitsL xs : Int) + 7) / 8 := by omega
  go_wp2
  go_ret
  exact ⟨by rw [e1]; rfl, hb1⟩
end Go.Proofs.YtcebfkhfnjbfjaaGreatDoor
namespace Go.Proofs.YtcebfkhfnjbfjaaGreatDoor
open Go.RowKit
set_option linter.unusedVariables false
set_option linter.unusedSimpArgs false
/-- Byte i of a number, the least first. -/
def byteAt (xs : List Nat) (i : Nat) : Nat := xs.getD (i / 4) 0 / 2 ^ (8 * (i % 4)) % 256
/-- The bytes below i, the greatest first, in so many places. -/
def outAt (xs : List Nat) (many i : Nat) : List UInt8 := (List.range many).map fun j => UInt8.ofNat (if many - 1 - j < i then byteAt xs (many - 1 - j) else 0)
/-- A number as so many bytes; none: it has more. -/
def bytesF (xs : List Nat) (many : Nat) : Option (List UInt8) :=
  if (List.range (4 * xs.length)).all (fun i => decide (i < many) || decide (byteAt xs i = 0)) then some (outAt xs many (4 * xs.length)) else none
/-- How a text with a mark is returned. -/
def optE : Option (List UInt8) → Ending
  | some l => .returned (.tuple #[.string (str l), .bool true])
  | none => .returned (.tuple #[.string (str []), .bool false])
theorem byteAt_lt (xs : List Nat) (i : Nat) : byteAt xs i < 256 := Nat.mod_lt _ (by omega)
theorem outAt_length (xs : List Nat) (many i : Nat) : (outAt xs many i).length = many := by simp [outAt]
theorem outAt_zero (xs : List Nat) (many : Nat) : bs (outAt xs many 0) = List.replicate many (.int .u8 0) := by
  apply List.ext_getElem
  · simp [outAt]
  · intro i h1 h2
    simp [outAt, bs]
theorem outAt_set (xs : List Nat) (many i : Nat) (hi : i < many) : (bs (outAt xs many i)).set (many - 1 - i) (.int .u8 (byteAt xs i : Int)) = bs (outAt xs many (i + 1)) := by
  have hb := byteAt_lt xs i
  apply List.ext_getElem
  · simp [outAt]
  · intro j h1 h2
    have hj : j < many := by simpa [outAt] using h2
    rw [List.getElem_set]
    by_cases e : many - 1 - i = j
    · rw [if_pos e]
      simp only [bs, outAt, List.getElem_map, List.getElem_range]
      rw [if_pos (by omega), show many - 1 - j = i by omega]
      simp [Nat.mod_eq_of_lt hb]
    · rw [if_neg e]
      simp only [bs, outAt, List.getElem_map, List.getElem_range]
      by_cases h3 : many - 1 - j < i
      · rw [if_pos h3, if_pos (by omega)]
      · rw [if_neg h3, if_neg (by omega)]
theorem outAt_over (xs : List Nat) (many i : Nat) (hi : many ≤ i) : outAt xs many (i + 1) = outAt xs many i := by
  simp only [outAt]
  apply List.map_congr_left
  intro j hj
  rw [List.mem_range] at hj
  rw [if_pos (by omega), if_pos (by omega)]
set_option maxHeartbeats 1000000 in
set_option maxRecDepth 100000 in
theorem LBytes_any (v : Value) (xs : List Nat) (many : Nat) (w : World) (h : Num v xs w) (hl : xs.length ≤ 1000000) (hm : many ≤ 1000000) :
    Calls Tryz.prog 13 #[v, .int .i64 (many : Int)] w fun e w' => e = optE (bytesF xs many) ∧ Below w.heap.size w w' := by
  have hbel := Below.refl w.heap.size w
  obtain ⟨a, ca, rfl⟩ := h.len
  obtain ⟨n, hn⟩ : ∃ n, xs.length = n := ⟨_, rfl⟩
  rw [hn] at h hl ⊢
  go_enter Tryz.func13, Tryz.ntmps13
  go_wp2_with (at_make; go_loud (refine wpList_makeL rfl (.tmp 9) (.tmp 9) 22 rfl 5 Tryz.underlying22 info5 rfl .i64 .i64 (many : Int) (many : Int) many rfl rfl rfl rfl (by omega) (by simp only [maxLen]; omega) ?_; intro w1 hown hg1))
  rw [← outAt_zero xs many] at hown
  replace hbel := below_grownNone hbel hg1 (Nat.le_refl _)
  clear hg1
  obtain ⟨O, hO⟩ : ∃ O, O = w.heap.size := ⟨_, rfl⟩
  have hown' : Own w.heap.size 5 (.slice (some ⟨O, 0, none⟩) many many) (bs (outAt xs many 0)) w1 := by rw [hO]; exact hown
  rw [← hO]
  have hBO : w.heap.size ≤ O := by omega
  clear hO hown
  go_loopw [7] (fun v7 W => ∃ i : Nat, v7 = .int .i64 (i : Int) ∧ i ≤ 4 * n ∧ (∀ k, many ≤ k → k < i → byteAt xs k = 0) ∧ Own w.heap.size 5 (.slice (some ⟨O, 0, none⟩) many many) (bs (outAt xs many i)) W ∧ Below w.heap.size w W) (fun v7 _ => (4 * n - intOf v7).toNat)
  case atStart => exact ⟨0, rfl, by omega, fun k h1 h2 => by omega, hown', hbel⟩
  case round =>
    clear hown' hbel
    obtain ⟨i, rfl, hi, hz, hown, hbel⟩ := hrel
    by_cases h1 : i < 4 * n
    · have hd1 : decide ((i : Int) < 4 * (n : Int)) = true := by simp; omega
      have h' := h.below hbel (Nat.le_refl _)
      obtain ⟨g, o, cap, x, e, hc, hx, hxi⟩ := h'.cell (i := i / 4) (by omega)
      simp only [Value.slice.injEq] at e
      obtain ⟨rfl, -, rfl⟩ := e
      have hb : byteAt xs i = x / 2 ^ (8 * (i % 4)) % 256 := by simp [byteAt, List.getD_eq_getElem?_getD, hxi]
      by_cases hc2 : i < many
      · have hd2 : decide ((i : Int) < (many : Int)) = true := by simp; omega
        have ej : ((many : Int) - 1 - (i : Int)) = ((many - 1 - i : Nat) : Int) := by omega
        have hlen := outAt_length xs many i
        obtain ⟨g2, cap2, e, hco, hfo⟩ := hown.get (many - 1 - i) _ (List.getElem?_eq_getElem (by simp [bs, hlen]; omega))
        simp only [Value.slice.injEq, Option.some.injEq, Addr.mk.injEq] at e
        obtain ⟨⟨rfl, -⟩, -, -⟩ := e
        generalize (bs (outAt xs many i))[many - 1 - i]'_ = q at hco
        have hst := outAt_set xs many i hc2
        rw [hb] at hst
        clear hlen
        go_wp2
        go_roundw
        case rel =>
          refine ⟨i + 1, by go_num, by omega, fun k h1 h2 => by omega, ?_, hbel.setCell hBO _⟩
          rw [← hst]
          exact hown.set (many - 1 - i) _ rfl
        case measure => simp [intOf] <;> omega
      · have hd2 : decide ((i : Int) < (many : Int)) = false := by simp; omega
        have hq : (x : Int) / 2 ^ (8 * (i % 4)) % 256 = ((byteAt xs i : Nat) : Int) := by rw [hb]; simp
        by_cases hb0 : byteAt xs i = 0
        · rw [hb0] at hq
          have hov := outAt_over xs many i (by omega)
          go_wp2
          go_roundw
          case rel =>
            refine ⟨i + 1, by go_num, by omega, fun k h1 h2 => ?_, by rw [hov]; exact hown, hbel⟩
            by_cases e : k = i
            · rw [e]; exact hb0
            · exact hz k h1 (by omega)
          case measure => simp [intOf] <;> omega
        · have hF : bytesF xs many = none := by
            unfold bytesF
            rw [if_neg]
            intro hall
            have := List.all_eq_true.1 hall i (List.mem_range.2 (by omega))
            simp at this
            omega
          have hd3 : decide (((byteAt xs i : Nat) : Int) = 0) = false := by simp; exact hb0
          generalize byteAt xs i = bb at hq hb0 hd3
          clear hb
          go_wp2
          go_ret2
          exact ⟨by rw [hF]; rfl, hbel⟩
    · obtain rfl : i = 4 * n := by omega
      have hF : bytesF xs many = some (outAt xs many (4 * n)) := by
        unfold bytesF
        rw [hn, if_pos]
        rw [List.all_eq_true]
        intro k hk
        rw [List.mem_range] at hk
        by_cases hkm : k < many
        · simp [hkm]
        · simp [hz k (by omega) hk]
      have htx := hown.sl.text (P := Tryz.prog) (src := 22) (dst := 9) Tryz.underlying22 Tryz.underlying5 Tryz.underlying9 _ rfl
      go_wp2
      go_ret2
      exact ⟨by rw [hF]; rfl, hbel⟩
end Go.Proofs.YtcebfkhfnjbfjaaGreatDoor
namespace Go.Proofs.YtcebfkhfnjbfjaaGreatDoor
open Go.RowKit
set_option linter.unusedVariables false
set_option linter.unusedSimpArgs false
/-- What a digit is worth. -/
def digitF (c : Nat) : Option Nat := if 48 ≤ c ∧ c ≤ 57 then some (c - 48) else if 97 ≤ c ∧ c ≤ 102 then some (c - 97 + 10) else none
/-- A byte, and one more digit. -/
def nibF (x d : Nat) : Nat := (Go.bits .or .u8 ((x : Int) * 16 % 256) (d : Int)).toNat % 256
/-- The byte in place j, when i digits are read. -/
def hexByte (l : List UInt8) (i j : Nat) : Nat :=
  let d (k : Nat) : Nat := (digitF (l.getD k 0).toNat).getD 0
  if 2 * j + 1 < i then nibF (nibF 0 (d (2 * j))) (d (2 * j + 1)) else if 2 * j < i then nibF 0 (d (2 * j)) else 0
def hexAt (l : List UInt8) (i : Nat) : List UInt8 := (List.range (l.length / 2)).map fun j => UInt8.ofNat (hexByte l i j)
/-- The bytes that hexadecimal digits are. -/
def hexF (l : List UInt8) : Option (List UInt8) :=
  if l.length % 2 = 0 ∧ l.all (fun c => (digitF c.toNat).isSome) = true then some (hexAt l l.length) else none
theorem hexF_length {l r : List UInt8} (h : hexF l = some r) : r.length = l.length / 2 := by
  unfold hexF at h
  split at h
  · simp at h; rw [← h]; simp [hexAt]
  · cases h
theorem hexByte_lt (l : List UInt8) (i j : Nat) : hexByte l i j < 256 := by
  unfold hexByte
  dsimp only
  split
  · exact Nat.mod_lt _ (by omega)
  · split
    · exact Nat.mod_lt _ (by omega)
    · omega
theorem hexAt_zero (l : List UInt8) : bs (hexAt l 0) = List.replicate (l.length / 2) (.int .u8 0) := by
  apply List.ext_getElem
  · simp [hexAt]
  · intro i h1 h2
    simp [hexAt, hexByte, bs]
theorem hexByte_step (l : List UInt8) (i d : Nat) (hd : digitF (l.getD i 0).toNat = some d) : hexByte l (i + 1) (i / 2) = nibF (hexByte l i (i / 2)) d := by
  unfold hexByte
  dsimp only
  rcases Nat.mod_two_eq_zero_or_one i with h | h
  · have e : 2 * (i / 2) = i := by omega
    rw [e, if_neg (by omega), if_pos (by omega), if_neg (by omega), if_neg (by omega), hd]
    rfl
  · have e : 2 * (i / 2) + 1 = i := by omega
    rw [e, if_pos (by omega), if_neg (by omega), if_pos (by omega), hd]
    rfl
theorem hexByte_other (l : List UInt8) (i j : Nat) (hj : j ≠ i / 2) : hexByte l (i + 1) j = hexByte l i j := by
  unfold hexByte
  dsimp only
  by_cases h1 : 2 * j + 1 < i
  · rw [if_pos h1, if_pos (by omega)]
  · rw [if_neg h1, if_neg (by omega)]
    by_cases h2 : 2 * j < i
    · exfalso; omega
    · rw [if_neg h2, if_neg (by omega)]
theorem hexAt_set (l : List UInt8) (i d : Nat) (hi : i < l.length) (hev : l.length % 2 = 0) (hd : digitF (l.getD i 0).toNat = some d) : (bs (hexAt l i)).set (i / 2) (.int .u8 (nibF (hexByte l i (i / 2)) d : Int)) = bs (hexAt l (i + 1)) := by
  apply List.ext_getElem
  · simp [hexAt]
  · intro j h1 h2
    have hlt := hexByte_lt l (i + 1) j
    rw [List.getElem_set]
    by_cases e : i / 2 = j
    · rw [if_pos e]
      simp only [bs, hexAt, List.getElem_map, List.getElem_range]
      subst e
      rw [← hexByte_step l i d hd]
      simp [Nat.mod_eq_of_lt hlt]
    · rw [if_neg e]
      simp only [bs, hexAt, List.getElem_map, List.getElem_range]
      rw [hexByte_other l i j (fun e' => e e'.symm)]
theorem bits_u8 (op : BinOp) (a b : Int) : 0 ≤ Go.bits op .u8 a b ∧ Go.bits op .u8 a b < 256 := by
  unfold Go.bits
  rw [IntKind.wrap_u8]
  omega
theorem nibF_eq (bb d : Nat) {a b : Int} (ha : a = (bb : Int) * 16 % 256) (hb : b = (d : Int)) : Go.bits .or .u8 a b = ((nibF bb d : Nat) : Int) := by
  subst ha hb
  have := bits_u8 .or ((bb : Int) * 16 % 256) (d : Int)
  unfold nibF
  omega
/-- A byte of a text: a fact for the walk. -/
theorem str_at {P : Program} {ty : TypeId} (hu : P.underlying ty = some .string) (l : List UInt8) (k : IntKind) (i : Nat) (hi : i < l.length) :
    ∀ W, Sem.run P (Instr.index ty (.string (str l)) (.int k (i : Int))) W = .ok (.int .u8 (((l.getD i 0).toNat : Nat) : Int)) W := fun W => by
  have hlt : i < (str l).size := by rw [str_size]; exact hi
  have he : (str l)[i] = l.getD i 0 := by
    rw [List.getD_eq_getElem?_getD, List.getElem?_eq_getElem hi]
    show (str l).data[i] = _
    simp [str]
  simp [Instr.index, asIntOf, run_underlying hu, hlt, he]
set_option maxHeartbeats 1000000 in
set_option maxRecDepth 100000 in
theorem LHex_any (l : List UInt8) (w : World) (hl : l.length ≤ 1000000) :
    Calls Tryz.prog 25 #[.string (str l)] w fun e w' => e = optE (hexF l) ∧ Below w.heap.size w w' := by
  have hbel := Below.refl w.heap.size w
  have hsz := str_size l
  obtain ⟨n, hn⟩ : ∃ n, l.length = n := ⟨_, rfl⟩
  rw [hn] at hl hsz
  by_cases hodd : n % 2 = 0
  · have hd0 : decide ((n : Int) % 2 = 0) = true := by simp; omega
    have hq : (n : Int) % 2 = 0 := by omega
    go_enter Tryz.func25, Tryz.ntmps25
    go_wp2_with (at_make; go_loud (refine wpList_makeL rfl (.tmp 14) (.tmp 14) 22 rfl 5 Tryz.underlying22 info5 rfl .i64 .i64 ((n : Int) / 2) ((n : Int) / 2) (n / 2) rfl rfl (by omega) (by omega) (by omega) (by simp only [maxLen]; omega) ?_; intro w1 hown hg1))
    have hz := hexAt_zero l
    rw [hn] at hz
    rw [← hz] at hown
    replace hbel := below_grownNone hbel hg1 (Nat.le_refl _)
    clear hg1 hz
    obtain ⟨O, hO⟩ : ∃ O, O = w.heap.size := ⟨_, rfl⟩
    have hown' : Own w.heap.size 5 (.slice (some ⟨O, 0, none⟩) (n / 2) (n / 2)) (bs (hexAt l 0)) w1 := by rw [hO]; exact hown
    rw [← hO]
    have hBO : w.heap.size ≤ O := by omega
    clear hO hown
    go_loopw [5] (fun v5 W => ∃ i : Nat, v5 = .int .i64 (i : Int) ∧ i ≤ n ∧ (∀ k, k < i → (digitF (l.getD k 0).toNat).isSome = true) ∧ Own w.heap.size 5 (.slice (some ⟨O, 0, none⟩) (n / 2) (n / 2)) (bs (hexAt l i)) W ∧ Below w.heap.size w W) (fun v5 _ => (n - intOf v5).toNat)
    case atStart => exact ⟨0, rfl, by omega, fun k h => by omega, hown', hbel⟩
    case round =>
      clear hown' hbel
      obtain ⟨i, rfl, hi, hdig, hown, hbel⟩ := hrel
      by_cases h1 : i < n
      · have hd1 : decide ((i : Int) < (n : Int)) = true := by simp; omega
        have hix := str_at (P := Tryz.prog) Tryz.underlying9 l .i64 i (by omega)
        have hst := fun d => hexAt_set l i d (by omega) (by omega)
        have hlen : (hexAt l i).length = n / 2 := by simp [hexAt, hn]
        have hcel := hown.get (i / 2) (.int .u8 (hexByte l i (i / 2) : Int)) (by
          have := hexByte_lt l i (i / 2)
          simp only [bs, hexAt, List.getElem?_map]
          rw [List.getElem?_range (by omega)]
          simp [Nat.mod_eq_of_lt this])
        obtain ⟨g, cap, e, hc, hf⟩ := hcel
        simp only [Value.slice.injEq, Option.some.injEq, Addr.mk.injEq] at e
        obtain ⟨⟨rfl, -⟩, -, -⟩ := e
        have hbb := hexByte_lt l i (i / 2)
        generalize hexByte l i (i / 2) = bb at hc hst hbb
        have hdi : ∀ k, k < i + 1 → k ≠ i → (digitF (l.getD k 0).toNat).isSome = true := fun k h1 h2 => hdig k (by omega)
        have hcl : (l.getD i 0).toNat < 256 := (l.getD i 0).toNat_lt
        have hFn : digitF (l.getD i 0).toNat = none → hexF l = none := fun h => by
          unfold hexF
          rw [if_neg]
          intro hall
          have := List.all_eq_true.1 hall.2 (l.getD i 0) (by rw [List.getD_eq_getElem?_getD, List.getElem?_eq_getElem (by omega)]; exact List.getElem_mem _)
          rw [h] at this
          simp at this
        clear hlen
        have hdc : ∀ d, digitF (l.getD i 0).toNat = some d → ∀ k, k < i + 1 → (digitF (l.getD k 0).toNat).isSome = true := fun d h k hk => by
          by_cases e : k = i
          · rw [e, h]; rfl
          · exact hdi k hk e
        generalize (l.getD i 0).toNat = c at hix hst hcl hFn hdc
        by_cases hc1 : 48 ≤ c ∧ c ≤ 57
        · have hdg : digitF c = some (c - 48) := by unfold digitF; rw [if_pos hc1]
          have hst' := hst _ hdg
          have hdc' := hdc _ hdg
          have k1 : decide ((48 : Int) ≤ (c : Int)) = true := by simp; omega
          have k2 : decide ((c : Int) ≤ 57) = true := by simp; omega
          have k3 : ((c : Int) - 48) % 256 = ((c - 48 : Nat) : Int) := by omega
          clear hst hFn hdc hdg
          go_wp2
          go_roundw
          case rel =>
            refine ⟨i + 1, by go_num, by omega, hdc', ?_, hbel.setCell hBO _⟩
            rw [← hst', ← nibF_eq bb (c - 48) rfl (by omega : (c : Int) - 48 = _)]
            exact hown.set (i / 2) _ rfl
          case measure => simp [intOf] <;> omega
        · by_cases hc2 : 97 ≤ c ∧ c ≤ 102
          · have hdg : digitF c = some (c - 97 + 10) := by unfold digitF; rw [if_neg hc1, if_pos hc2]
            have hst' := hst _ hdg
            have hdc' := hdc _ hdg
            have k1 : decide ((48 : Int) ≤ (c : Int)) = true := by simp; omega
            have k2 : decide ((c : Int) ≤ 57) = false := by simp; omega
            have k3 : decide ((97 : Int) ≤ (c : Int)) = true := by simp; omega
            have k4 : decide ((c : Int) ≤ 102) = true := by simp; omega
            clear hst hFn hdc hdg
            go_wp2
            go_roundw
            case rel =>
              refine ⟨i + 1, by go_num, by omega, hdc', ?_, hbel.setCell hBO _⟩
              rw [← hst', ← nibF_eq bb (c - 97 + 10) rfl (by omega : (c : Int) - 97 + 10 = _)]
              exact hown.set (i / 2) _ rfl
            case measure => simp [intOf] <;> omega
          · have hF : hexF l = none := hFn (by unfold digitF; rw [if_neg hc1, if_neg hc2])
            clear hst hFn hdc
            by_cases b1 : 48 ≤ c
            · have k1 : decide ((48 : Int) ≤ (c : Int)) = true := by simp; omega
              have k2 : decide ((c : Int) ≤ 57) = false := by simp; omega
              by_cases b2 : 97 ≤ c
              · have k3 : decide ((97 : Int) ≤ (c : Int)) = true := by simp; omega
                have k4 : decide ((c : Int) ≤ 102) = false := by simp; omega
                go_wp2
                go_ret2
                exact ⟨by rw [hF]; rfl, hbel⟩
              · have k3 : decide ((97 : Int) ≤ (c : Int)) = false := by simp; omega
                go_wp2
                go_ret2
                exact ⟨by rw [hF]; rfl, hbel⟩
            · have k1 : decide ((48 : Int) ≤ (c : Int)) = false := by simp; omega
              have k3 : decide ((97 : Int) ≤ (c : Int)) = false := by simp; omega
              go_wp2
              go_ret2
              exact ⟨by rw [hF]; rfl, hbel⟩
      · obtain rfl : i = n := by omega
        have hall : l.all (fun c => (digitF c.toNat).isSome) = true := by
          rw [List.all_eq_true]
          intro c hc
          obtain ⟨k, hk, rfl⟩ := List.getElem_of_mem hc
          have := hdig k (by omega)
          rw [List.getD_eq_getElem?_getD, List.getElem?_eq_getElem hk] at this
          exact this
        have hF : hexF l = some (hexAt l i) := by
          unfold hexF
          rw [if_pos ⟨by omega, hall⟩, hn]
        have htx := hown.sl.text (P := Tryz.prog) (src := 22) (dst := 9) Tryz.underlying22 Tryz.underlying5 Tryz.underlying9 _ rfl
        go_wp2
        go_ret2
        exact ⟨by rw [hF]; rfl, hbel⟩
  · have hd0 : decide ((n : Int) % 2 = 0) = false := by simp; omega
    have hF : hexF l = none := by
      unfold hexF
      rw [if_neg]
      rw [hn]
      intro h
      exact hodd h.1
    have hq : (n : Int) % 2 = 1 := by omega
    go_enter Tryz.func25, Tryz.ntmps25
    go_wp2
    go_ret2
    exact ⟨by rw [hF]; rfl, hbel⟩
end Go.Proofs.YtcebfkhfnjbfjaaGreatDoor
namespace Go.Proofs.YtcebfkhfnjbfjaaGreatDoor
open Go.RowKit
set_option linter.unusedVariables false
set_option linter.unusedSimpArgs false
theorem str_extract (l : List UInt8) (i j : Nat) : (str l).extract i j = str ((l.take j).drop i) := by
  apply ByteArray.ext
  apply Array.toList_inj.1
  rw [ByteArray.data_extract]
  simp [str, List.drop_take]
theorem str_append (a b : List UInt8) : str a ++ str b = str (a ++ b) := by
  apply ByteArray.ext
  apply Array.toList_inj.1
  rw [ByteArray.data_append]
  simp [str]
theorem str_eq {a b : List UInt8} : str a = str b ↔ a = b := ⟨str_inj, fun h => by rw [h]⟩
theorem toList_str (l : List UInt8) : (str l).toList = l := by
  rw [ByteArray.toList_eq]
  simp [str]
/-- Is the text this one? -/
theorem text_is {s : ByteArray} {l : List UInt8} (k : List UInt8) (h : str l = s) : (s.toList == k) = decide (l = k) := by
  subst h
  rw [toList_str]
  by_cases e : l = k <;> simp [e]
section
variable {P : Program} {ty : TypeId} (hu : P.underlying ty = some .string) (l : List UInt8)
include hu
theorem str_take (k : IntKind) (i : Nat) (hi : i ≤ l.length) : ∀ W, Sem.run P (Instr.slice ty (.string (str l)) none (some (.int k (i : Int))) none) W = .ok (.string (str (l.take i))) W := fun W => by
  have hs := str_size l
  rw [run_slice_string_to_if W ty (str l) k i hu, if_pos (by omega), str_extract]
  simp
theorem str_drop (k : IntKind) (i : Nat) (hi : i ≤ l.length) : ∀ W, Sem.run P (Instr.slice ty (.string (str l)) (some (.int k (i : Int))) none none) W = .ok (.string (str (l.drop i))) W := fun W => by
  have hs := str_size l
  rw [run_slice_string_from_if W ty (str l) k i hu, if_pos (by omega), str_extract, hs]
  simp
theorem str_mid (k k' : IntKind) (i j : Nat) (hij : i ≤ j) (hj : j ≤ l.length) : ∀ W, Sem.run P (Instr.slice ty (.string (str l)) (some (.int k (i : Int))) (some (.int k' (j : Int))) none) W = .ok (.string (str ((l.take j).drop i))) W := fun W => by
  have hs := str_size l
  rw [run_slice_string W ty (str l) k k' i j hu (by omega) (by omega) (by omega), str_extract]
  simp
end
/-- One more byte in an owned slice of bytes. -/
theorem Own.byteEnd {base : Nat} {v : Value} {r : List UInt8} {w : World} {z : Int} {c : UInt8} (h : Own base 5 v (bs r ++ [.int .u8 z]) w) (e : z = ((c.toNat : Nat) : Int)) : Own base 5 v (bs (r ++ [c])) w := by
  subst e
  simpa [bs] using h
/-- One more text in an owned slice of texts. -/
theorem Own.strEnd {base : Nat} {v : Value} {r : List (List UInt8)} {w : World} {s : List UInt8} (h : Own base 9 v (strs r ++ [.string (str s)]) w) : Own base 9 v (strs (r ++ [s])) w := by
  simpa [strs] using h
end Go.Proofs.YtcebfkhfnjbfjaaGreatDoor
