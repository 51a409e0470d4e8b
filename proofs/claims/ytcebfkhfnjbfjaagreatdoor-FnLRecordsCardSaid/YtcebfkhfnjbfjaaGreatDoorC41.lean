/- The plain law of the numbers: words, their bits, their bytes. -/
import Derived.Test.YtcebfkhfnjbfjaaGreatDoorC40
import Derived.Test.YtcebfkhfnjbfjaaGreatDoorC28
import Derived.Test.YtcebfkhfnjbfjaaGreatDoorC35
namespace Go.Proofs.YtcebfkhfnjbfjaaGreatDoor
open Go.RowKit
set_option linter.unusedVariables false
set_option linter.unusedSimpArgs false
/-- What a number of words is worth. -/
def valL : List Nat → Nat
  | [] => 0
  | x :: r => x + 4294967296 * valL r
theorem blen_bounds : ∀ (k x : Nat), x ≤ k → x ≠ 0 → 0 < blen x ∧ 2 ^ (blen x - 1) ≤ x ∧ x < 2 ^ blen x
  | 0, x, h, hx => by omega
  | k + 1, x, h, hx => by
    rw [blen_pos hx]
    by_cases h2 : x / 2 = 0
    · rw [h2, blen_zero]
      refine ⟨by omega, ?_, ?_⟩ <;> simp <;> omega
    · obtain ⟨h3, h4, h5⟩ := blen_bounds k (x / 2) (by omega) h2
      obtain ⟨q, hq⟩ : ∃ q, blen (x / 2) = q + 1 := ⟨blen (x / 2) - 1, by omega⟩
      rw [hq] at h4 h5 ⊢
      simp only [Nat.add_sub_cancel] at h4 ⊢
      rw [Nat.pow_succ] at h5 ⊢
      refine ⟨by omega, ?_, ?_⟩
      · omega
      · rw [Nat.pow_succ] at *; omega
theorem valL_append (xs ys : List Nat) : valL (xs ++ ys) = valL xs + 2 ^ (32 * xs.length) * valL ys := by
  induction xs with
  | nil => simp [valL]
  | cons x r ih =>
    rw [List.cons_append, valL, valL, ih, List.length_cons, Nat.mul_add, ← Nat.mul_assoc, show 32 * (r.length + 1) = 32 + 32 * r.length by omega, Nat.pow_add]
    rw [show (2 : Nat) ^ 32 = 4294967296 from rfl, Nat.add_assoc]
theorem valL_lt (xs : List Nat) (h : ∀ x ∈ xs, x < 4294967296) : valL xs < 2 ^ (32 * xs.length) := by
  induction xs with
  | nil => simp [valL]
  | cons x r ih =>
    have h1 := ih fun y hy => h y (List.mem_cons_of_mem _ hy)
    have h2 := h x List.mem_cons_self
    rw [valL, List.length_cons, show 32 * (r.length + 1) = 32 + 32 * r.length by omega, Nat.pow_add, show (2 : Nat) ^ 32 = 4294967296 from rfl]
    have : 4294967296 * (valL r + 1) ≤ 4294967296 * 2 ^ (32 * r.length) := Nat.mul_le_mul_left _ h1
    omega
theorem valL_bare (xs : List Nat) : valL (bareL xs) = valL xs := by
  generalize hn : xs.length = n
  induction n generalizing xs with
  | zero =>
    obtain rfl := List.length_eq_zero_iff.1 hn
    rfl
  | succ n ih =>
    rcases List.eq_nil_or_concat xs with rfl | ⟨ys, x, rfl⟩
    · simp at hn
    · rw [List.concat_eq_append] at hn ⊢
      by_cases hx : x = 0
      · subst hx
        rw [bareL_zero, ih ys (by simpa using hn), valL_append]
        simp [valL]
      · rw [bareL_last _ _ hx]
theorem bitsL_val (xs : List Nat) (h : ∀ x ∈ xs, x < 4294967296) : valL xs < 2 ^ bitsL xs ∧ (0 < bitsL xs → 2 ^ (bitsL xs - 1) ≤ valL xs) := by
  rw [← valL_bare xs]
  unfold bitsL
  have hsub : ∀ x ∈ bareL xs, x < 4294967296 := fun x hx => by
    refine h x ?_
    simp only [bareL, List.mem_reverse] at hx
    have := (List.dropWhile_sublist (l := xs.reverse) (· == 0)).subset hx
    simpa using this
  have hlast : ∀ ys x, bareL xs = ys ++ [x] → x ≠ 0 := fun ys x e => by
    intro hx
    subst hx
    have e' : xs.reverse.dropWhile (· == 0) = 0 :: ys.reverse := by
      have := congrArg List.reverse e
      simpa [bareL] using this
    have := List.head?_dropWhile_not (· == (0 : Nat)) xs.reverse
    rw [e'] at this
    simp at this
  rcases List.eq_nil_or_concat (bareL xs) with e | ⟨ys, x, e⟩
  · rw [e]; simp [valL]
  · rw [List.concat_eq_append] at e
    have hx := hlast ys x e
    have hx2 := hsub x (by rw [e]; simp)
    have hys := valL_lt ys fun y hy => hsub y (by rw [e]; simp [hy])
    obtain ⟨b0, b1, b2⟩ := blen_bounds x x (Nat.le_refl _) hx
    rw [e]
    simp only [List.getLast?_append, List.getLast?_singleton, Option.or_some, Option.some_or, List.length_append, List.length_cons, List.length_nil, Nat.zero_add, Nat.add_sub_cancel]
    rw [valL_append]
    simp only [valL, Nat.mul_zero, Nat.add_zero]
    generalize 32 * ys.length = m at *
    refine ⟨?_, fun _ => ?_⟩
    · rw [Nat.pow_add]
      have : 2 ^ m * (x + 1) ≤ 2 ^ m * 2 ^ blen x := Nat.mul_le_mul_left _ b2
      rw [Nat.mul_add] at this
      omega
    · rw [show m + blen x - 1 = m + (blen x - 1) by omega, Nat.pow_add]
      have : 2 ^ m * 2 ^ (blen x - 1) ≤ 2 ^ m * x := Nat.mul_le_mul_left _ b1
      omega
theorem byteAt_val : ∀ (xs : List Nat) (i : Nat), (∀ x ∈ xs, x < 4294967296) → byteAt xs i = valL xs / 2 ^ (8 * i) % 256
  | [], i, _ => by simp [byteAt, valL]
  | x :: r, i, h => by
    have hx := h x List.mem_cons_self
    by_cases hi : i < 4
    · have e1 : byteAt (x :: r) i = x / 2 ^ (8 * i) % 256 := by
        unfold byteAt
        rw [show i / 4 = 0 by omega, show i % 4 = i by omega]
        rfl
      rw [e1, valL]
      obtain ⟨q, hq⟩ : ∃ q, 32 - 8 * i = q + 8 := ⟨32 - 8 * i - 8, by omega⟩
      have e2 : 4294967296 * valL r = 2 ^ (8 * i) * (256 * (2 ^ q * valL r)) := by
        rw [← Nat.mul_assoc, ← Nat.mul_assoc]
        congr 1
        rw [show (256 : Nat) = 2 ^ 8 from rfl, ← Nat.pow_add, ← Nat.pow_add, show 8 * i + 8 + q = 32 by omega]
      rw [e2, Nat.add_mul_div_left _ _ (Nat.pow_pos (by omega)), Nat.add_mul_mod_self_left]
    · have e1 : byteAt (x :: r) i = byteAt r (i - 4) := by
        unfold byteAt
        rw [show i / 4 = (i - 4) / 4 + 1 by omega, show i % 4 = (i - 4) % 4 by omega]
        rfl
      rw [e1, byteAt_val r (i - 4) fun y hy => h y (List.mem_cons_of_mem _ hy), valL]
      rw [show 8 * i = 32 + 8 * (i - 4) by omega, Nat.pow_add, ← Nat.div_div_eq_div_mul, show (2 : Nat) ^ 32 = 4294967296 from rfl, Nat.add_mul_div_left _ _ (by omega), Nat.div_eq_of_lt hx, Nat.zero_add]
/-- The bytes of a number, the greatest first. -/
def beF (V : Nat) : Nat → List UInt8
  | 0 => []
  | m + 1 => UInt8.ofNat (V / 2 ^ (8 * m) % 256) :: beF V m
theorem beF_length (V : Nat) : ∀ m, (beF V m).length = m
  | 0 => rfl
  | m + 1 => by rw [beF, List.length_cons, beF_length V m]
theorem beF_at (V : Nat) : ∀ m i, i < m → (beF V m)[i]? = some (UInt8.ofNat (V / 2 ^ (8 * (m - 1 - i)) % 256))
  | 0, i, h => by omega
  | m + 1, 0, _ => by simp [beF]
  | m + 1, i + 1, h => by
    rw [beF, List.getElem?_cons_succ, beF_at V m i (by omega), show m + 1 - 1 - (i + 1) = m - 1 - i by omega]
theorem bytesF_be (xs : List Nat) (h : ∀ x ∈ xs, x < 4294967296) (m : Nat) (hm : valL xs < 2 ^ (8 * m)) : bytesF xs m = some (beF (valL xs) m) := by
  have hbig : ∀ i, m ≤ i → byteAt xs i = 0 := fun i hi => by
    rw [byteAt_val xs i h, Nat.div_eq_of_lt (Nat.lt_of_lt_of_le hm (Nat.pow_le_pow_right (by omega) (by omega)))]
  unfold bytesF
  rw [if_pos (List.all_eq_true.2 fun i _ => by
    by_cases hi : i < m
    · simp [hi]
    · simp [hbig i (by omega)])]
  congr 1
  apply List.ext_getElem?
  intro i
  by_cases hi : i < m
  · rw [beF_at _ m i hi]
    simp only [outAt, List.getElem?_map, List.getElem?_range hi, Option.map_some]
    congr 2
    split
    · rw [byteAt_val xs _ h]
    · rename_i hlt
      have : byteAt xs (m - 1 - i) = 0 := by
        unfold byteAt
        rw [List.getD_eq_getElem?_getD, List.getElem?_eq_none (by omega)]
        simp
      rw [byteAt_val xs _ h] at this
      exact this.symm
  · rw [List.getElem?_eq_none (by rw [outAt_length]; omega), List.getElem?_eq_none (by rw [beF_length]; omega)]
theorem accF_shift (V : Nat) (m : Nat) : ∀ k, k ≤ m → accF (beF V m) k = V / 2 ^ (8 * (m - k)) % 2 ^ (8 * k)
  | 0, _ => by simp [accF, Nat.mod_one]
  | k + 1, hk => by
    rw [accF, accF_shift V m k (by omega)]
    have e : (beF V m).getD k 0 = UInt8.ofNat (V / 2 ^ (8 * (m - 1 - k)) % 256) := by
      rw [List.getD_eq_getElem?_getD, beF_at V m k (by omega)]
      rfl
    rw [e, UInt8.toNat_ofNat_of_lt' (Nat.mod_lt _ (by decide))]
    obtain ⟨r, hr⟩ : ∃ r, m - (k + 1) = r := ⟨_, rfl⟩
    rw [show m - k = r + 1 by omega, show m - 1 - k = r by omega, hr, show 8 * (r + 1) = 8 * r + 8 by omega, Nat.pow_add, ← Nat.div_div_eq_div_mul]
    generalize V / 2 ^ (8 * r) = Y
    rw [show 8 * (k + 1) = 8 + 8 * k by omega, Nat.pow_add, Nat.mod_mul]
    show Y / 256 % 2 ^ (8 * k) * 256 + Y % 256 = Y % 256 + 256 * (Y / 256 % 2 ^ (8 * k))
    omega
theorem accF_be (V m : Nat) (h : V < 2 ^ (8 * m)) : accF (beF V m) (beF V m).length = V := by
  rw [beF_length, accF_shift V m m (Nat.le_refl _)]
  simp [Nat.mod_eq_of_lt h]
theorem beF_head (V m : Nat) (h : V < 2 ^ (8 * m + 8)) : ((beF V (m + 1)).getD 0 0).toNat = V / 2 ^ (8 * m) := by
  have : V / 2 ^ (8 * m) < 256 := by
    rw [Nat.div_lt_iff_lt_mul (Nat.pow_pos (by omega)), show (256 : Nat) = 2 ^ 8 from rfl, ← Nat.pow_add]
    rwa [show 8 + 8 * m = 8 * m + 8 by omega]
  show (UInt8.ofNat (V / 2 ^ (8 * m) % 256)).toNat = _
  rw [Nat.mod_eq_of_lt this, UInt8.toNat_ofNat_of_lt' this]
theorem goodI_be (V B : Nat) (h1 : V < 2 ^ B) (h2 : 0 < B → 2 ^ (B - 1) ≤ V) : GoodI (beF V (B / 8 + 1)) := by
  obtain ⟨m, hm⟩ : ∃ m, B / 8 = m := ⟨_, rfl⟩
  rw [hm]
  have hV : V < 2 ^ (8 * m + 8) := Nat.lt_of_lt_of_le h1 (Nat.pow_le_pow_right (by omega) (by omega))
  have hh := beF_head V m hV
  refine ⟨by simp [beF_length], ?_, fun hl hz => ?_⟩
  · rw [hh, Nat.div_lt_iff_lt_mul (Nat.pow_pos (by omega)), show (128 : Nat) = 2 ^ 7 from rfl, ← Nat.pow_add]
    exact Nat.lt_of_lt_of_le h1 (Nat.pow_le_pow_right (by omega) (by omega))
  · rw [beF_length] at hl
    rw [hh] at hz
    have hlt : V < 2 ^ (8 * m) := by
      rcases Nat.div_eq_zero_iff.1 hz with h | h
      · exact absurd h (Nat.ne_of_gt (Nat.pow_pos (by omega)))
      · exact h
    have hB : B = 8 * m := by
      by_cases e : 8 * m < B
      · have := h2 (by omega)
        have h3 : 2 ^ (8 * m) ≤ 2 ^ (B - 1) := Nat.pow_le_pow_right (by omega) (by omega)
        omega
      · omega
    subst hB
    obtain ⟨q, rfl⟩ : ∃ q, m = q + 1 := ⟨m - 1, by omega⟩
    show 128 ≤ ((beF V (q + 1)).getD 0 0).toNat
    rw [beF_head V q (by rw [show 8 * q + 8 = 8 * (q + 1) by omega]; exact hlt), Nat.le_div_iff_mul_le (Nat.pow_pos (by omega)), show (128 : Nat) = 2 ^ 7 from rfl, ← Nat.pow_add]
    have := h2 (by omega)
    rwa [show 8 * (q + 1) - 1 = 7 + 8 * q by omega] at this
theorem bareB_be (V B : Nat) (h1 : V < 2 ^ B) (hB : 0 < B) (h2 : 2 ^ (B - 1) ≤ V) : bareB (beF V (B / 8 + 1)) = beF V ((B + 7) / 8) := by
  have key : ∀ m, 8 * m < B → B ≤ 8 * m + 8 → bareB (beF V (m + 1)) = beF V (m + 1) := fun m hm1 hm2 => by
    have hV : V < 2 ^ (8 * m + 8) := Nat.lt_of_lt_of_le h1 (Nat.pow_le_pow_right (by omega) (by omega))
    have hh := beF_head V m hV
    have hp : 2 ^ (8 * m) ≤ V := Nat.le_trans (Nat.pow_le_pow_right (by omega) (by omega)) h2
    have hpos : 0 < V / 2 ^ (8 * m) := Nat.div_pos hp (Nat.pow_pos (by omega))
    rw [← hh] at hpos
    rw [beF] at hpos ⊢
    unfold bareB
    rw [List.dropWhile_cons, if_neg]
    simp only [List.getD_cons_zero] at hpos
    intro e
    rw [eq_of_beq e] at hpos
    exact absurd hpos (by decide)
  by_cases e : B % 8 = 0
  · obtain ⟨m, hm⟩ : ∃ m, B = 8 * m + 8 := ⟨B / 8 - 1, by omega⟩
    rw [show (B + 7) / 8 = m + 1 by omega, show B / 8 + 1 = (m + 1) + 1 by omega, beF]
    have hz : V / 2 ^ (8 * (m + 1)) = 0 := Nat.div_eq_of_lt (by rw [show 8 * (m + 1) = B by omega]; exact h1)
    rw [hz]
    show bareB ((0 : UInt8) :: beF V (m + 1)) = _
    unfold bareB
    rw [List.dropWhile_cons, if_pos (by decide)]
    exact key m (by omega) (by omega)
  · obtain ⟨m, hm⟩ : ∃ m, B / 8 = m := ⟨_, rfl⟩
    rw [show (B + 7) / 8 = m + 1 by omega, hm]
    exact key m (by omega) (by omega)
theorem bits_be (V B : Nat) (h1 : V < 2 ^ B) (hB : 0 < B) (h2 : 2 ^ (B - 1) ≤ V) : ∀ e, BitsE (beF V ((B + 7) / 8)) e → e = .returned (.int .i64 (B : Int)) := by
  rintro e ⟨j, hj1, hj2, rfl⟩
  obtain ⟨m, hm⟩ : ∃ m, (B + 7) / 8 = m + 1 := ⟨(B + 7) / 8 - 1, by omega⟩
  rw [hm] at hj1 hj2 ⊢
  have hV : V < 2 ^ (8 * m + 8) := Nat.lt_of_lt_of_le h1 (Nat.pow_le_pow_right (by omega) (by omega))
  rw [beF_head V m hV] at hj1 hj2
  rw [beF_length]
  obtain ⟨r, hr⟩ : ∃ r, B = 8 * m + (r + 1) := ⟨B - 8 * m - 1, by omega⟩
  have d1 : 2 ^ r ≤ V / 2 ^ (8 * m) := by
    rw [Nat.le_div_iff_mul_le (Nat.pow_pos (by omega)), ← Nat.pow_add]
    rwa [show B - 1 = r + 8 * m by omega] at h2
  have d2 : V / 2 ^ (8 * m) < 2 ^ (r + 1) := by
    rw [Nat.div_lt_iff_lt_mul (Nat.pow_pos (by omega)), ← Nat.pow_add]
    rwa [show B = r + 1 + 8 * m by omega] at h1
  generalize V / 2 ^ (8 * m) = d at *
  have e1 : r + j < 8 := by
    have : 2 ^ (r + j) < 2 ^ 8 := by
      rw [Nat.pow_add]
      exact Nat.lt_of_le_of_lt (Nat.mul_le_mul_right _ d1) hj2
    exact (Nat.pow_lt_pow_iff_right (by omega)).1 this
  have e2 : 7 < r + 1 + j := by
    have : 2 ^ 7 < 2 ^ (r + 1 + j) := by
      rw [Nat.pow_add]
      exact Nat.lt_of_le_of_lt hj1 (Nat.mul_lt_mul_of_pos_right d2 (Nat.pow_pos (by omega)))
    exact (Nat.pow_lt_pow_iff_right (by omega)).1 this
  congr 3
  omega
/-- The modulus in its bytes. -/
def cnF (xs : List Nat) : List UInt8 := (bytesF xs (bitsL xs / 8 + 1)).getD []
def modF (xs : List Nat) : List UInt8 := (bytesF xs ((bitsL xs + 7) / 8)).getD []
theorem cnF_be (xs : List Nat) (h : ∀ x ∈ xs, x < 4294967296) : cnF xs = beF (valL xs) (bitsL xs / 8 + 1) := by
  unfold cnF
  rw [bytesF_be xs h _ (Nat.lt_of_lt_of_le (bitsL_val xs h).1 (Nat.pow_le_pow_right (by omega) (by omega)))]
  rfl
theorem modF_be (xs : List Nat) (h : ∀ x ∈ xs, x < 4294967296) : modF xs = beF (valL xs) ((bitsL xs + 7) / 8) := by
  unfold modF
  rw [bytesF_be xs h _ (Nat.lt_of_lt_of_le (bitsL_val xs h).1 (Nat.pow_le_pow_right (by omega) (by omega)))]
  rfl
theorem wholeF_cn (xs : List Nat) : wholeF xs = itemF 2 (cnF xs) := rfl
theorem innerF_B (ns es : List Nat) : innerF ns es = innerB (cnF ns) (cnF es) := rfl
theorem outerF_B (ns es : List Nat) : outerF ns es = outerB (cnF ns) (cnF es) := by
  unfold outerF outerB
  rw [innerF_B, show itemF 6 oidT ++ itemF 5 [] = headT by decide]
/-- A key of RSA, as it may be. -/
structure RsaN (ns es : List Nat) : Prop where
  hn : ∀ x ∈ ns, x < 4294967296
  lo : 1024 ≤ bitsL ns
  hi : bitsL ns ≤ 2048
  e1 : es.length = 1
  e3 : 3 ≤ es.getD 0 0
  e31 : es.getD 0 0 < 2147483648
theorem RsaN.bare {ns es : List Nat} (h : RsaN ns es) : bareB (cnF ns) = modF ns := by
  obtain ⟨v1, v2⟩ := bitsL_val ns h.hn
  have := h.lo
  rw [cnF_be ns h.hn, modF_be ns h.hn, bareB_be _ _ v1 (by omega) (v2 (by omega))]
theorem RsaN.modLen {ns es : List Nat} (h : RsaN ns es) : 128 ≤ (modF ns).length ∧ (modF ns).length ≤ 256 := by
  have h1 := h.lo
  have h2 := h.hi
  rw [modF_be ns h.hn, beF_length]
  omega
theorem RsaN.bits {ns es : List Nat} (h : RsaN ns es) : ∀ e, BitsE (modF ns) e → e = .returned (.int .i64 (bitsL ns : Int)) := by
  obtain ⟨v1, v2⟩ := bitsL_val ns h.hn
  have := h.lo
  rw [modF_be ns h.hn]
  exact bits_be _ _ v1 (by omega) (v2 (by omega))
theorem RsaN.exp {ns es : List Nat} (h : RsaN ns es) : accF (cnF es) (cnF es).length = es.getD 0 0 ∧ GoodI (cnF es) ∧ (cnF es).length ≤ 5 := by
  have h1 := h.e1
  obtain ⟨e, rfl⟩ : ∃ e, es = [e] := List.length_eq_one_iff.1 h1
  have h3 := h.e31
  simp only [List.getD_cons_zero] at h3 ⊢
  have he : ∀ x ∈ [e], x < 4294967296 := fun x hx => by
    simp only [List.mem_cons, List.not_mem_nil, or_false] at hx
    omega
  obtain ⟨v1, v2⟩ := bitsL_val [e] he
  have hb := bitsL_bound [e] he
  simp only [List.length_cons, List.length_nil] at hb
  have hv : valL [e] = e := by simp [valL]
  rw [cnF_be [e] he]
  rw [hv] at v1 v2 ⊢
  refine ⟨accF_be _ _ (Nat.lt_of_lt_of_le v1 (Nat.pow_le_pow_right (by omega) (by omega))), goodI_be _ _ v1 v2, ?_⟩
  rw [beF_length]
  omega
theorem RsaN.key {ns es : List Nat} (h : RsaN ns es) : KeyB (cnF ns) (cnF es) := by
  obtain ⟨v1, v2⟩ := bitsL_val ns h.hn
  obtain ⟨h1, h2, h3⟩ := h.exp
  have h4 := h.hi
  have h5 := h.modLen.1
  have h6 := h.e3
  refine ⟨?_, h3, ?_, h2, ?_, by rw [h1]; omega, by rw [h1]; exact h.e31⟩
  · rw [cnF_be ns h.hn, beF_length]
    omega
  · rw [cnF_be ns h.hn]
    exact goodI_be _ _ v1 v2
  · rw [h.bare]
    intro e
    rw [e] at h5
    simp at h5
end Go.Proofs.YtcebfkhfnjbfjaaGreatDoor
