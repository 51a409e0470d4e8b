/- Exact contracts of lItem, lWhole, LInner, LOuter. -/
import Derived.Test.YtcebfkhfnjbfjaaGreatDoorC19
namespace Go.Proofs.YtcebfkhfnjbfjaaGreatDoor
open Go.RowKit
set_option linter.unusedVariables false
set_option linter.unusedSimpArgs false
/-- An item: its tag, its length, and what it has. -/
def itemF (tag : UInt8) (s : List UInt8) : List UInt8 :=
  if s.length < 128 then [tag, UInt8.ofNat s.length] ++ s
  else if s.length < 256 then [tag, 129, UInt8.ofNat s.length] ++ s
  else [tag, 130, UInt8.ofNat (s.length / 256), UInt8.ofNat s.length] ++ s
theorem itemF_length (tag : UInt8) (s : List UInt8) : (itemF tag s).length ≤ s.length + 4 := by
  unfold itemF
  split
  · simp
  · split <;> simp
theorem sl_bytes (W : World) (r : List UInt8) (hr : r.length ≤ 1000000) : Sl (.slice (some ⟨W.heap.size, 0, none⟩) r.length r.length) (bs r) (W.alloc (.cells (bs r).toArray 5)) := by
  have := (Own.made W (bs r) W.heap.size r.length 5 (Nat.le_refl _) (by simp [bs]) (by simp only [maxLen]; omega)).sl
  rw [show (bs r).length = r.length by simp [bs]] at this
  exact this
set_option maxHeartbeats 1000000 in
set_option maxRecDepth 100000 in
theorem lItem_any (tag : UInt8) (s : List UInt8) (w : World) (hs : s.length ≤ 60000) :
    Calls Tryz.prog 29 #[.int .u8 (tag.toNat : Int), .string (str s)] w fun e w' => e = .returned (.string (str (itemF tag s))) ∧ Below w.heap.size w w' := by
  obtain ⟨n, hn⟩ : ∃ n, s.length = n := ⟨_, rfl⟩
  have hsz : (str s).size = n := by rw [str_size]; exact hn
  obtain ⟨t, ht⟩ : ∃ t : Nat, tag.toNat = t := ⟨_, rfl⟩
  have htl : t < 256 := by rw [← ht]; exact tag.toNat_lt
  rw [hn] at hs
  by_cases h1 : n < 128
  · have d1 : decide ((n : Int) < 128) = true := by simp; omega
    have hI : itemF tag s = [tag, UInt8.ofNat n] ++ s := by unfold itemF; rw [hn, if_pos h1]
    have hsl := sl_bytes w [tag, UInt8.ofNat n] (by simp)
    have e1 : (UInt8.ofNat n).toNat = n := by simp; omega
    simp only [bs, List.map_cons, List.map_nil, List.length_cons, List.length_nil, e1, ht] at hsl
    have htx := Sl.text (P := Tryz.prog) (l := [tag, UInt8.ofNat n]) (src := 22) (dst := 9) (by simpa [bs, e1, ht] using hsl) Tryz.underlying22 Tryz.underlying5 Tryz.underlying9 _ rfl
    have hap := str_append [tag, UInt8.ofNat n] s
    rw [hI, ← hap]
    have hw : (n : Int) % 256 = n := by omega
    have hbel := (Below.refl w.heap.size w).alloc (Nat.le_refl _) (.cells #[.int .u8 (t : Int), .int .u8 (n : Int)] 5)
    have hds := str_size [tag, UInt8.ofNat n]
    simp only [List.length_cons, List.length_nil] at hds
    rw [ht]
    generalize str [tag, UInt8.ofNat n] = hd at htx hds ⊢
    clear hap hI hsl
    go_enter Tryz.func29, Tryz.ntmps29
    go_wp2
    go_ret
    exact ⟨rfl, hbel⟩
  have d1 : decide ((n : Int) < 128) = false := by simp; omega
  by_cases h2 : n < 256
  · have d2 : decide ((n : Int) < 256) = true := by simp; omega
    have hI : itemF tag s = [tag, 129, UInt8.ofNat n] ++ s := by unfold itemF; rw [hn, if_neg h1, if_pos h2]
    have hsl := sl_bytes w [tag, 129, UInt8.ofNat n] (by simp)
    have e1 : (UInt8.ofNat n).toNat = n := by simp; omega
    have e2 : (129 : UInt8).toNat = 129 := rfl
    simp only [bs, List.map_cons, List.map_nil, List.length_cons, List.length_nil, e1, e2, ht] at hsl
    have htx := Sl.text (P := Tryz.prog) (l := [tag, 129, UInt8.ofNat n]) (src := 22) (dst := 9) (by simpa [bs, e1, e2, ht] using hsl) Tryz.underlying22 Tryz.underlying5 Tryz.underlying9 _ rfl
    have hap := str_append [tag, 129, UInt8.ofNat n] s
    rw [hI, ← hap]
    have hw : (n : Int) % 256 = n := by omega
    have hbel := (Below.refl w.heap.size w).alloc (Nat.le_refl _) (.cells #[.int .u8 (t : Int), .int .u8 129, .int .u8 (n : Int)] 5)
    have hds := str_size [tag, 129, UInt8.ofNat n]
    simp only [List.length_cons, List.length_nil] at hds
    rw [ht]
    generalize str [tag, 129, UInt8.ofNat n] = hd at htx hds ⊢
    clear hap hI hsl
    go_enter Tryz.func29, Tryz.ntmps29
    go_wp2
    go_ret
    exact ⟨rfl, hbel⟩
  have d2 : decide ((n : Int) < 256) = false := by simp; omega
  have hI : itemF tag s = [tag, 130, UInt8.ofNat (n / 256), UInt8.ofNat n] ++ s := by unfold itemF; rw [hn, if_neg h1, if_neg h2]
  have hsl := sl_bytes w [tag, 130, UInt8.ofNat (n / 256), UInt8.ofNat n] (by simp)
  have e1 : (((UInt8.ofNat (n / 256)).toNat : Nat) : Int) = (n : Int) / 256 := by
    have : (UInt8.ofNat (n / 256)).toNat = n / 256 := by simp; omega
    omega
  have e2 : (((130 : UInt8).toNat : Nat) : Int) = 130 := rfl
  have e3 : (((UInt8.ofNat n).toNat : Nat) : Int) = (n : Int) % 256 := by
    have : (UInt8.ofNat n).toNat = n % 256 := by simp
    omega
  have htx := hsl.text (P := Tryz.prog) (src := 22) (dst := 9) Tryz.underlying22 Tryz.underlying5 Tryz.underlying9 _ rfl
  simp only [bs, List.map_cons, List.map_nil, List.length_cons, List.length_nil, Nat.zero_add, Nat.reduceAdd, e1, e2, e3, ht] at htx
  have hap := str_append [tag, 130, UInt8.ofNat (n / 256), UInt8.ofNat n] s
  rw [hI, ← hap]
  have hbel := (Below.refl w.heap.size w).alloc (Nat.le_refl _) (.cells #[.int .u8 (t : Int), .int .u8 130, .int .u8 ((n : Int) / 256), .int .u8 ((n : Int) % 256)] 5)
  have hds := str_size [tag, 130, UInt8.ofNat (n / 256), UInt8.ofNat n]
  simp only [List.length_cons, List.length_nil] at hds
  rw [ht]
  generalize str [tag, 130, UInt8.ofNat (n / 256), UInt8.ofNat n] = hd at htx hds ⊢
  clear hap hI hsl e1 e2 e3
  go_enter Tryz.func29, Tryz.ntmps29
  go_wp2
  go_ret
  exact ⟨rfl, hbel⟩
/-- A number as an item. -/
def wholeF (xs : List Nat) : List UInt8 := itemF 2 ((bytesF xs (bitsL xs / 8 + 1)).getD [])
theorem bytesF_length {xs : List Nat} {many : Nat} : ((bytesF xs many).getD []).length ≤ many := by
  unfold bytesF
  split
  · simp [outAt_length]
  · simp
theorem wholeF_length (xs : List Nat) : (wholeF xs).length ≤ bitsL xs / 8 + 5 := by
  have h1 := itemF_length 2 ((bytesF xs (bitsL xs / 8 + 1)).getD [])
  have h2 := bytesF_length (xs := xs) (many := bitsL xs / 8 + 1)
  unfold wholeF
  omega
set_option maxHeartbeats 1000000 in
set_option maxRecDepth 100000 in
theorem lWhole_any (v : Value) (xs : List Nat) (w : World) (h : Num v xs w) (hl : xs.length ≤ 1000) :
    Calls Tryz.prog 30 #[v] w fun e w' => e = .returned (.string (str (wholeF xs))) ∧ Below w.heap.size w w' := by
  have hb0 := bitsL_bound xs h.1
  unfold wholeF
  obtain ⟨b, hb⟩ : ∃ b, bitsL xs = b := ⟨_, rfl⟩
  have hbe := LBytes_any v xs (b / 8 + 1)
  have hbl := bytesF_length (xs := xs) (many := b / 8 + 1)
  have hbi := LBits_any v xs w h (by omega)
  rw [hb] at hb0 hbi ⊢
  rw [optE_eq] at hbe
  generalize (bytesF xs (b / 8 + 1)).getD [] = r at hbe hbl ⊢
  generalize (bytesF xs (b / 8 + 1)).isSome = q at hbe
  go_enter Tryz.func30, Tryz.ntmps30
  go_wp2_with fail
  refine hbi.mono ?_
  rintro e w1 ⟨rfl, hb1⟩
  have ed : (b : Int).tdiv 8 = (b : Int) / 8 := Int.tdiv_eq_ediv_of_nonneg (by omega)
  go_wp2_with fail
  rw [show (b : Int) / 8 + 1 = ((b / 8 + 1 : Nat) : Int) by omega]
  refine (hbe w1 (h.below hb1 (Nat.le_refl _)) (by omega) (by omega)).mono ?_
  rintro e w2 ⟨rfl, hb2⟩
  replace hb2 := hb1.trans (hb2.mono hb1.size)
  clear ed hb
  go_wp2_with fail
  refine (lItem_any 2 r w2 (by omega)).mono ?_
  rintro e w3 ⟨rfl, hb3⟩
  replace hb3 := hb2.trans (hb3.mono hb2.size)
  go_wp2
  go_ret
  exact ⟨rfl, hb3⟩
/-- A public key as PKCS #1 writes it, and as X.509 does. -/
def innerF (ns es : List Nat) : List UInt8 := itemF 48 (wholeF ns ++ wholeF es)
def oidT : List UInt8 := [42, 134, 72, 134, 247, 13, 1, 1, 1]
def outerF (ns es : List Nat) : List UInt8 := itemF 48 (itemF 48 (itemF 6 oidT ++ itemF 5 []) ++ itemF 3 (0 :: innerF ns es))
theorem wholeF_bound {v : Value} {xs : List Nat} {w : World} (h : Num v xs w) (hl : xs.length ≤ 1000) : (wholeF xs).length ≤ 4005 := by
  have := bitsL_bound xs h.1
  have := wholeF_length xs
  omega
set_option maxHeartbeats 1000000 in
set_option maxRecDepth 100000 in
theorem LInner_any (va vb : Value) (ns es : List Nat) (w : World) (ha : Num va ns w) (hb : Num vb es w) (hl : ns.length ≤ 1000) (hl2 : es.length ≤ 1000) :
    Calls Tryz.prog 9 #[va, vb] w fun e w' => e = .returned (.string (str (innerF ns es))) ∧ Below w.heap.size w w' := by
  have h1 := wholeF_bound ha hl
  have h2 := wholeF_bound hb hl2
  unfold innerF
  have hwa := lWhole_any va ns w ha hl
  have hwb := fun W h => lWhole_any vb es W h hl2
  have s1 := str_size (wholeF ns)
  have s2 := str_size (wholeF es)
  generalize wholeF ns = a at h1 s1 hwa ⊢
  generalize wholeF es = b at h2 s2 hwb ⊢
  have hap := str_append a b
  go_enter Tryz.func9, Tryz.ntmps9
  go_wp2_with fail
  refine hwa.mono ?_
  rintro e w1 ⟨rfl, hb1⟩
  go_wp2_with fail
  refine (hwb w1 (hb.below hb1 (Nat.le_refl _))).mono ?_
  rintro e w2 ⟨rfl, hb2⟩
  replace hb2 := hb1.trans (hb2.mono hb1.size)
  go_wp2_with fail
  refine (lItem_any 48 (a ++ b) w2 (by simp; omega)).mono ?_
  rintro e w3 ⟨rfl, hb3⟩
  replace hb3 := hb2.trans (hb3.mono hb2.size)
  go_wp2
  go_ret
  exact ⟨rfl, hb3⟩
theorem innerF_bound {va vb : Value} {ns es : List Nat} {w : World} (ha : Num va ns w) (hb : Num vb es w) (hl : ns.length ≤ 1000) (hl2 : es.length ≤ 1000) : (innerF ns es).length ≤ 8014 := by
  have h1 := wholeF_bound ha hl
  have h2 := wholeF_bound hb hl2
  have := itemF_length 48 (wholeF ns ++ wholeF es)
  unfold innerF
  simp at this
  omega
set_option maxHeartbeats 1000000 in
set_option maxRecDepth 100000 in
theorem LOuter_any (va vb : Value) (ns es : List Nat) (w : World) (ha : Num va ns w) (hb : Num vb es w) (hl : ns.length ≤ 1000) (hl2 : es.length ≤ 1000) :
    Calls Tryz.prog 24 #[va, vb] w fun e w' => e = .returned (.string (str (outerF ns es))) ∧ Below w.heap.size w w' := by
  have h1 := innerF_bound ha hb hl hl2
  unfold outerF
  have g1 := itemF_length 6 oidT
  have g2 := itemF_length 5 []
  have g3 := itemF_length 48 (itemF 6 oidT ++ itemF 5 [])
  have g4 := itemF_length 3 (0 :: innerF ns es)
  have go : oidT.length = 9 := rfl
  simp only [List.length_append, List.length_cons, List.length_nil] at g2 g3 g4
  have q1 := fun W => lItem_any 6 oidT W (by decide)
  have q2 := fun W => lItem_any 5 [] W (by decide)
  have q3 := fun W => lItem_any 48 (itemF 6 oidT ++ itemF 5 []) W (by simp; omega)
  have q4 := fun W h h' => LInner_any va vb ns es W h h' hl hl2
  have q5 := fun W => lItem_any 3 (0 :: innerF ns es) W (by simp; omega)
  have q6 := fun W => lItem_any 48 (itemF 48 (itemF 6 oidT ++ itemF 5 []) ++ itemF 3 (0 :: innerF ns es)) W (by simp; omega)
  have s1 := str_size (itemF 6 oidT)
  have s2 := str_size (itemF 5 [])
  have s3 := str_size (itemF 48 (itemF 6 oidT ++ itemF 5 []))
  have s4 := str_size (itemF 3 (0 :: innerF ns es))
  have s5 := str_size (innerF ns es)
  have p1 := str_append (itemF 6 oidT) (itemF 5 [])
  have p2 : (⟨#[0]⟩ : ByteArray) ++ str (innerF ns es) = str (0 :: innerF ns es) := str_append [0] (innerF ns es)
  have p3 := str_append (itemF 48 (itemF 6 oidT ++ itemF 5 [])) (itemF 3 (0 :: innerF ns es))
  have p4 : (⟨#[0]⟩ : ByteArray).size = 1 := rfl
  generalize itemF 48 (itemF 48 (itemF 6 oidT ++ itemF 5 []) ++ itemF 3 (0 :: innerF ns es)) = fin at q6 ⊢
  generalize itemF 48 (itemF 6 oidT ++ itemF 5 []) ++ itemF 3 (0 :: innerF ns es) = lst at q6 p3
  generalize itemF 48 (itemF 6 oidT ++ itemF 5 []) = a at *
  generalize itemF 6 oidT ++ itemF 5 [] = ids at *
  generalize itemF 3 (0 :: innerF ns es) = b at *
  generalize 0 :: innerF ns es = ins at *
  generalize innerF ns es = i at *
  generalize itemF 6 oidT = x1 at *
  generalize itemF 5 [] = x2 at *
  go_enter Tryz.func24, Tryz.ntmps24
  go_wp2_with fail
  refine (q1 w).mono ?_
  rintro e w1 ⟨rfl, hb1⟩
  go_wp2_with fail
  refine (q2 w1).mono ?_
  rintro e w2 ⟨rfl, hb2⟩
  replace hb2 := hb1.trans (hb2.mono hb1.size)
  go_wp2_with fail
  refine (q3 w2).mono ?_
  rintro e w3 ⟨rfl, hb3⟩
  replace hb3 := hb2.trans (hb3.mono hb2.size)
  go_wp2_with fail
  refine (q4 w3 (ha.below hb3 (Nat.le_refl _)) (hb.below hb3 (Nat.le_refl _))).mono ?_
  rintro e w4 ⟨rfl, hb4⟩
  replace hb4 := hb3.trans (hb4.mono hb3.size)
  go_wp2_with fail
  refine (q5 w4).mono ?_
  rintro e w5 ⟨rfl, hb5⟩
  replace hb5 := hb4.trans (hb5.mono hb4.size)
  go_wp2_with fail
  refine (q6 w5).mono ?_
  rintro e w6 ⟨rfl, hb6⟩
  replace hb6 := hb5.trans (hb6.mono hb5.size)
  go_wp2
  go_ret
  exact ⟨rfl, hb6⟩
end Go.Proofs.YtcebfkhfnjbfjaaGreatDoor
