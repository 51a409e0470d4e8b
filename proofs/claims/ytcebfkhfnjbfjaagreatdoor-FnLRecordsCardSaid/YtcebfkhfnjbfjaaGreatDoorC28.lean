/- Contracts of zzBare, zzInteger, zzRSA, Size. Contracts of zzRSA, Size, Bits. Contracts of parsePKIXPublicKey and parsePKCS1PublicKey on what LOuter and LInner write. -/
import Derived.Test.YtcebfkhfnjbfjaaGreatDoorC27
import Derived.BigRegion
namespace Go.Proofs.YtcebfkhfnjbfjaaGreatDoor
open Go.RowKit
set_option linter.unusedVariables false
set_option linter.unusedSimpArgs false
/-- Bytes without noughts ahead. -/
def bareB (l : List UInt8) : List UInt8 := l.dropWhile (· == 0)
set_option maxHeartbeats 1000000 in
set_option maxRecDepth 100000 in
theorem zzBare_any (v : Value) (l : List UInt8) (w : World) (h : Sl v (bs l) w) (hl : l.length ≤ 100000) :
    Calls Tryz.prog 91 #[v] w fun e w' => (∃ v', e = .returned v' ∧ Sl v' (bs (bareB l)) w') ∧ Below w.heap.size w w' := by
  have hb := Below.refl w.heap.size w
  go_enter Tryz.func91, Tryz.ntmps91
  go_wp2
  go_loopw [0] (fun v W => ∃ t : List UInt8, Sl v (bs t) W ∧ bareB t = bareB l ∧ t.length ≤ l.length ∧ Below w.heap.size w W) (fun v _ => match v with | .slice _ n _ => n | _ => 0)
  case atStart => exact ⟨l, h, rfl, Nat.le_refl _, hb⟩
  case round =>
    clear h hb
    obtain ⟨t, h, ht, htl, hb⟩ := hrel
    rcases t with _ | ⟨x, t⟩
    · obtain ⟨a, cap, rfl⟩ := h.lenB
      simp only [List.length_nil] at h ⊢
      go_wp2
      go_ret
      rw [← ht]
      exact ⟨⟨_, rfl, h⟩, hb⟩
    · obtain ⟨g, o, cap, rfl, hc⟩ := h.byte (i := 0) (by simp)
      rw [Nat.add_zero, show ((x :: t).getD 0 0).toNat = x.toNat from rfl] at hc
      obtain ⟨v', hd, hs⟩ := h.dropB 1 (by simp)
      rw [show (((1 : Nat) : Int)) = 1 from rfl] at hd
      rw [show (x :: t).drop 1 = t from rfl] at hs
      obtain ⟨n, hn⟩ : ∃ n, (x :: t).length = n := ⟨_, rfl⟩
      have hn0 : 0 < n := by rw [← hn]; simp
      have hn1 : t.length + 1 = n := by rw [← hn]; rfl
      rw [hn] at h htl hd ⊢
      obtain ⟨a', cap', rfl⟩ := hs.lenB
      by_cases hx : x = 0
      · subst hx
        have hbe : bareB t = bareB l := by rw [← ht]; simp [bareB]
        have h0 : (((0 : UInt8).toNat : Nat) : Int) = 0 := rfl
        rw [h0] at hc
        clear ht hn h
        go_wp2
        go_roundw
        case rel => exact ⟨t, hs, hbe, by omega, hb⟩
        case measure => show t.length < n; omega
      · have hx0 : x.toNat ≠ 0 := fun e => hx (by have := UInt8.ofNat_toNat (x := x); rw [e] at this; exact this.symm)
        have hxb : (x == 0) = false := by simpa using hx
        have hbe : bareB l = x :: t := by rw [← ht]; simp [bareB, List.dropWhile_cons, hxb]
        have hd0 : ((x.toNat : Int) == 0) = false := by simp; omega
        have hd1 : decide ((x.toNat : Int) = 0) = false := by simp; omega
        clear ht
        go_wp2
        go_ret
        rw [hbe]
        exact ⟨⟨_, rfl, h⟩, hb⟩
/-- The content of a whole number that is read: not below nought, in the fewest bytes. -/
def GoodI (c : List UInt8) : Prop := 0 < c.length ∧ (c.getD 0 0).toNat < 128 ∧ (1 < c.length → (c.getD 0 0).toNat = 0 → 128 ≤ (c.getD 1 0).toNat)
/-- A whole number is returned. -/
def IntE (c r : List UInt8) (e : Ending) (w : World) : Prop := ∃ vc vr, e = .returned (.tuple #[vc, vr, .nilIface]) ∧ Sl vc (bs c) w ∧ Sl vr (bs r) w
set_option maxHeartbeats 1000000 in
set_option maxRecDepth 100000 in
theorem zzInteger_any (v : Value) (c r : List UInt8) (w : World) (h : Sl v (bs (itemF 2 c ++ r)) w) (hc : c.length ≤ 60000) (hr : r.length ≤ 60000) (hg : GoodI c) :
    Calls Tryz.prog 90 #[v] w fun e w' => IntE c r e w' ∧ Below w.heap.size w w' := by
  have hel := zzElement_any v 2 c r w h hc hr (by decide)
  obtain ⟨EE, hEE⟩ : ∃ EE, IntE c r = EE := ⟨_, rfl⟩
  rw [hEE]
  obtain ⟨g1, g2, g3⟩ := hg
  go_enter Tryz.func90, Tryz.ntmps90
  go_wp2_with fail
  refine hel.mono ?_
  rintro e w1 ⟨⟨vc, vr, rfl, hsc, hsr⟩, hb1⟩
  have hfin : EE (.returned (.tuple #[vc, vr, .nilIface])) w1 := by
    rw [← hEE]
    exact ⟨vc, vr, rfl, hsc, hsr⟩
  obtain ⟨g, o, cap, rfl, h0⟩ := hsc.byte (i := 0) g1
  rw [Nat.add_zero] at h0
  have h2 : (((2 : UInt8).toNat : Nat) : Int) = 2 := rfl
  rw [h2]
  obtain ⟨n, hn⟩ : ∃ n, c.length = n := ⟨_, rfl⟩
  rw [hn] at g1 g3 hc hfin
  rw [hn] at hsc ⊢
  clear hel hEE
  by_cases hn1 : n = 1
  · subst hn1
    go_wp2
    go_ret3
    exact ⟨hfin, hb1⟩
  · have hlt : 1 < n := by omega
    obtain ⟨g', o', cap', e, h1⟩ := hsc.byte (i := 1) (by omega)
    simp only [Value.slice.injEq, Option.some.injEq, Addr.mk.injEq] at e
    obtain ⟨⟨rfl, rfl, -⟩, -, rfl⟩ := e
    have hd1 : decide (1 < (n : Int)) = true := by simp; omega
    have hd0 : ((n : Int) == 0) = false := by simp; omega
    replace g3 := g3 hlt
    have hc1 := (c.getD 1 0).toNat_lt
    generalize (c.getD 0 0).toNat = x at h0 g2 g3
    generalize (c.getD 1 0).toNat = y at h1 g3 hc1
    have h255 : ((x : Int) == 255) = false := by simp; omega
    by_cases hx : x = 0
    · subst hx
      have ha := and128u y hc1
      rw [show y / 128 * 128 = 128 by have := g3 rfl; omega] at ha
      clear g3
      go_wp2
      go_ret3
      exact ⟨hfin, hb1⟩
    · have hx0 : ((x : Int) == 0) = false := by simp; omega
      clear g3
      go_wp2
      go_ret3
      exact ⟨hfin, hb1⟩
end Go.Proofs.YtcebfkhfnjbfjaaGreatDoor
namespace Go.Proofs.YtcebfkhfnjbfjaaGreatDoor
open Go.RowKit
set_option linter.unusedVariables false
set_option linter.unusedSimpArgs false
/-- The number of the first k bytes. -/
def accF (l : List UInt8) : Nat → Nat
  | 0 => 0
  | k + 1 => accF l k * 256 + (l.getD k 0).toNat
theorem accF_lt (l : List UInt8) : ∀ k, accF l k < 256 ^ k
  | 0 => by simp [accF]
  | k + 1 => by
    have h1 := accF_lt l k
    have h2 := (l.getD k 0).toNat_lt
    have h3 : 256 ^ (k + 1) = 256 ^ k * 256 := Nat.pow_succ ..
    simp only [accF]
    omega
theorem or256b (a b : Nat) (ha : a < 18014398509481984) (hb : b < 256) : Go.bits .or .i64 ((a : Int) * 256) (b : Int) = ((a * 256 + b : Nat) : Int) := by
  have h1 := (bits_nat .i64 63 (by decide) wrapsI64 (a * 256) b (by omega) (by omega)).2
  rw [nat_or256 a b hb] at h1
  rw [← h1]
  congr 1
/-- A public key of RSA is returned, of this modulus and this exponent. -/
def RsaE (n : List UInt8) (x : Nat) (e : Ending) (w : World) : Prop := ∃ K vn, e = .returned (.tuple #[.pointer (some ⟨K, 0, none⟩), .nilIface]) ∧ w.heap[K]? = some (.cells #[vn, .int .i64 (x : Int)] 101 (0, 0)) ∧ Sl vn (bs n) w
set_option maxHeartbeats 1000000 in
set_option maxRecDepth 100000 in
theorem zzRSA_any (v : Value) (cn ce r : List UInt8) (w : World) (h : Sl v (bs (itemF 2 cn ++ (itemF 2 ce ++ r))) w) (hc : cn.length ≤ 5000) (he : ce.length ≤ 5) (hr : r.length ≤ 5000) (hgn : GoodI cn) (hge : GoodI ce) (hn0 : bareB cn ≠ []) (he0 : accF ce ce.length ≠ 0) :
    Calls Tryz.prog 86 #[v] w fun e w' => RsaE (bareB cn) (accF ce ce.length) e w' ∧ Below w.heap.size w w' := by
  have hie := itemF_length 2 ce
  have hi1 := zzInteger_any v cn (itemF 2 ce ++ r) w h (by omega) (by simp; omega) hgn
  obtain ⟨EE, hEE⟩ : ∃ EE, RsaE (bareB cn) (accF ce ce.length) = EE := ⟨_, rfl⟩
  rw [hEE]
  go_enter Tryz.func86, Tryz.ntmps86
  go_wp2_with fail
  refine hi1.mono ?_
  rintro e w1 ⟨⟨vc, vr, rfl, hsc, hsr⟩, hb1⟩
  clear hi1
  go_wp2_with fail
  refine (zzInteger_any vr ce r w1 hsr (by omega) (by omega) hge).mono ?_
  rintro e w2 ⟨⟨ve, vr2, rfl, hse, hsr2⟩, hb2⟩
  replace hsc := hsc.below hb2 (Nat.le_refl _)
  replace hb2 := hb1.trans (hb2.mono hb1.size)
  clear hb1 hsr hsr2
  obtain ⟨ge, oe, cpe, rfl, he1⟩ := hse.byte (i := 0) hge.1
  obtain ⟨m, hm⟩ : ∃ m, ce.length = m := ⟨_, rfl⟩
  rw [hm] at he he0 hse ⊢
  have hd8 : decide (8 < (m : Int)) = false := by simp; omega
  go_wp2_with fail
  refine (zzBare_any vc cn w2 hsc (by omega)).mono ?_
  rintro e w3 ⟨⟨vn, rfl, hsn⟩, hb3⟩
  replace hsc := hsc.below hb3 (Nat.le_refl _)
  replace hse := hse.below hb3 (Nat.le_refl _)
  replace hb3 := hb2.trans (hb3.mono hb2.size)
  clear hb2 he1
  obtain ⟨an, cpn, rfl⟩ := hsn.lenB
  obtain ⟨q, hq⟩ : ∃ q, (bareB cn).length = q := ⟨_, rfl⟩
  have hq0 : q ≠ 0 := by rw [← hq]; simpa using hn0
  rw [hq] at hsn ⊢
  have hb4 := hb3.alloc hb3.size (.cells #[.slice an q cpn, .int .i64 0] 101)
  have hb5 := (Below.refl w3.heap.size w3).alloc (Nat.le_refl _) (.cells #[.slice an q cpn, .int .i64 0] 101)
  have hK := heap_alloc_new w3 (.cells #[.slice an q cpn, .int .i64 0] 101)
  go_wp2_with fail
  obtain ⟨K, hKe⟩ : ∃ K, w3.heap.size = K := ⟨_, rfl⟩
  rw [hKe] at hK hb5 ⊢
  generalize w3.alloc (.cells #[.slice an q cpn, .int .i64 0] 101) = w4 at hb4 hb5 hK ⊢
  have hBK : w.heap.size ≤ K := by rw [← hKe]; exact hb3.size
  go_loopw [10] (fun v10 W => ∃ i : Nat, v10 = .int .i64 (i : Int) ∧ i ≤ m ∧ W.heap[K]? = some (.cells #[.slice an q cpn, .int .i64 (accF ce i : Int)] 101 (0, 0)) ∧ Below w.heap.size w W ∧ Below K w3 W) (fun v10 _ => (m - intOf v10).toNat)
  case atStart => exact ⟨0, rfl, by omega, hK, hb4, hb5⟩
  case round =>
    clear hb4 hb5 hK
    obtain ⟨i, rfl, hi, hK, hb4, hb5⟩ := hrel
    have k0 : wr.cell? ⟨K, 0, none⟩ = some (.slice an q cpn) := by rw [cell_of_row wr K 0 _ 101 (0, 0) hK]; rfl
    have k1 : wr.cell? ⟨K, 1, none⟩ = some (.int .i64 (accF ce i : Int)) := by rw [cell_of_row wr K 1 _ 101 (0, 0) hK]; rfl
    have kf : wr.frozen? ⟨K, 1, none⟩ = false := frozen_of_row wr K 1 _ 101 hK
    have hse' := hse.below hb5 (by omega)
    by_cases h1 : i < m
    · have hd1 : decide ((i : Int) < (m : Int)) = true := by simp; omega
      obtain ⟨g', o', cap', e, hci⟩ := hse'.byte (i := i) (by omega)
      simp only [Value.slice.injEq, Option.some.injEq, Addr.mk.injEq] at e
      obtain ⟨⟨rfl, rfl, -⟩, -, rfl⟩ := e
      have hst : accF ce (i + 1) = accF ce i * 256 + (ce.getD i 0).toNat := rfl
      have hlt : accF ce i < 18014398509481984 := Nat.lt_of_lt_of_le (accF_lt ce i) (Nat.le_trans (Nat.pow_le_pow_right (by omega) (show i ≤ 5 by omega)) (by decide))
      have hcl := (ce.getD i 0).toNat_lt
      have hor := or256b (accF ce i) (ce.getD i 0).toNat hlt hcl
      have hse1 : w3.heap[K]? = w3.heap[K]? := rfl
      have hset := heap_setCell_same wr K 1 _ 101 (.int .i64 ((accF ce i * 256 + (ce.getD i 0).toNat : Nat) : Int)) hK
      have hb6 : Below w.heap.size w (wr.setCell ⟨K, 1, none⟩ (.int .i64 ((accF ce i * 256 + (ce.getD i 0).toNat : Nat) : Int))) := hb4.setCell hBK _
      have hb7 : Below K w3 (wr.setCell ⟨K, 1, none⟩ (.int .i64 ((accF ce i * 256 + (ce.getD i 0).toNat : Nat) : Int))) := hb5.setCell (Nat.le_refl _) _
      rw [← hst] at hset hb6 hb7 hor
      obtain ⟨t2, ht2⟩ : ∃ t2, accF ce (i + 1) = t2 := ⟨_, rfl⟩
      rw [ht2] at hset hb6 hb7 hor
      generalize accF ce i = t at k1 hlt hor
      generalize (ce.getD i 0).toNat = c at hci hcl hor
      clear hst hse1
      go_wp2_with fail
      go_region
      go_wp2
      go_roundw
      case rel =>
        refine ⟨i + 1, by go_num, by omega, ?_, hb6.trans ⟨rfl, rfl, rfl, Nat.le_refl _, fun _ _ => rfl⟩, hb7.trans ⟨rfl, rfl, rfl, Nat.le_refl _, fun _ _ => rfl⟩⟩
        rw [ht2]
        exact hset
      case measure => simp [intOf] <;> omega
    · have hd1 : decide ((i : Int) < (m : Int)) = false := by simp; omega
      obtain rfl : i = m := by omega
      have hsc' := hsc.below hb5 (by omega)
      have hsn' := hsn.below hb5 (by omega)
      obtain ⟨gc, oc, cpc, rfl, hc0⟩ := hsc'.byte (i := 0) hgn.1
      obtain ⟨g', o', cap', e, he1⟩ := hse'.byte (i := 0) hge.1
      rw [hm] at e
      simp only [Value.slice.injEq, Option.some.injEq, Addr.mk.injEq] at e
      obtain ⟨⟨rfl, rfl, -⟩, -, rfl⟩ := e
      rw [Nat.add_zero] at hc0 he1
      have ha1 := and128u (cn.getD 0 0).toNat (cn.getD 0 0).toNat_lt
      have ha2 := and128u (ce.getD 0 0).toNat (ce.getD 0 0).toNat_lt
      rw [show (cn.getD 0 0).toNat / 128 * 128 = 0 by have := hgn.2.1; omega] at ha1
      rw [show (ce.getD 0 0).toNat / 128 * 128 = 0 by have := hge.2.1; omega] at ha2
      have hcl : 0 < cn.length := hgn.1
      have hel : 0 < i := by rw [← hm]; exact hge.1
      have hfin : EE (.returned (.tuple #[.pointer (some ⟨K, 0, none⟩), .nilIface])) wr := by
        rw [← hEE, hm]
        exact ⟨K, _, rfl, hK, hsn'⟩
      generalize (cn.getD 0 0).toNat = x0 at hc0 ha1
      generalize (ce.getD 0 0).toNat = y0 at he1 ha2
      obtain ⟨l1, hl1⟩ : ∃ l1, cn.length = l1 := ⟨_, rfl⟩
      rw [hl1] at hcl hsc ⊢
      have hz : ((accF ce i : Int) == 0) = false := by simp; omega
      have hz2 : decide ((accF ce i : Int) = 0) = false := by simp; omega
      have hzq : ((q : Int) == 0) = false := by simp; omega
      generalize accF ce i = t at k1 hz hz2
      go_wp2
      go_ret2
      exact ⟨hfin, hb4⟩
set_option maxHeartbeats 1000000 in
set_option maxRecDepth 100000 in
theorem Size_any (K : Nat) (vn : Value) (n : List UInt8) (x : Int) (w : World) (hK : w.heap[K]? = some (.cells #[vn, .int .i64 x] 101 (0, 0))) (h : Sl vn (bs n) w) :
    Calls Tryz.prog 67 #[.pointer (some ⟨K, 0, none⟩)] w fun e w' => e = .returned (.int .i64 (n.length : Int)) ∧ Below w.heap.size w w' := by
  have hb := Below.refl w.heap.size w
  obtain ⟨a, c, rfl⟩ := h.lenB
  have k0 : w.cell? ⟨K, 0, none⟩ = some (.slice a n.length c) := by rw [cell_of_row w K 0 _ 101 (0, 0) hK]; rfl
  go_enter Tryz.func67, Tryz.ntmps67
  go_wp2
  go_ret
  exact ⟨rfl, hb⟩
/-- The length of a modulus in bits, as it is returned. -/
def BitsE (n : List UInt8) (e : Ending) : Prop := ∃ j : Nat, 128 ≤ (n.getD 0 0).toNat * 2 ^ j ∧ (n.getD 0 0).toNat * 2 ^ j < 256 ∧ e = .returned (.int .i64 (8 * (n.length : Int) - (j : Int)))
set_option maxHeartbeats 1000000 in
set_option maxRecDepth 100000 in
theorem Bits_any (K : Nat) (vn : Value) (n : List UInt8) (x : Int) (w : World) (hK : w.heap[K]? = some (.cells #[vn, .int .i64 x] 101 (0, 0))) (h : Sl vn (bs n) w) (hn : 0 < n.length) (hn1 : n.length ≤ 100000) (h0 : (n.getD 0 0).toNat ≠ 0) :
    Calls Tryz.prog 45 #[.pointer (some ⟨K, 0, none⟩)] w fun e w' => BitsE n e ∧ Below w.heap.size w w' := by
  have hb := Below.refl w.heap.size w
  obtain ⟨g, o, c, rfl, hc⟩ := h.byte (i := 0) hn
  rw [Nat.add_zero] at hc
  have k0 : w.cell? ⟨K, 0, none⟩ = some (.slice (some ⟨g, o, none⟩) n.length c) := by rw [cell_of_row w K 0 _ 101 (0, 0) hK]; rfl
  obtain ⟨BE, hBE⟩ : ∃ BE, BitsE n = BE := ⟨_, rfl⟩
  rw [hBE]
  have hy := (n.getD 0 0).toNat_lt
  obtain ⟨y, hye⟩ : ∃ y, (n.getD 0 0).toNat = y := ⟨_, rfl⟩
  rw [hye] at hc hy h0
  obtain ⟨m, hm⟩ : ∃ m, n.length = m := ⟨_, rfl⟩
  have hfin : ∀ j : Nat, 128 ≤ y * 2 ^ j → y * 2 ^ j < 256 → BE (.returned (.int .i64 (8 * (m : Int) - (j : Int)))) := fun j h1 h2 => by
    rw [← hBE]
    exact ⟨j, by rw [hye]; exact h1, by rw [hye]; exact h2, by rw [hm]⟩
  rw [hm] at hn hn1 k0
  have hz : ((m : Int) == 0) = false := by simp; omega
  clear hBE hye h
  go_enter Tryz.func45, Tryz.ntmps45
  go_wp2
  go_loopw [3, 4] (fun v3 v4 W => ∃ j z : Nat, z = y * 2 ^ j ∧ v3 = .int .i64 (8 * (m : Int) - (j : Int)) ∧ v4 = .int .u8 (z : Int) ∧ 0 < z ∧ z < 256 ∧ j ≤ 8 ∧ Below w.heap.size w W) (fun _ v4 _ => (256 - intOf v4).toNat)
  case atStart => exact ⟨0, y, by simp, by simp, rfl, by omega, hy, by omega, hb⟩
  case round =>
    clear hb
    obtain ⟨j, z, hz0, rfl, rfl, hz1, hz2, hj, hb⟩ := hrel
    have ha := and128u z hz2
    by_cases h1 : z < 128
    · rw [show z / 128 * 128 = 0 by omega] at ha
      have hj8 : j + 1 ≤ 8 := by
        have : 2 ^ j ≤ z := by rw [hz0]; exact Nat.le_mul_of_pos_left _ (by omega)
        have h3 : 2 ^ j < 2 ^ 8 := by omega
        have := (Nat.pow_lt_pow_iff_right (a := 2) (by omega)).1 h3
        omega
      have hz3 : 2 * z = y * 2 ^ (j + 1) := by rw [hz0, Nat.pow_succ, ← Nat.mul_assoc y]; exact Nat.mul_comm _ _
      clear hz0 hfin
      go_wp2
      go_roundw
      case rel => exact ⟨j + 1, 2 * z, hz3, by go_num, by go_num, by omega, by omega, hj8, hb⟩
      case measure => simp [intOf] <;> omega
    · rw [show z / 128 * 128 = 128 by omega] at ha
      have hf := hfin j (by omega) (by omega)
      clear hz0 hfin
      go_wp2
      go_ret
      exact ⟨hf, hb⟩
end Go.Proofs.YtcebfkhfnjbfjaaGreatDoor
namespace Go.Proofs.YtcebfkhfnjbfjaaGreatDoor
open Go.RowKit
set_option linter.unusedVariables false
set_option linter.unusedSimpArgs false
/-- A key's numbers as bytes, and what the reading asks of them. -/
structure KeyB (cn ce : List UInt8) : Prop where
  n : cn.length ≤ 1000
  e : ce.length ≤ 5
  gn : GoodI cn
  ge : GoodI ce
  bare : bareB cn ≠ []
  nz : accF ce ce.length ≠ 0
  small : accF ce ce.length < 2147483648
/-- The key as PKCS #1 writes it, and as X.509 does. -/
def innerB (cn ce : List UInt8) : List UInt8 := itemF 48 (itemF 2 cn ++ itemF 2 ce)
def headT : List UInt8 := [6, 9, 42, 134, 72, 134, 247, 13, 1, 1, 1, 5, 0]
def outerB (cn ce : List UInt8) : List UInt8 := itemF 48 (itemF 48 headT ++ itemF 3 (0 :: innerB cn ce))
set_option maxHeartbeats 1000000 in
set_option maxRecDepth 100000 in
theorem pkcs1_any (v : Value) (cn ce : List UInt8) (w : World) (h : Sl v (bs (innerB cn ce)) w) (hk : KeyB cn ce) :
    Calls Tryz.prog 66 #[v] w fun e w' => RsaE (bareB cn) (accF ce ce.length) e w' ∧ Below w.heap.size w w' := by
  have h1 := itemF_length 2 cn
  have h2 := itemF_length 2 ce
  have k1 := hk.n
  have k2 := hk.e
  have k3 := hk.small
  have hel := zzElement_any v 48 (itemF 2 cn ++ itemF 2 ce) [] w (by simpa [innerB] using h) (by simp; omega) (by simp) (by decide)
  obtain ⟨EE, hEE⟩ : ∃ EE, RsaE (bareB cn) (accF ce ce.length) = EE := ⟨_, rfl⟩
  rw [hEE]
  go_enter Tryz.func66, Tryz.ntmps66
  go_wp2_with fail
  refine hel.mono ?_
  rintro e w1 ⟨⟨vc, vr, rfl, hsc, hsr⟩, hb1⟩
  obtain ⟨ar, cr, rfl⟩ := hsr.lenB
  have h48 : (((48 : UInt8).toNat : Nat) : Int) = 48 := rfl
  rw [h48]
  simp only [List.length_nil] at hsr ⊢
  clear hel
  go_wp2_with fail
  refine (zzRSA_any vc cn ce [] w1 (by simpa using hsc) (by omega) k2 (by simp) hk.gn hk.ge hk.bare hk.nz).mono ?_
  rintro e w2 ⟨⟨K, vn, rfl, hK, hsn⟩, hb2⟩
  replace hb2 := hb1.trans (hb2.mono hb1.size)
  have c1 : w2.cell? ⟨K, 1, none⟩ = some (.int .i64 (accF ce ce.length : Int)) := by rw [cell_of_row w2 K 1 _ 101 (0, 0) hK]; rfl
  have hfin : EE (.returned (.tuple #[.pointer (some ⟨K, 0, none⟩), .nilIface])) w2 := by
    rw [← hEE]
    exact ⟨K, vn, rfl, hK, hsn⟩
  have hd : decide (2147483647 < (accF ce ce.length : Int)) = false := by simp; omega
  generalize accF ce ce.length = x at c1 hd
  go_wp2
  go_ret2
  exact ⟨hfin, hb2⟩
set_option maxHeartbeats 2000000 in
set_option maxRecDepth 100000 in
theorem pkix_inner (v : Value) (cn ce : List UInt8) (w : World) (h : Sl v (bs (innerB cn ce)) w) (hk : KeyB cn ce) :
    Calls Tryz.prog 65 #[v] w fun e w' => (∃ d x, e = .returned (.tuple #[.pointer none, .iface d x])) ∧ Below w.heap.size w w' := by
  have h1 := itemF_length 2 cn
  have h2 := itemF_length 2 ce
  have k1 := hk.n
  have k2 := hk.e
  go_enter Tryz.func65, Tryz.ntmps65
  go_wp2_with fail
  refine (newErr_any _ w).mono ?_
  rintro e w1 ⟨⟨d, x, rfl⟩, hb1⟩
  have hel := zzElement_any v 48 (itemF 2 cn ++ itemF 2 ce) [] w1 (by simpa [innerB] using h.below hb1 (Nat.le_refl _)) (by simp; omega) (by simp) (by decide)
  go_wp2_with fail
  refine hel.mono ?_
  rintro e w2 ⟨⟨vc, vr, rfl, hsc, hsr⟩, hb2⟩
  replace hb2 := hb1.trans (hb2.mono hb1.size)
  clear hel hb1
  obtain ⟨ar, cr, rfl⟩ := hsr.lenB
  have h48 : (((48 : UInt8).toNat : Nat) : Int) = 48 := rfl
  rw [h48]
  simp only [List.length_nil] at hsr ⊢
  go_wp2_with fail
  refine (zzElement_any vc 2 cn (itemF 2 ce) w2 hsc (by omega) (by omega) (by decide)).mono ?_
  rintro e w3 ⟨⟨vc2, vr2, rfl, hsc2, hsr2⟩, hb3⟩
  replace hb3 := hb2.trans (hb3.mono hb2.size)
  have h22 : (((2 : UInt8).toNat : Nat) : Int) = 2 := rfl
  rw [h22]
  go_wp2_with fail
  go_ret2
  exact ⟨⟨_, _, rfl⟩, hb3⟩
theorem itemF_pos (tag : UInt8) (s : List UInt8) : 0 < (itemF tag s).length := by
  unfold itemF
  by_cases h1 : s.length < 128
  · rw [if_pos h1]; simp
  · rw [if_neg h1]
    by_cases h2 : s.length < 256
    · rw [if_pos h2]; simp
    · rw [if_neg h2]; simp
theorem and0u (a : Nat) (h : a < 256) : Go.bits .and .u8 (a : Int) 0 = 0 := by
  have h1 := (bits_nat .u8 8 (by decide) wrapsU8 a 0 (by omega) (by decide)).1
  simpa using h1
set_option maxHeartbeats 2000000 in
set_option maxRecDepth 100000 in
theorem pkix_outer (v : Value) (cn ce : List UInt8) (w : World) (h : Sl v (bs (outerB cn ce)) w) (hk : KeyB cn ce) :
    Calls Tryz.prog 65 #[v] w fun e w' => RsaE (bareB cn) (accF ce ce.length) e w' ∧ Below w.heap.size w w' := by
  have h1 := itemF_length 2 cn
  have h2 := itemF_length 2 ce
  have k1 := hk.n
  have k2 := hk.e
  have hin : (innerB cn ce).length ≤ 1017 := by
    have := itemF_length 48 (itemF 2 cn ++ itemF 2 ce)
    unfold innerB
    simp only [List.length_append] at this
    omega
  have hht : headT.length = 13 := rfl
  have h3 := itemF_length 48 headT
  have h4 := itemF_length 3 (0 :: innerB cn ce)
  simp only [List.length_cons] at h4
  obtain ⟨EE, hEE⟩ : ∃ EE, RsaE (bareB cn) (accF ce ce.length) = EE := ⟨_, rfl⟩
  rw [hEE]
  have h48 : (((48 : UInt8).toNat : Nat) : Int) = 48 := rfl
  have h33 : (((3 : UInt8).toNat : Nat) : Int) = 3 := rfl
  go_enter Tryz.func65, Tryz.ntmps65
  go_wp2_with fail
  refine (newErr_any _ w).mono ?_
  rintro e w1 ⟨⟨d, x, rfl⟩, hb1⟩
  have hel := zzElement_any v 48 (itemF 48 headT ++ itemF 3 (0 :: innerB cn ce)) [] w1 (by simpa [outerB] using h.below hb1 (Nat.le_refl _)) (by simp; omega) (by simp) (by decide)
  go_wp2_with fail
  refine hel.mono ?_
  rintro e w2 ⟨⟨vc, vr, rfl, hsc, hsr⟩, hb2⟩
  replace hb2 := hb1.trans (hb2.mono hb1.size)
  clear hel hb1
  obtain ⟨ar, cr, rfl⟩ := hsr.lenB
  rw [h48]
  simp only [List.length_nil] at hsr ⊢
  go_wp2_with fail
  refine (zzElement_any vc 48 headT (itemF 3 (0 :: innerB cn ce)) w2 hsc (by omega) (by omega) (by decide)).mono ?_
  rintro e w3 ⟨⟨vc2, vr2, rfl, hsc2, hsr2⟩, hb3⟩
  replace hb3 := hb2.trans (hb3.mono hb2.size)
  clear hb2 hsr hsc
  rw [h48]
  obtain ⟨v13, hd13, hs13⟩ := hsc2.takeB 13 (by omega)
  rw [show (((13 : Nat) : Int)) = 13 from rfl] at hd13
  have htx := hs13.text (P := Tryz.prog) (src := 22) (dst := 9) Tryz.underlying22 Tryz.underlying5 Tryz.underlying9 _ rfl
  rw [show headT.take 13 = headT from rfl] at htx
  have htl : ((str headT).toList == [6, 9, 42, 134, 72, 134, 247, 13, 1, 1, 1, 5, 0]) = true := by rw [toList_str]; rfl
  generalize str headT = sh at htx htl
  obtain ⟨a2, cp2, rfl⟩ := hsc2.lenB
  rw [hht] at hsc2 hd13 ⊢
  clear hs13
  go_wp2_with fail
  refine (zzElement_any vr2 3 (0 :: innerB cn ce) [] w3 (by simpa using hsr2) (by simp; omega) (by simp) (by decide)).mono ?_
  rintro e w4 ⟨⟨vc3, vr3, rfl, hsc3, hsr3⟩, hb4⟩
  replace hb4 := hb3.trans (hb4.mono hb3.size)
  clear hb3 hsc2 htx htl hd13
  rw [h33]
  obtain ⟨g3, o3, cp3, rfl, hc3⟩ := hsc3.byte (i := 0) (by simp)
  rw [Nat.add_zero, show ((((0 :: innerB cn ce).getD 0 0).toNat : Nat) : Int) = 0 from rfl] at hc3
  obtain ⟨v5, hd5, hs5⟩ := hsc3.dropB 1 (by simp)
  rw [show (((1 : Nat) : Int)) = 1 from rfl] at hd5
  rw [show (0 :: innerB cn ce).drop 1 = innerB cn ce from rfl] at hs5
  obtain ⟨m, hm⟩ : ∃ m, (innerB cn ce).length = m := ⟨_, rfl⟩
  have hm0 : 0 < m := by
    rw [← hm]
    exact itemF_pos _ _
  obtain ⟨g5, o5, cp5, rfl, hc5⟩ := hs5.byte (i := m - 1) (by omega)
  have hz := and0u ((innerB cn ce).getD (m - 1) 0).toNat ((innerB cn ce).getD (m - 1) 0).toNat_lt
  generalize ((innerB cn ce).getD (m - 1) 0).toNat = z at hz hc5
  rw [show (0 :: innerB cn ce).length = m + 1 by simp [hm]] at hd5 ⊢
  rw [hm] at hd5 hs5 hin
  obtain ⟨m1, hm1⟩ : ∃ m1, m + 1 = m1 := ⟨_, rfl⟩
  rw [hm1] at hd5 ⊢
  have hm2 : 0 < m1 := by omega
  have e1 : ((m : Int) == 0) = false := by simp; omega
  have e2 : ((m1 : Int) == 0) = false := by simp; omega
  have e3 : decide (0 < (m : Int)) = true := by simp; omega
  have e4 : ((m : Int) - 1).toNat = m - 1 := by omega
  have e5 : o5 + ((m : Int) - 1).toNat = o5 + (m - 1) := by omega
  clear hsc3 hsr3 h hm1
  have hel2 := zzElement_any (.slice (some ⟨g5, o5, none⟩) m cp5) 48 (itemF 2 cn ++ itemF 2 ce) [] w4 (by simpa [innerB, hm] using hs5) (by simp; omega) (by simp) (by decide)
  go_wp2_with fail
  refine hel2.mono ?_
  rintro e w5 ⟨⟨vc6, vr6, rfl, hsc6, hsr6⟩, hb5⟩
  replace hb5 := hb4.trans (hb5.mono hb4.size)
  clear hb4 hel2
  rw [h48]
  go_wp2_with fail
  refine (zzRSA_any vc6 cn ce [] w5 (by simpa using hsc6) (by omega) k2 (by simp) hk.gn hk.ge hk.bare hk.nz).mono ?_
  rintro e w6 ⟨⟨K, vn, rfl, hK, hsn⟩, hb6⟩
  replace hb6 := hb5.trans (hb6.mono hb5.size)
  have hfin : EE (.returned (.tuple #[.pointer (some ⟨K, 0, none⟩), .nilIface])) w6 := by
    rw [← hEE]
    exact ⟨K, vn, rfl, hK, hsn⟩
  go_wp2
  go_ret2
  exact ⟨hfin, hb6⟩
end Go.Proofs.YtcebfkhfnjbfjaaGreatDoor
