/- Contracts of zzElement, zzBare, zzInteger on what lItem writes. -/
import Derived.Test.YtcebfkhfnjbfjaaGreatDoorC26
import Derived.Test.YtcebfkhfnjbfjaaGreatDoorC15
import Derived.BigQuiet
import Derived.Laws.BitsLemmas
namespace Go.Proofs.YtcebfkhfnjbfjaaGreatDoor
open Go.RowKit
set_option linter.unusedVariables false
set_option linter.unusedSimpArgs false
theorem Sl.dropB {v : Value} {l : List UInt8} {w : World} (h : Sl v (bs l) w) (n : Nat) (hn : n ≤ l.length) :
    ∃ v', (∀ W, Sem.run Tryz.prog (Instr.sliceAt 22 v (some (.int .i64 (n : Int))) none none) W = .ok v' W) ∧ Sl v' (bs (l.drop n)) w := by
  obtain ⟨v', h1, h2⟩ := h.drop Tryz.underlying22 size5 .i64 n (by simpa [bs] using hn)
  exact ⟨v', fun W => by simp [Instr.sliceAt, run_underlying Tryz.underlying22, h1], by simpa [bs, List.map_drop] using h2⟩
theorem Sl.takeB {v : Value} {l : List UInt8} {w : World} (h : Sl v (bs l) w) (n : Nat) (hn : n ≤ l.length) :
    ∃ v', (∀ W, Sem.run Tryz.prog (Instr.sliceAt 22 v none (some (.int .i64 (n : Int))) none) W = .ok v' W) ∧ Sl v' (bs (l.take n)) w := by
  obtain ⟨v', h1, h2⟩ := h.takeF Tryz.underlying22 size5 .i64 n (by simpa [bs] using hn)
  exact ⟨v', fun W => by simp [Instr.sliceAt, run_underlying Tryz.underlying22, h1], by simpa [bs, List.map_take] using h2⟩
theorem wrapsI64 (n : Int) (h₀ : 0 ≤ n) (h₁ : n < 2 ^ 63) : IntKind.i64.wrap n = n := IntWalk.i64_in _ (by omega)
theorem wrapsU8 (n : Int) (h₀ : 0 ≤ n) (h₁ : n < 2 ^ 8) : IntKind.u8.wrap n = n := by rw [IntKind.wrap_u8]; omega
theorem and31 (a : Nat) (h : a < 256) : Go.bits .and .u8 (a : Int) 31 = ((a % 32 : Nat) : Int) := by
  have := bits_mask .u8 8 (by decide) wrapsU8 5 (by decide) (a : Int) (by omega) (by omega)
  have e : ((2 : Int) ^ 5 - 1) = 31 := by decide
  have e2 : ((2 : Int) ^ 5) = 32 := by decide
  rw [e, e2] at this
  rw [this]
  omega
theorem and127 (a : Nat) (h : a < 256) : Go.bits .and .i64 (a : Int) 127 = ((a % 128 : Nat) : Int) := by
  have := bits_mask .i64 63 (by decide) wrapsI64 7 (by decide) (a : Int) (by omega) (by omega)
  have e : ((2 : Int) ^ 7 - 1) = 127 := by decide
  have e2 : ((2 : Int) ^ 7) = 128 := by decide
  rw [e, e2] at this
  rw [this]
  omega
set_option maxRecDepth 100000 in
theorem nat_and128 : ∀ a : Fin 256, a.val &&& 128 = a.val / 128 * 128 := by decide
theorem and128 (a : Nat) (h : a < 256) : Go.bits .and .i64 (a : Int) 128 = ((a / 128 * 128 : Nat) : Int) := by
  have h1 := (bits_nat .i64 63 (by decide) wrapsI64 a 128 (by omega) (by decide)).1
  rw [nat_and128 ⟨a, h⟩] at h1
  exact h1
theorem and128u (a : Nat) (h : a < 256) : Go.bits .and .u8 (a : Int) 128 = ((a / 128 * 128 : Nat) : Int) := by
  have h1 := (bits_nat .u8 8 (by decide) wrapsU8 a 128 (by omega) (by decide)).1
  rw [nat_and128 ⟨a, h⟩] at h1
  exact h1
theorem nat_or256 (a b : Nat) (hb : b < 256) : (a * 256) ||| b = a * 256 + b := by
  have := Nat.two_pow_add_eq_or_of_lt (i := 8) hb a
  rw [show a * 256 = 2 ^ 8 * a by omega]
  exact this.symm
theorem or256 (a b : Nat) (ha : a < 16777216) (hb : b < 256) : Go.bits .or .i64 ((a : Int) * 256) (b : Int) = ((a * 256 + b : Nat) : Int) := by
  have h1 := (bits_nat .i64 63 (by decide) wrapsI64 (a * 256) b (by omega) (by omega)).2
  rw [nat_or256 a b hb] at h1
  rw [← h1]
  congr 1
/-- An element is returned. -/
def ElE (tag : UInt8) (c r : List UInt8) (e : Ending) (w : World) : Prop := ∃ vc vr, e = .returned (.tuple #[.int .u8 (tag.toNat : Int), vc, vr, .nilIface]) ∧ Sl vc (bs c) w ∧ Sl vr (bs r) w
set_option maxHeartbeats 1000000 in
set_option maxRecDepth 100000 in
theorem zzElement_any (v : Value) (tag : UInt8) (c r : List UInt8) (w : World) (h : Sl v (bs (itemF tag c ++ r)) w) (hc : c.length ≤ 60000) (hr : r.length ≤ 60000) (ht : tag.toNat % 32 ≠ 31) :
    Calls Tryz.prog 85 #[v] w fun e w' => ElE tag c r e w' ∧ Below w.heap.size w w' := by
  have hbel := Below.refl w.heap.size w
  obtain ⟨n, hn⟩ : ∃ n, c.length = n := ⟨_, rfl⟩
  obtain ⟨m, hm⟩ : ∃ m, r.length = m := ⟨_, rfl⟩
  obtain ⟨EE, hEE⟩ : ∃ EE, ElE tag c r = EE := ⟨_, rfl⟩
  rw [hEE]
  obtain ⟨t, htt⟩ : ∃ t, tag.toNat = t := ⟨_, rfl⟩
  have htl : t < 256 := by rw [← htt]; exact tag.toNat_lt
  rw [htt] at ht
  have ha31 := and31 t htl
  have hne : (((t % 32 : Nat) : Int) == 31) = false := by simp; omega
  generalize t % 32 = t32 at ha31 hne
  rw [hn] at hc
  rw [hm] at hr
  by_cases h1 : n < 128
  · have hL : itemF tag c ++ r = [tag, UInt8.ofNat n] ++ (c ++ r) := by unfold itemF; rw [hn, if_pos h1]; simp
    rw [hL] at h
    have hlen : ([tag, UInt8.ofNat n] ++ (c ++ r)).length = n + m + 2 := by simp [hn, hm]
    obtain ⟨g, o, cap, e, h0⟩ := h.byte (i := 0) (by omega)
    obtain ⟨g', o', cap', e', h2⟩ := h.byte (i := 1) (by omega)
    rw [e] at e'
    simp only [Value.slice.injEq, Option.some.injEq, Addr.mk.injEq] at e'
    obtain ⟨⟨rfl, rfl, -⟩, -, rfl⟩ := e'
    rw [show (([tag, UInt8.ofNat n] ++ (c ++ r)).getD 0 0).toNat = t from htt] at h0
    rw [show (([tag, UInt8.ofNat n] ++ (c ++ r)).getD 1 0).toNat = n by simp; omega] at h2
    obtain ⟨v2, hd2, hs2⟩ := h.dropB 2 (by omega)
    rw [show (((2 : Nat) : Int)) = 2 from rfl] at hd2
    rw [show ([tag, UInt8.ofNat n] ++ (c ++ r)).drop 2 = c ++ r by simp] at hs2
    obtain ⟨a2, c2, hv2⟩ := hs2.lenB
    rw [show (c ++ r).length = n + m by simp [hn, hm]] at hv2
    obtain ⟨v3, hd3, hs3⟩ := hs2.takeB n (by simp [hn])
    obtain ⟨v4, hd4, hs4⟩ := hs2.dropB n (by simp [hn])
    rw [show (c ++ r).take n = c by simp [← hn]] at hs3
    rw [show (c ++ r).drop n = r by simp [← hn]] at hs4
    have hfin : ∀ W, Below w.heap.size w W → EE (.returned (.tuple #[.int .u8 (t : Int), v3, v4, .nilIface])) W := by
      intro W hW
      rw [← hEE]
      exact ⟨v3, v4, by rw [htt], hs3.below hW (Nat.le_refl _), hs4.below hW (Nat.le_refl _)⟩
    rw [hv2] at hd2 hd3 hd4
    rw [hlen] at e
    subst e
    have ha128 := and128 n (by omega)
    rw [show n / 128 * 128 = 0 by omega] at ha128
    obtain ⟨q2, hq2⟩ : ∃ q2, n + m = q2 := ⟨_, rfl⟩
    obtain ⟨q, hq⟩ : ∃ q, q2 + 2 = q := ⟨_, rfl⟩
    rw [hq2] at hd2 hd3 hd4 ⊢
    rw [hq] at hd2 ⊢
    have hle : decide ((q2 : Int) < (n : Int)) = false := by simp; omega
    have hq3 : 2 ≤ q := by omega
    have hle2 : ¬ q2 < n := by omega
    clear hs2 hs3 hs4 hv2 h hL hlen hn hm hEE htt hq hq2
    rw [Nat.add_zero] at h0
    go_enter Tryz.func85, Tryz.ntmps85
    go_wp2_with fail
    go_quiet (fail)
    go_wp2
    refine bodyPost_ret (results_tmp4 rfl _ _ _) rfl ?_
    have hbd : Below w.heap.size w w.drew := ⟨rfl, rfl, rfl, Nat.le_refl _, fun _ _ => rfl⟩
    exact ⟨hfin _ ⟨rfl, rfl, rfl, Nat.le_refl _, fun _ _ => rfl⟩, ⟨rfl, rfl, rfl, Nat.le_refl _, fun _ _ => rfl⟩⟩
  · by_cases h256 : n < 256
    · have hL : itemF tag c ++ r = [tag, 129, UInt8.ofNat n] ++ (c ++ r) := by unfold itemF; rw [hn, if_neg h1, if_pos h256]; simp
      rw [hL] at h
      have hlen : ([tag, 129, UInt8.ofNat n] ++ (c ++ r)).length = n + m + 3 := by simp [hn, hm]
      obtain ⟨g, o, cap, e, h0⟩ := h.byte (i := 0) (by omega)
      obtain ⟨g', o', cap', e', h2⟩ := h.byte (i := 1) (by omega)
      rw [e] at e'
      simp only [Value.slice.injEq, Option.some.injEq, Addr.mk.injEq] at e'
      obtain ⟨⟨rfl, rfl, -⟩, -, rfl⟩ := e'
      rw [show (([tag, 129, UInt8.ofNat n] ++ (c ++ r)).getD 0 0).toNat = t from htt] at h0
      rw [show ((([tag, 129, UInt8.ofNat n] ++ (c ++ r)).getD 1 0).toNat : Int) = 129 from rfl] at h2
      obtain ⟨v2, hd2, hs2⟩ := h.dropB 2 (by omega)
      rw [show (((2 : Nat) : Int)) = 2 from rfl] at hd2
      rw [show ([tag, 129, UInt8.ofNat n] ++ (c ++ r)).drop 2 = UInt8.ofNat n :: (c ++ r) by simp] at hs2
      obtain ⟨g2, o2, c2, hv2, h3⟩ := hs2.byte (i := 0) (by simp)
      rw [show ((UInt8.ofNat n :: (c ++ r)).getD 0 0).toNat = n by simp; omega, Nat.add_zero] at h3
      rw [show (UInt8.ofNat n :: (c ++ r)).length = n + m + 1 by simp [hn, hm]] at hv2
      obtain ⟨v5, hd5, hs5⟩ := hs2.dropB 1 (by simp)
      rw [show (((1 : Nat) : Int)) = 1 from rfl] at hd5
      rw [show (UInt8.ofNat n :: (c ++ r)).drop 1 = c ++ r by simp] at hs5
      obtain ⟨a5, c5, hv5⟩ := hs5.lenB
      rw [show (c ++ r).length = n + m by simp [hn, hm]] at hv5
      obtain ⟨v3, hd3, hs3⟩ := hs5.takeB n (by simp [hn])
      obtain ⟨v4, hd4, hs4⟩ := hs5.dropB n (by simp [hn])
      rw [show (c ++ r).take n = c by simp [← hn]] at hs3
      rw [show (c ++ r).drop n = r by simp [← hn]] at hs4
      have hfin : ∀ W, Below w.heap.size w W → EE (.returned (.tuple #[.int .u8 (t : Int), v3, v4, .nilIface])) W := by
        intro W hW
        rw [← hEE]
        exact ⟨v3, v4, by rw [htt], hs3.below hW (Nat.le_refl _), hs4.below hW (Nat.le_refl _)⟩
      rw [hlen] at e
      subst e hv2 hv5
      obtain ⟨q2, hq2⟩ : ∃ q2, n + m = q2 := ⟨_, rfl⟩
      obtain ⟨q1, hq1⟩ : ∃ q1, q2 + 1 = q1 := ⟨_, rfl⟩
      obtain ⟨q, hq⟩ : ∃ q, q2 + 3 = q := ⟨_, rfl⟩
      rw [hq2] at hd2 hd3 hd4 hd5
      rw [hq2] at ⊢
      rw [hq1] at hd2 hd5
      rw [hq] at hd2 ⊢
      have hq3 : 2 ≤ q := by omega
      have hq4 : 1 ≤ q1 := by omega
      have hle2 : ¬ q2 < n := by omega
      have hq5 : n ≤ q2 := by omega
      have hn0 : 128 ≤ n := by omega
      have a128 : Go.bits .and .i64 129 128 = 128 := and128 129 (by omega)
      have a127 : Go.bits .and .i64 129 127 = 1 := and127 129 (by omega)
      have aor : Go.bits .or .i64 0 (n : Int) = (n : Int) := by
        have := or256 0 n (by omega) (by omega)
        simpa using this
      clear hs2 hs3 hs4 hs5 h hL hlen hn hm hEE htt hq hq1 hq2
      rw [Nat.add_zero] at h0
      go_enter Tryz.func85, Tryz.ntmps85
      go_wp2_with fail
      go_loopw [0, 2, 6, 8] (fun v0 v2 v6 v8 W => v2 = .int .u8 (t : Int) ∧ ((v8 = .int .i64 0 ∧ v6 = .int .i64 0 ∧ v0 = .slice (some ⟨g2, o2, none⟩) q1 c2) ∨ (v8 = .int .i64 1 ∧ v6 = .int .i64 (n : Int) ∧ v0 = .slice a5 q2 c5)) ∧ W = w) (fun _ _ _ v8 _ => (2 - intOf v8).toNat)
      case atStart => exact ⟨rfl, .inl ⟨rfl, rfl, rfl⟩, rfl⟩
      case round =>
        obtain ⟨rfl, ⟨rfl, rfl, rfl⟩ | ⟨rfl, rfl, rfl⟩, rfl⟩ := hrel
        · go_wp2_with fail
          go_roundw
          case rel => exact ⟨rfl, .inr ⟨rfl, rfl, rfl⟩, trivial⟩
          case measure => simp [intOf]
        · go_wp2_with fail
          go_quiet (fail)
          go_wp2
          refine bodyPost_ret (results_tmp4 rfl _ _ _) rfl ?_
          exact ⟨hfin _ ⟨rfl, rfl, rfl, Nat.le_refl _, fun _ _ => rfl⟩, ⟨rfl, rfl, rfl, Nat.le_refl _, fun _ _ => rfl⟩⟩
    · have hL : itemF tag c ++ r = [tag, 130, UInt8.ofNat (n / 256), UInt8.ofNat n] ++ (c ++ r) := by unfold itemF; rw [hn, if_neg h1, if_neg h256]; simp
      rw [hL] at h
      have hlen : ([tag, 130, UInt8.ofNat (n / 256), UInt8.ofNat n] ++ (c ++ r)).length = n + m + 4 := by simp [hn, hm]
      obtain ⟨g, o, cap, e, h0⟩ := h.byte (i := 0) (by omega)
      obtain ⟨g', o', cap', e', h2⟩ := h.byte (i := 1) (by omega)
      rw [e] at e'
      simp only [Value.slice.injEq, Option.some.injEq, Addr.mk.injEq] at e'
      obtain ⟨⟨rfl, rfl, -⟩, -, rfl⟩ := e'
      rw [show (([tag, 130, UInt8.ofNat (n / 256), UInt8.ofNat n] ++ (c ++ r)).getD 0 0).toNat = t from htt] at h0
      rw [show ((([tag, 130, UInt8.ofNat (n / 256), UInt8.ofNat n] ++ (c ++ r)).getD 1 0).toNat : Int) = 130 from rfl] at h2
      obtain ⟨v2, hd2, hs2⟩ := h.dropB 2 (by omega)
      rw [show (((2 : Nat) : Int)) = 2 from rfl] at hd2
      rw [show ([tag, 130, UInt8.ofNat (n / 256), UInt8.ofNat n] ++ (c ++ r)).drop 2 = UInt8.ofNat (n / 256) :: UInt8.ofNat n :: (c ++ r) by simp] at hs2
      obtain ⟨g2, o2, c2, hv2, h3⟩ := hs2.byte (i := 0) (by simp)
      rw [show ((UInt8.ofNat (n / 256) :: UInt8.ofNat n :: (c ++ r)).getD 0 0).toNat = n / 256 by simp; omega, Nat.add_zero] at h3
      rw [show (UInt8.ofNat (n / 256) :: UInt8.ofNat n :: (c ++ r)).length = n + m + 2 by simp [hn, hm]] at hv2
      obtain ⟨v6, hd6, hs6⟩ := hs2.dropB 1 (by simp)
      rw [show (((1 : Nat) : Int)) = 1 from rfl] at hd6
      rw [show (UInt8.ofNat (n / 256) :: UInt8.ofNat n :: (c ++ r)).drop 1 = UInt8.ofNat n :: (c ++ r) by simp] at hs6
      obtain ⟨g6, o6, c6, hv6, h6⟩ := hs6.byte (i := 0) (by simp)
      rw [show ((UInt8.ofNat n :: (c ++ r)).getD 0 0).toNat = n % 256 by simp, Nat.add_zero] at h6
      rw [show (UInt8.ofNat n :: (c ++ r)).length = n + m + 1 by simp [hn, hm]] at hv6
      obtain ⟨v5, hd5, hs5⟩ := hs6.dropB 1 (by simp)
      rw [show (((1 : Nat) : Int)) = 1 from rfl] at hd5
      rw [show (UInt8.ofNat n :: (c ++ r)).drop 1 = c ++ r by simp] at hs5
      obtain ⟨a5, c5, hv5⟩ := hs5.lenB
      rw [show (c ++ r).length = n + m by simp [hn, hm]] at hv5
      obtain ⟨v3, hd3, hs3⟩ := hs5.takeB n (by simp [hn])
      obtain ⟨v4, hd4, hs4⟩ := hs5.dropB n (by simp [hn])
      rw [show (c ++ r).take n = c by simp [← hn]] at hs3
      rw [show (c ++ r).drop n = r by simp [← hn]] at hs4
      have hfin : ∀ W, Below w.heap.size w W → EE (.returned (.tuple #[.int .u8 (t : Int), v3, v4, .nilIface])) W := by
        intro W hW
        rw [← hEE]
        exact ⟨v3, v4, by rw [htt], hs3.below hW (Nat.le_refl _), hs4.below hW (Nat.le_refl _)⟩
      rw [hlen] at e
      subst e hv2 hv5 hv6
      obtain ⟨q3, hq3⟩ : ∃ q3, n + m = q3 := ⟨_, rfl⟩
      obtain ⟨q2, hq2⟩ : ∃ q2, q3 + 1 = q2 := ⟨_, rfl⟩
      obtain ⟨q1, hq1⟩ : ∃ q1, q3 + 2 = q1 := ⟨_, rfl⟩
      obtain ⟨q, hq⟩ : ∃ q, q3 + 4 = q := ⟨_, rfl⟩
      rw [hq3] at hd2 hd3 hd4 hd5 hd6
      rw [hq3] at ⊢
      rw [hq2] at hd6 hd5
      rw [hq1] at hd2 hd6
      rw [hq] at hd2 ⊢
      have k1 : 2 ≤ q := by omega
      have k2 : 1 ≤ q1 := by omega
      have k3 : 1 ≤ q2 := by omega
      have hle2 : ¬ q3 < n := by omega
      have hq5 : n ≤ q3 := by omega
      have a128 : Go.bits .and .i64 130 128 = 128 := and128 130 (by omega)
      have a127 : Go.bits .and .i64 130 127 = 2 := and127 130 (by omega)
      have hn0 : 128 ≤ n := by omega
      obtain ⟨na, hna⟩ : ∃ na, n / 256 = na := ⟨_, rfl⟩
      obtain ⟨nb, hnb⟩ : ∃ nb, n % 256 = nb := ⟨_, rfl⟩
      have aor : Go.bits .or .i64 0 (na : Int) = (na : Int) := by
        have := or256 0 na (by omega) (by omega)
        simpa using this
      have aor2 : Go.bits .or .i64 ((na : Int) * 256) (nb : Int) = (n : Int) := by
        have := or256 na nb (by omega) (by omega)
        rw [this]
        omega
      have hna0 : 1 ≤ na := by omega
      have hna1 : na < 256 := by omega
      have hnbl : nb < 256 := by omega
      have hbig : decide (8388608 ≤ (na : Int)) = false := by simp; omega
      have hbig2 : ¬ 8388608 ≤ na := by omega
      rw [hna] at h3
      rw [hnb] at h6
      clear hs2 hs3 hs4 hs5 hs6 h hL hlen hn hm hEE htt hq hq1 hq2 hq3 hna hnb
      rw [Nat.add_zero] at h0
      go_enter Tryz.func85, Tryz.ntmps85
      go_wp2_with fail
      go_loopw [0, 2, 6, 8] (fun v0 v2 v6 v8 W => v2 = .int .u8 (t : Int) ∧ ((v8 = .int .i64 0 ∧ v6 = .int .i64 0 ∧ v0 = .slice (some ⟨g2, o2, none⟩) q1 c2) ∨ (v8 = .int .i64 1 ∧ v6 = .int .i64 (na : Int) ∧ v0 = .slice (some ⟨g6, o6, none⟩) q2 c6) ∨ (v8 = .int .i64 2 ∧ v6 = .int .i64 (n : Int) ∧ v0 = .slice a5 q3 c5)) ∧ W = w) (fun _ _ _ v8 _ => (3 - intOf v8).toNat)
      case atStart => exact ⟨rfl, .inl ⟨rfl, rfl, rfl⟩, rfl⟩
      case round =>
        obtain ⟨rfl, ⟨rfl, rfl, rfl⟩ | ⟨rfl, rfl, rfl⟩ | ⟨rfl, rfl, rfl⟩, rfl⟩ := hrel
        · go_wp2_with fail
          go_roundw
          case rel => exact ⟨rfl, .inr (.inl ⟨rfl, rfl, rfl⟩), trivial⟩
          case measure => simp [intOf]
        · clear hd2 hd3 hd4 hd6 hfin hr ht htl h256 h1
          go_wp2_with fail
          go_roundw
          case rel => exact ⟨rfl, .inr (.inr ⟨rfl, rfl, rfl⟩), trivial⟩
          case measure => simp [intOf]
        · go_wp2_with fail
          go_quiet (fail)
          go_wp2
          refine bodyPost_ret (results_tmp4 rfl _ _ _) rfl ?_
          exact ⟨hfin _ ⟨rfl, rfl, rfl, Nat.le_refl _, fun _ _ => rfl⟩, ⟨rfl, rfl, rfl, Nat.le_refl _, fun _ _ => rfl⟩⟩
end Go.Proofs.YtcebfkhfnjbfjaaGreatDoor
