/- Contract of zzDecode on what dText64 writes. Contract of zzDecode on what dText64 writes: the walk. -/
import Derived.Test.YtcebfkhfnjbfjaaGreatDoorC29
import Derived.Test.YtcebfkhfnjbfjaaGreatDoorC27
import Derived.BigQuiet
namespace Go.Proofs.YtcebfkhfnjbfjaaGreatDoor
open Go.RowKit
set_option linter.unusedVariables false
set_option linter.unusedSimpArgs false
theorem oneCell_bs (l : List UInt8) : ∀ u ∈ bs l, u.oneCell' = true := by
  intro u hu
  simp only [bs, List.mem_map] at hu
  obtain ⟨b, _, rfl⟩ := hu
  rfl
/-- Append of bytes that are read to an owned slice of bytes. -/
theorem app_sl {base : Nat} {v kv : Value} {xs ks : List UInt8} {w : World} (ty : TypeId) (hown : Own base 5 v (bs xs) w) (hk : Sl kv (bs ks) w) (hk0 : 0 < ks.length) (hb : xs.length + ks.length ≤ 1000000) (hbase : base ≤ w.heap.size) :
    Appended base 5 v (bs xs) (bs ks) w ((Builtin.append_ #[22, 22] ty #[v, kv]).run Tryz.prog w) := by
  obtain ⟨i, hi, hz, hs, hby⟩ := info_of info5
  obtain ⟨a, cap, rfl, h2, h3, h4⟩ := hk
  have hl : (bs ks).length = ks.length := by simp [bs]
  have hlx : (bs xs).length = xs.length := by simp [bs]
  rcases h4 with ⟨h4, _⟩ | ⟨g, o, rfl, h5⟩
  · have : ks = [] := by simpa [bs] using h4
    subst this
    simp at hk0
  · refine run_append_Own 22 ty 5 i _ 1 Tryz.underlying22 hi hz hs hby rfl hown ⟨g, o, none⟩ _ cap (bs ks) rfl (fun j u hu => ?_) (oneCell_bs ks) (by omega) (by simp only [maxLen]; omega) hbase
    have := h5 j u hu
    have hadd : (⟨g, o, none⟩ : Addr).add j = ⟨g, o + j, none⟩ := by unfold Addr.add; split <;> simp_all
    rw [hadd]
    exact this
set_option maxRecDepth 100000 in
theorem digT_inj : ∀ a b : Fin 64, digT.getD a.val 0 = digT.getD b.val 0 → a = b := by decide
set_option maxRecDepth 100000 in
theorem digT_61 : ∀ a : Fin 64, digT.getD a.val 0 ≠ 61 ∧ digT.getD a.val 0 ≠ 13 ∧ digT.getD a.val 0 ≠ 10 := by decide
/-- The sextet k of a group. -/
def sext (l : List UInt8) (i k : Nat) : Nat := num3 l i / 2 ^ (18 - 6 * k) % 64
theorem dig64_or (l : List UInt8) (i k : Nat) : dig64 l i k = 61 ∨ ∃ q, q < 64 ∧ dig64 l i k = digT.getD q 0 := by
  unfold dig64
  split
  · exact .inl rfl
  · exact .inr ⟨_, Nat.mod_lt _ (by omega), rfl⟩
theorem text64_mem (l : List UInt8) : ∀ g, ∀ c ∈ text64 l g, c.toNat ≠ 13 ∧ c.toNat ≠ 10
  | 0 => by simp [text64]
  | g + 1 => by
    intro c hc
    rw [text64, List.mem_append] at hc
    rcases hc with hc | hc
    · exact text64_mem l g c hc
    · have : ∃ k, c = dig64 l (3 * g) k := by
        simp only [four, List.mem_cons, List.not_mem_nil, or_false] at hc
        rcases hc with rfl | rfl | rfl | rfl <;> exact ⟨_, rfl⟩
      obtain ⟨k, rfl⟩ := this
      rcases dig64_or l (3 * g) k with h | ⟨q, hq, h⟩
      · rw [h]; decide
      · rw [h]
        have := digT_61 ⟨q, hq⟩
        exact ⟨fun e => this.2.1 (UInt8.toNat_inj.1 e), fun e => this.2.2 (UInt8.toNat_inj.1 e)⟩
theorem text64_four (l : List UInt8) : ∀ G g, g < G → ∀ k, k < 4 → (text64 l G).getD (4 * g + k) 0 = dig64 l (3 * g) k
  | 0, g, h, _, _ => by omega
  | G + 1, g, h, k, hk => by
    have hl := text64_length l G
    rw [text64, List.getD_eq_getElem?_getD]
    by_cases e : g < G
    · rw [List.getElem?_append_left (by omega), ← List.getD_eq_getElem?_getD]
      exact text64_four l G g e k hk
    · obtain rfl : g = G := by omega
      rw [List.getElem?_append_right (by omega), hl, show 4 * g + k - 4 * g = k by omega]
      rcases k with _ | _ | _ | _ | k
      · rfl
      · rfl
      · rfl
      · rfl
      · omega
/-- The sextets so far. -/
def sexts (l : List UInt8) (i k : Nat) : Nat := num3 l i / 2 ^ (24 - 6 * k)
theorem sexts_step (l : List UInt8) (i k : Nat) (hk : k < 4) : sexts l i (k + 1) = sexts l i k * 64 + sext l i k := by
  unfold sexts sext
  generalize num3 l i = x
  rcases k with _ | _ | _ | _ | k
  · show x / 2 ^ 18 = x / 2 ^ 24 * 64 + x / 2 ^ 18 % 64; omega
  · show x / 2 ^ 12 = x / 2 ^ 18 * 64 + x / 2 ^ 12 % 64; omega
  · show x / 2 ^ 6 = x / 2 ^ 12 * 64 + x / 2 ^ 6 % 64; omega
  · show x / 2 ^ 0 = x / 2 ^ 6 * 64 + x / 2 ^ 0 % 64; omega
  · omega
theorem num3_lt (l : List UInt8) (i : Nat) : num3 l i < 16777216 := by
  have := (acc3_lt l i).2.2.2
  rwa [acc3_num] at this
theorem sexts_zero (l : List UInt8) (i : Nat) : sexts l i 0 = 0 := by
  have := num3_lt l i
  unfold sexts
  show num3 l i / 2 ^ 24 = 0
  omega
theorem sexts_four (l : List UInt8) (i : Nat) : sexts l i 4 = num3 l i := by
  unfold sexts
  show num3 l i / 2 ^ 0 = _
  omega
/-- Behind the text's end the sextets are noughts. -/
theorem sext_pad (l : List UInt8) (i k : Nat) (hi : i < l.length) (hk : l.length < i + k) (hk4 : k < 4) : sext l i k = 0 := by
  have hz : ∀ j, l.length ≤ j → (l.getD j 0).toNat = 0 := fun j hj => by rw [List.getD_eq_getElem?_getD, List.getElem?_eq_none hj]; rfl
  unfold sext num3
  have h0 := (l.getD i 0).toNat_lt
  have h1 := (l.getD (i + 1) 0).toNat_lt
  rw [hz (i + 2) (by omega)]
  generalize (l.getD i 0).toNat = a at h0
  by_cases e : k = 3
  · subst e
    show (a * 65536 + (l.getD (i + 1) 0).toNat * 256 + 0) / 2 ^ 0 % 64 = 0
    omega
  · obtain rfl : k = 2 := by omega
    rw [hz (i + 1) (by omega)]
    show (a * 65536 + 0 * 256 + 0) / 2 ^ 6 % 64 = 0
    omega
/-- Which digit stands there; 64: none. -/
def digQ (l : List UInt8) (i k : Nat) : Nat := if l.length < i + k then 64 else sext l i k
theorem digQ_iff (l : List UInt8) (i k j : Nat) (hj : j < 64) : digT.getD j 0 = dig64 l i k ↔ j = digQ l i k := by
  unfold dig64 digQ
  by_cases h : l.length < i + k
  · rw [if_pos (by omega), if_pos h]
    exact ⟨fun e => absurd e (digT_61 ⟨j, hj⟩).1, fun e => by omega⟩
  · rw [if_neg (by omega), if_neg h]
    have hq : sext l i k < 64 := Nat.mod_lt _ (by omega)
    constructor
    · intro e
      have := digT_inj ⟨j, hj⟩ ⟨sext l i k, hq⟩ e
      exact congrArg Fin.val this
    · rintro rfl
      rfl
theorem take_three (l : List UInt8) (g : Nat) (hg : 3 * g < l.length) : l.take (3 * g) ++ ([l.getD (3 * g) 0, l.getD (3 * g + 1) 0, l.getD (3 * g + 2) 0].take (l.length - 3 * g)) = l.take (3 * (g + 1)) := by
  have h1 : l.take (3 * (g + 1)) = l.take (3 * g) ++ (l.drop (3 * g)).take 3 := by
    rw [show 3 * (g + 1) = 3 * g + 3 by omega, List.take_add]
  rw [h1]
  congr 1
  have hd : ∀ j, l.getD (3 * g + j) 0 = (l.drop (3 * g)).getD j 0 := fun j => by simp [List.getD_eq_getElem?_getD, List.getElem?_drop]
  rw [show l.getD (3 * g) 0 = (l.drop (3 * g)).getD 0 0 from hd 0, hd 1, hd 2]
  have hlen : (l.drop (3 * g)).length = l.length - 3 * g := List.length_drop
  rw [← hlen]
  generalize l.drop (3 * g) = r
  rcases r with _ | ⟨a, _ | ⟨b, _ | ⟨c, r⟩⟩⟩ <;> simp [List.getD_eq_getElem?_getD]
end Go.Proofs.YtcebfkhfnjbfjaaGreatDoor
namespace Go.Proofs.YtcebfkhfnjbfjaaGreatDoor
open Go.RowKit
set_option linter.unusedVariables false
set_option linter.unusedSimpArgs false
/-- Bytes, and no error, are returned. -/
def DecE (l : List UInt8) (e : Ending) (w : World) : Prop := ∃ v, e = .returned (.tuple #[v, .nilIface]) ∧ Sl v (bs l) w
theorem wrapsU64 (n : Int) (h₀ : 0 ≤ n) (h₁ : n < 2 ^ 63) : IntKind.u64.wrap n = n := by rw [IntKind.wrap_u64]; omega
theorem nat_or64 (a b : Nat) (hb : b < 64) : (a * 64) ||| b = a * 64 + b := by
  have := Nat.two_pow_add_eq_or_of_lt (i := 6) hb a
  rw [show a * 64 = 2 ^ 6 * a by omega]
  exact this.symm
theorem or64u (a b : Nat) (ha : a < 18014398509481984) (hb : b < 64) : Go.bits .or .u64 ((a : Int) * 64) (b : Int) = ((a * 64 + b : Nat) : Int) := by
  have h1 := (bits_nat .u64 63 (by decide) wrapsU64 (a * 64) b (by omega) (by omega)).2
  rw [nat_or64 a b hb] at h1
  rw [← h1]
  congr 1
/-- How many digits are known behind k signs, m bytes there. -/
def digN (m k : Nat) : Nat := if k ≤ m + 1 then 4 else m + 1
set_option maxHeartbeats 4000000 in
set_option maxRecDepth 100000 in
theorem zzDecode_any (l : List UInt8) (w : World) (hl : l.length ≤ 20000) :
    Calls Tryz.prog 64 #[.string (str (text64F l))] w fun e w' => DecE l e w' ∧ Below w.heap.size w w' := by
  obtain ⟨EE, hEE⟩ : ∃ EE, DecE l = EE := ⟨_, rfl⟩
  rw [hEE]
  obtain ⟨n, hn⟩ : ∃ n, l.length = n := ⟨_, rfl⟩
  obtain ⟨G, hG⟩ : ∃ G, (l.length + 2) / 3 = G := ⟨_, rfl⟩
  have htl : (text64F l).length = 4 * G := by rw [text64F, hG, text64_length]
  have hmem := text64_mem l G
  have hfour := text64_four l G
  have htF : text64F l = text64 l G := by rw [text64F, hG]
  rw [htF] at htl ⊢
  obtain ⟨t, ht⟩ : ∃ t, text64 l G = t := ⟨_, rfl⟩
  rw [ht] at hmem hfour htl ⊢
  have hsz : (str t).size = 4 * G := by rw [str_size]; exact htl
  obtain ⟨N, hN⟩ : ∃ N, 4 * G = N := ⟨_, rfl⟩
  rw [hN] at hsz htl
  rw [hn] at hG hl
  go_enter Tryz.func64, Tryz.ntmps64
  go_wp2_with fail
  refine (newErr_any _ w).mono ?_
  rintro e w1 ⟨⟨d, x, rfl⟩, hb1⟩
  go_wp2_with fail
  go_loopw [5, 6] (fun v5 v6 W => ∃ i : Nat, v6 = .int .i64 (i : Int) ∧ i ≤ N ∧ Own w.heap.size 5 v5 (bs (t.take i)) W ∧ Below w.heap.size w W) (fun _ v6 _ => (N - intOf v6).toNat)
  case atStart => exact ⟨0, rfl, by omega, by simpa using Own.nil _ _ _, hb1⟩
  case round =>
    clear hb1
    obtain ⟨i, rfl, hi, hown, hb1⟩ := hrel
    by_cases h1 : i < N
    · have hd1 : decide ((i : Int) < (N : Int)) = true := by simp; omega
      have hix := str_at (P := Tryz.prog) Tryz.underlying9 t .i64 i (by omega)
      have hm := hmem (t.getD i 0) (by rw [List.getD_eq_getElem?_getD, List.getElem?_eq_getElem (by omega)]; exact List.getElem_mem _)
      have htk : t.take (i + 1) = t.take i ++ [t.getD i 0] := by
        rw [List.take_add_one, List.getElem?_eq_getElem (by omega), List.getD_eq_getElem?_getD, List.getElem?_eq_getElem (by omega)]
        rfl
      have hroom : (bs (t.take i)).length + 1 ≤ 140737488355328 := by simp [bs]; omega
      obtain ⟨tt, htt⟩ : ∃ tt, t.take (i + 1) = tt := ⟨_, rfl⟩
      rw [htt] at htk
      generalize t.getD i 0 = c at hix htk hm
      obtain ⟨y, hy⟩ : ∃ y : Int, ((c.toNat : Nat) : Int) = y := ⟨_, rfl⟩
      have e1 : (y != 13) = true := by have := hm.1; simp; omega
      have e2 : (y != 10) = true := by have := hm.2; simp; omega
      have e3 : ¬ y = 13 := by have := hm.1; omega
      have e4 : ¬ y = 10 := by have := hm.2; omega
      rw [hy] at hix
      generalize t.take i = t0 at hown hroom htk
      clear hm
      go_wp2_with (at_builtin; refine wpList_app rfl (.tmp 30) (.tmp 34) 22 22 rfl _ _ rfl rfl (app_byte _ _ hown hroom hb1.size) ?_; intro v' w2 ho hg; replace hb1 := (hown.alloc _).belowGrown (hb1.alloc hb1.size _) hg (Nat.le_refl _) (by have := hb1.size; simp; omega); replace ho := ho.byteEnd (c := c) hy.symm; rw [← htk, ← htt] at ho; clear hown hg htk)
      go_roundw
      case rel => exact ⟨i + 1, by go_num, by omega, ho, hb1⟩
      case measure => simp [intOf] <;> omega
    · have hd1 : decide ((i : Int) < (N : Int)) = false := by simp; omega
      obtain rfl : i = N := by omega
      obtain ⟨wc, rfl⟩ : ∃ wc, wc = wr := ⟨_, rfl⟩
      rw [List.take_of_length_le (by omega)] at hown
      obtain ⟨a5, c5, rfl⟩ := hown.sl.lenB
      rw [htl] at hown ⊢
      have hs0 := hown.sl
      have hmod : (i : Int).tmod 4 = 0 := by rw [Int.tmod_eq_emod_of_nonneg (by omega)]; omega
      clear hown h1 hd1
      have hb2 := hb1.alloc hb1.size (.cells #[] 5)
      have hown7 := Own.made wc ([] : List Value) wc.heap.size 0 5 (Nat.le_refl _) rfl (by simp [maxLen])
      have hbw := (Below.refl wc.heap.size wc).alloc (Nat.le_refl _) (.cells #[] 5)
      simp only [List.length_nil] at hown7
      go_wp2_with fail
      obtain ⟨W0, hW0⟩ : ∃ W0, wc.heap.size = W0 := ⟨_, rfl⟩
      rw [hW0] at hown7 hbw ⊢
      have hBW : w.heap.size ≤ W0 := by rw [← hW0]; exact hb1.size
      have hs00 := hs0
      generalize wc.alloc (.cells #[] 5) = w3 at hb2 hown7 hbw ⊢
      go_loopw [5, 7] (fun v5 v7 W => ∃ g : Nat, g ≤ G ∧ (∃ a c, v5 = .slice a (i - 4 * g) c) ∧ Sl v5 (bs (t.drop (4 * g))) wc ∧ Own W0 5 v7 (bs (l.take (3 * g))) W ∧ Below w.heap.size w W ∧ Below W0 wc W) (fun v5 _ _ => match v5 with | .slice _ n _ => n | _ => 0)
      case atStart => exact ⟨0, by omega, ⟨a5, c5, rfl⟩, by simpa using hs0, by simpa using hown7, hb2, hbw⟩
      case round =>
        clear hb2 hown7 hbw
        obtain ⟨g, hg, ⟨a5, c5, rfl⟩, hs5, ho7, hb2, hbw⟩ := hrel
        by_cases h2 : g < G
        · have hd2 : decide (0 < ((i - 4 * g : Nat) : Int)) = true := by simp; omega
          have hlen5 : (t.drop (4 * g)).length = i - 4 * g := by rw [List.length_drop, htl]
          obtain ⟨L, hL⟩ : ∃ L, i - 4 * g = L := ⟨_, rfl⟩
          rw [hL] at hs5 hd2 hlen5 ⊢
          have hL4 : 4 ≤ L := by omega
          have hg3 : 3 * g < n := by omega
          obtain ⟨m, hm⟩ : ∃ m, min 3 (n - 3 * g) = m := ⟨_, rfl⟩
          have hm1 : 1 ≤ m := by omega
          have hm3 : m ≤ 3 := by omega
          have hmL : m < 3 → L = 4 := fun h => by omega
          obtain ⟨gq, oq, cq, e, _⟩ := hs5.byte (i := 0) (by omega)
          rw [hlen5] at e
          simp only [Value.slice.injEq] at e
          obtain ⟨rfl, -, rfl⟩ := e
          have hcell : ∀ k, k < 4 → wc.cell? ⟨gq, oq + k, none⟩ = some (.int .u8 (((dig64 l (3 * g) k).toNat : Nat) : Int)) := fun k hk => by
            obtain ⟨g', o', c', e, hc⟩ := hs5.byte (i := k) (by omega)
            simp only [Value.slice.injEq, Option.some.injEq, Addr.mk.injEq] at e
            obtain ⟨⟨rfl, rfl, -⟩, -, -⟩ := e
            rw [hc]
            congr 4
            rw [List.getD_eq_getElem?_getD, List.getElem?_drop, ← List.getD_eq_getElem?_getD]
            exact hfour g h2 k hk
          have hgW : gq < W0 := by
            have := World.block_lt_of_cell? wc _ (hcell 0 (by omega))
            rw [hW0] at this
            exact this
          have hcellW : ∀ W, Below W0 wc W → ∀ k, k < 4 → W.cell? ⟨gq, oq + k, none⟩ = some (.int .u8 (((dig64 l (3 * g) k).toNat : Nat) : Int)) := fun W hW k hk => by
            rw [World.cell?_of_block (w := wc) (a := ⟨gq, oq + k, none⟩) (hW.block gq hgW)]
            exact hcell k hk
          clear hcell
          go_wp2
          go_loopw [8, 9, 10] (fun v8 v9 v10 W => ∃ k : Nat, v10 = .int .i64 (k : Int) ∧ k ≤ 4 ∧ v8 = .int .u64 (sexts l (3 * g) k : Int) ∧ v9 = .int .i64 (digN m k : Int) ∧ Own W0 5 u7 (bs (l.take (3 * g))) W ∧ Below w.heap.size w W ∧ Below W0 wc W) (fun _ _ v10 _ => (5 - intOf v10).toNat)
          case atStart => exact ⟨0, rfl, by omega, by rw [sexts_zero]; rfl, rfl, ho7, hb2, hbw⟩
          case round =>
            clear ho7 hb2 hbw
            obtain ⟨k, rfl, hk, rfl, rfl, ho7, hb2, hbw⟩ := hrel
            by_cases h3 : k < 4
            · have hd3 : decide ((k : Int) < 4) = true := by simp; omega
              have hiff := fun j hj => digQ_iff l (3 * g) k j hj
              obtain ⟨Q, hQ⟩ : ∃ Q, digQ l (3 * g) k = Q := ⟨_, rfl⟩
              rw [hQ] at hiff
              have hst := sexts_step l (3 * g) k h3
              have hQ1 : k ≤ m → Q = sext l (3 * g) k ∧ Q < 64 := fun h => by
                have : Q = sext l (3 * g) k := by rw [← hQ]; unfold digQ; rw [if_neg (by omega)]
                exact ⟨this, by rw [this]; exact Nat.mod_lt _ (by omega)⟩
              have hQ2 : ¬ k ≤ m → Q = 64 ∧ sext l (3 * g) k = 0 ∧ dig64 l (3 * g) k = 61 := fun h => by
                refine ⟨by rw [← hQ]; unfold digQ; rw [if_pos (by omega)], sext_pad l (3 * g) k (by omega) (by omega) h3, ?_⟩
                unfold dig64
                rw [if_pos (by omega)]
              have hQ64 : Q ≤ 64 := by
                by_cases h : k ≤ m
                · exact Nat.le_of_lt (hQ1 h).2
                · rw [(hQ2 h).1]; omega
              have hsl : sexts l (3 * g) k < 16777216 := by
                have := num3_lt l (3 * g)
                exact Nat.lt_of_le_of_lt (Nat.div_le_self _ _) this
              obtain ⟨S1, hS1⟩ : ∃ S1, sexts l (3 * g) (k + 1) = S1 := ⟨_, rfl⟩
              rw [hS1] at hst
              generalize sexts l (3 * g) k = S0 at hst hsl ⊢
              generalize sext l (3 * g) k = sx at hst hQ1 hQ2
              obtain ⟨c, hc⟩ : ∃ c, dig64 l (3 * g) k = c := ⟨_, rfl⟩
              rw [hc] at hiff hQ2
              have hckW : ∀ W, Below W0 wc W → W.cell? ⟨gq, oq + k, none⟩ = some (.int .u8 ((c.toNat : Nat) : Int)) := fun W hW => by rw [← hc]; exact hcellW W hW k h3
              have hc3W : ∀ W, Below W0 wc W → ¬ k ≤ m → k = 2 → W.cell? ⟨gq, oq + 3, none⟩ = some (.int .u8 61) := fun W hW h h' => by
                rw [hcellW W hW 3 (by omega)]
                have : dig64 l (3 * g) 3 = 61 := by unfold dig64; rw [if_pos (by omega)]
                rw [this]
                rfl
              clear hc hQ hfour hmem hcellW
              go_wp2
              go_loopw [11, 12] (fun v11 v12 W => ∃ j : Nat, v12 = .int .i64 (j : Int) ∧ j ≤ 64 ∧ v11 = .int .i64 (if Q < j then (Q : Int) else -1) ∧ Own W0 5 u7 (bs (l.take (3 * g))) W ∧ Below w.heap.size w W ∧ Below W0 wc W) (fun _ v12 _ => (65 - intOf v12).toNat)
              case atStart => exact ⟨0, rfl, by omega, by simp, ho7, hb2, hbw⟩
              case round =>
                clear ho7 hb2 hbw
                obtain ⟨j, rfl, hj, rfl, ho7, hb2, hbw⟩ := hrel
                have hck := hckW _ hbw
                by_cases h4 : j < 64
                · have hd4 : decide ((j : Int) < 64) = true := by simp; omega
                  have hix := digT_at j h4
                  have hif := hiff j h4
                  by_cases hjQ : j = Q
                  · have hcc := hif.2 hjQ
                    rw [hcc] at hix
                    generalize ((c.toNat : Nat) : Int) = y at hix hck
                    subst hjQ
                    clear hif hcc hiff hQ1 hQ2 hckW hc3W
                    go_upto_region 21 with (fail)
                    go_quiet (fail)
                    go_wp2
                    go_roundw
                    case rel => exact ⟨j + 1, by go_num, by omega, by rw [if_pos (by omega)], ho7, hb2.trans ⟨rfl, rfl, rfl, Nat.le_refl _, fun _ _ => rfl⟩, hbw.trans ⟨rfl, rfl, rfl, Nat.le_refl _, fun _ _ => rfl⟩⟩
                    case measure => simp [intOf] <;> omega
                  · have hne : (((digT.getD j 0).toNat : Nat) : Int) ≠ ((c.toNat : Nat) : Int) := fun e => hjQ (hif.1 (UInt8.toNat_inj.1 (by omega)))
                    generalize (((digT.getD j 0).toNat : Nat) : Int) = a at hix hne
                    generalize ((c.toNat : Nat) : Int) = y at hck hne
                    have hne1 : (a == y) = false := by simpa using hne
                    have hstep : (if Q < j then (Q : Int) else -1) = if Q < j + 1 then (Q : Int) else -1 := by
                      by_cases h : Q < j
                      · rw [if_pos h, if_pos (by omega)]
                      · rw [if_neg h, if_neg (by omega)]
                    generalize (if Q < j then (Q : Int) else -1) = vv at hstep ⊢
                    clear hif hiff hQ1 hQ2 hckW hc3W
                    go_upto_region 21 with (fail)
                    go_quiet (fail)
                    go_wp2
                    go_roundw
                    case rel => exact ⟨j + 1, by go_num, by omega, by rw [hstep], ho7, hb2.trans ⟨rfl, rfl, rfl, Nat.le_refl _, fun _ _ => rfl⟩, hbw.trans ⟨rfl, rfl, rfl, Nat.le_refl _, fun _ _ => rfl⟩⟩
                    case measure => simp [intOf] <;> omega
                · have hd4 : decide ((j : Int) < 64) = false := by simp; omega
                  obtain rfl : j = 64 := by omega
                  by_cases hkm : k ≤ m
                  · obtain ⟨hq1, hq2⟩ := hQ1 hkm
                    rw [if_pos hq2, show digN m k = 4 by unfold digN; rw [if_pos (by omega)]]
                    have hD1 : digN m (k + 1) = 4 := by unfold digN; rw [if_pos (by omega)]
                    subst hq1
                    have hor := or64u S0 Q (by omega) hq2
                    rw [← hst] at hor
                    have hS1l : S1 < 2000000000 := by omega
                    have hQn : ¬ (Q : Int) < 0 := by omega
                    clear hiff hQ1 hQ2 hckW hc3W hck hst h4 hd4
                    rw [show (((4 : Nat) : Int)) = 4 from rfl]
                    go_wp2
                    go_roundw
                    case rel => exact ⟨k + 1, by go_num, by omega, by rw [hS1], by rw [hD1]; rfl, ho7, hb2, hbw⟩
                    case measure => simp [intOf] <;> omega
                  · obtain ⟨rfl, rfl, rfl⟩ := hQ2 hkm
                    have hkm3 : (k = 2 ∧ m = 1) ∨ (k = 3 ∧ m = 2) ∨ (k = 3 ∧ m = 1) := by omega
                    rcases hkm3 with ⟨rfl, rfl⟩ | ⟨rfl, rfl⟩ | ⟨rfl, rfl⟩
                    · have hor := or64u S0 0 (by omega) (by omega)
                      rw [Nat.add_zero] at hor hst
                      rw [← hst] at hor
                      have hS1l : S1 < 2000000000 := by omega
                      have hL4' : L = 4 := hmL (by omega)
                      subst hL4'
                      rw [if_neg (by omega)]
                      have hck' : wr.cell? ⟨gq, oq + 2, none⟩ = some (.int .u8 61) := hck
                      have hc3' := hc3W wr hbw (by omega) rfl
                      clear hiff hQ1 hQ2 hckW hc3W hck hst h4 hd4 hmL
                      rw [show digN 1 2 = 4 from rfl]
                      go_wp2
                      go_roundw
                      case rel => exact ⟨3, by go_num, by omega, by rw [hS1, ← hor]; rfl, rfl, ho7, hb2, hbw⟩
                      case measure => simp [intOf]
                    · have hor := or64u S0 0 (by omega) (by omega)
                      rw [Nat.add_zero] at hor hst
                      rw [← hst] at hor
                      have hS1l : S1 < 2000000000 := by omega
                      have hL4' : L = 4 := hmL (by omega)
                      subst hL4'
                      rw [if_neg (by omega)]
                      have hck' : wr.cell? ⟨gq, oq + 3, none⟩ = some (.int .u8 61) := hck
                      clear hiff hQ1 hQ2 hckW hc3W hck hst h4 hd4 hmL
                      rw [show digN 2 3 = 4 from rfl]
                      go_wp2
                      go_roundw
                      case rel => exact ⟨4, by go_num, by omega, by rw [hS1, ← hor]; rfl, rfl, ho7, hb2, hbw⟩
                      case measure => simp [intOf]
                    · have hor := or64u S0 0 (by omega) (by omega)
                      rw [Nat.add_zero] at hor hst
                      rw [← hst] at hor
                      have hS1l : S1 < 2000000000 := by omega
                      have hL4' : L = 4 := hmL (by omega)
                      subst hL4'
                      rw [if_neg (by omega)]
                      have hck' : wr.cell? ⟨gq, oq + 3, none⟩ = some (.int .u8 61) := hck
                      clear hiff hQ1 hQ2 hckW hc3W hck hst h4 hd4 hmL
                      rw [show digN 1 3 = 2 from rfl]
                      go_wp2
                      go_roundw
                      case rel => exact ⟨4, by go_num, by omega, by rw [hS1, ← hor]; rfl, rfl, ho7, hb2, hbw⟩
                      case measure => simp [intOf]
            · have hd3 : decide ((k : Int) < 4) = false := by simp; omega
              obtain rfl : k = 4 := by omega
              have hx := sexts_four l (3 * g)
              have hD : digN m 4 = m + 1 := by unfold digN; by_cases h : 4 ≤ m + 1 <;> simp [h]; omega
              rw [hx, hD]
              have hnl := num3_lt l (3 * g)
              have ht3 := take_three l g (by omega)
              rw [hn] at ht3
              have hb0 := (l.getD (3 * g) 0).toNat_lt
              have hb1' := (l.getD (3 * g + 1) 0).toNat_lt
              have hb2' := (l.getD (3 * g + 2) 0).toNat_lt
              have hnum : num3 l (3 * g) = (l.getD (3 * g) 0).toNat * 65536 + (l.getD (3 * g + 1) 0).toNat * 256 + (l.getD (3 * g + 2) 0).toNat := rfl
              generalize l.getD (3 * g) 0 = x0 at ht3 hb0 hnum
              generalize l.getD (3 * g + 1) 0 = x1 at ht3 hb1' hnum
              generalize l.getD (3 * g + 2) 0 = x2 at ht3 hb2' hnum
              generalize num3 l (3 * g) = z at hnl hnum ⊢
              have hslb := sl_bytes wr [x0, x1, x2] (by simp)
              obtain ⟨vm, hdm, hsm⟩ := hslb.takeB m (by simp; omega)
              have hlmb : ([x0, x1, x2].take m).length = m := by simp; omega
              obtain ⟨gm, om, cm, em, _⟩ := hsm.byte (i := 0) (by omega)
              rw [hlmb] at em
              subst em
              clear hlmb
              have hWs : W0 ≤ wr.heap.size := by have := hbw.size; omega
              have hlm : ([x0, x1, x2].take m).length = m := by simp; omega
              have hAll : l.take (3 * g) ++ [x0, x1, x2].take m = l.take (3 * (g + 1)) := by
                rw [← ht3]
                congr 1
                by_cases h : m = 3
                · subst h
                  rw [List.take_of_length_le (by simp), List.take_of_length_le (by simp; omega)]
                · rw [show n - 3 * g = m by omega]
              obtain ⟨TK, hTK⟩ : ∃ TK, l.take (3 * (g + 1)) = TK := ⟨_, rfl⟩
              rw [hTK] at hAll
              have hs5' := hs5
              obtain ⟨v5', hd5, hs5n⟩ := hs5.dropB 4 (by omega)
              rw [show (((4 : Nat) : Int)) = 4 from rfl] at hd5
              rw [List.drop_drop, show 4 * g + 4 = 4 * (g + 1) by omega] at hs5n
              obtain ⟨a5n, c5n, hv5n⟩ := hs5n.lenB
              rw [List.length_drop, htl] at hv5n
              subst hv5n
              have hwp0 : (((x0.toNat : Nat) : Int)) = (z : Int) / 65536 := by omega
              have hwp1 : (((x1.toNat : Nat) : Int)) = (z : Int) / 256 % 256 := by omega
              have hwp2 : (((x2.toNat : Nat) : Int)) = (z : Int) % 256 := by omega
              simp only [bs, List.map_cons, List.map_nil, List.length_cons, List.length_nil, Nat.zero_add, Nat.reduceAdd, hwp0, hwp1, hwp2] at hslb hdm
              have hsm' : Sl (.slice (some ⟨gm, om, none⟩) m cm) (bs ([x0, x1, x2].take m)) (wr.alloc (.cells #[.int .u8 ((z : Int) / 65536), .int .u8 ((z : Int) / 256 % 256), .int .u8 ((z : Int) % 256)] 5)) := by
                have := hsm
                simp only [bs, List.map_cons, List.map_nil, hwp0, hwp1, hwp2] at this
                exact this
              have hlt : l.take (3 * g) = l.take (3 * g) := rfl
              have hbx : Below w.heap.size w (wr.alloc (.cells #[.int .u8 ((z : Int) / 65536), .int .u8 ((z : Int) / 256 % 256), .int .u8 ((z : Int) % 256)] 5)) := hb2.alloc hb2.size _
              have hby : Below W0 wc (wr.alloc (.cells #[.int .u8 ((z : Int) / 65536), .int .u8 ((z : Int) / 256 % 256), .int .u8 ((z : Int) % 256)] 5)) := hbw.alloc hWs _
              have hox := ho7.alloc (.cells #[.int .u8 ((z : Int) / 65536), .int .u8 ((z : Int) / 256 % 256), .int .u8 ((z : Int) % 256)] 5)
              have hroom : (l.take (3 * g)).length + ([x0, x1, x2].take m).length ≤ 1000000 := by rw [hlm]; simp; omega
              have hsz0 : W0 ≤ (wr.alloc (.cells #[.int .u8 ((z : Int) / 65536), .int .u8 ((z : Int) / 256 % 256), .int .u8 ((z : Int) % 256)] 5)).heap.size := by simp; omega
              have h0m : 0 < ([x0, x1, x2].take m).length := by omega
              clear hwp0 hwp1 hwp2 hslb hsm ht3 hb0 hb1' hb2' hnum
              go_wp2_with (at_builtin; refine wpList_app rfl (.tmp 99) (.tmp 111) 22 22 rfl _ _ rfl rfl (app_sl _ hox hsm' h0m hroom hsz0) ?_; intro v' w4 ho hg; replace hbx := (hox.from hBW).belowGrown hbx hg (Nat.le_refl _) (by have := hb2.size; simp; omega); replace hby := hox.belowGrown hby hg (Nat.le_refl _) hsz0; rw [show bs (l.take (3 * g)) ++ bs ([x0, x1, x2].take m) = bs (l.take (3 * g) ++ [x0, x1, x2].take m) by simp only [bs, List.map_append], hAll] at ho; clear hox hsm' hg)
              go_roundw
              case rel => exact ⟨g + 1, by omega, ⟨_, _, rfl⟩, hs5n, by rw [hTK]; exact ho, hbx, hby⟩
              case measure => show i - 4 * (g + 1) < L; omega
        · obtain rfl : g = G := by omega
          have hi0 : i - 4 * g = 0 := by omega
          rw [hi0]
          have hfin : EE (.returned (.tuple #[u7, .nilIface])) wr := by
            rw [← hEE]
            rw [List.take_of_length_le (by omega)] at ho7
            exact ⟨u7, rfl, ho7.sl⟩
          go_wp2
          go_ret2
          exact ⟨hfin, hb2⟩
end Go.Proofs.YtcebfkhfnjbfjaaGreatDoor
