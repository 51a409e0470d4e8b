/- Contracts of shape: the product of numbers, a number of decimal digits. -/
import Derived.Test.YtcebfkhfnjbfjaaGreatDoorC12
import Derived.Test.YtcebfkhfnjbfjaaGreatDoorC15
import Derived.BigQuiet
namespace Go.Proofs.YtcebfkhfnjbfjaaGreatDoor
open Go.RowKit
set_option linter.unusedVariables false
set_option linter.unusedSimpArgs false
theorem Own.wordAt {base : Nat} {v : Value} {zs : List Nat} {w : World} (h : Own base 45 v (words zs) w) {i : Nat} (hi : i < zs.length) : ∃ g cap, v = .slice (some ⟨g, 0, none⟩) zs.length cap ∧ w.cell? ⟨g, i, none⟩ = some (.int .u32 ((zs[i] : Nat) : Int)) ∧ w.frozen? ⟨g, i, none⟩ = false := by
  obtain ⟨g, cap, e, h1, h2⟩ := h.get i (.int .u32 ((zs[i] : Nat) : Int)) (by simp [words, hi])
  exact ⟨g, cap, by rw [e]; simp, h1, h2⟩
theorem words_set (zs : List Nat) (i x : Nat) : (words zs).set i (.int .u32 (x : Int)) = words (zs.set i x) := by simp [words]
set_option maxHeartbeats 1000000 in
set_option maxRecDepth 100000 in
theorem LProduct_any (va vb : Value) (xs ys : List Nat) (w : World) (ha : Num va xs w) (hb : Num vb ys w) (hxl : xs.length ≤ 1000000) (hyl : ys.length ≤ 1000000) :
    Calls Tryz.prog 78 #[va, vb] w fun e w' => (∃ v' zs, e = .returned v' ∧ Num v' zs w' ∧ zs.length ≤ xs.length + ys.length + 1) ∧ Below w.heap.size w w' := by
  have hbel := Below.refl w.heap.size w
  obtain ⟨aa, ca, rfl⟩ := ha.len
  obtain ⟨ab, cb, rfl⟩ := hb.len
  obtain ⟨n, hn⟩ : ∃ n, xs.length = n := ⟨_, rfl⟩
  obtain ⟨m, hm⟩ : ∃ m, ys.length = m := ⟨_, rfl⟩
  rw [hn] at ha hxl ⊢
  rw [hm] at hb hyl ⊢
  go_enter Tryz.func78, Tryz.ntmps78
  go_wp2_with (at_make; go_loud (refine wpList_makeL rfl (.tmp 15) (.tmp 15) 30 rfl 45 Tryz.underlying30 info45 rfl .i64 .i64 ((n : Int) + m + 1) ((n : Int) + m + 1) (n + m + 1) rfl rfl (by omega) (by omega) (by omega) (by simp only [maxLen]; omega) ?_; intro w1 hown hg1))
  have hown' : Own w.heap.size 45 (.slice (some ⟨w.heap.size, 0, none⟩) (n + m + 1) (n + m + 1)) (words (List.replicate (n + m + 1) 0)) w1 := by simpa [words] using hown
  replace hbel := below_grownNone hbel hg1 (Nat.le_refl _)
  clear hown hg1
  obtain ⟨O, hO⟩ : ∃ O, O = w.heap.size := ⟨_, rfl⟩
  rw [← hO] at hown' ⊢
  have hBO : w.heap.size ≤ O := by omega
  clear hO
  go_loopw [6] (fun v6 W => ∃ (i : Nat) (zs : List Nat), v6 = .int .i64 i ∧ i ≤ n ∧ zs.length = n + m + 1 ∧ (∀ x ∈ zs, x < 4294967296) ∧ (∀ j, i + m ≤ j → zs.getD j 0 = 0) ∧ Own w.heap.size 45 (.slice (some ⟨O, 0, none⟩) (n + m + 1) (n + m + 1)) (words zs) W ∧ Below w.heap.size w W) (fun v6 _ => (n - intOf v6).toNat)
  case atStart => 
    refine ⟨0, List.replicate (n + m + 1) 0, rfl, by omega, by simp, by simp, ?_, hown'.from hBO, hbel⟩
    intro j hj
    simp [List.getD_eq_getElem?_getD, List.getElem?_replicate]
    split <;> rfl
  case round =>
    clear hown' hbel
    obtain ⟨i, zs, rfl, hi, hzl, hzb, hz0, hown, hbel⟩ := hrel
    by_cases h1 : i < n
    · have hd1 : decide ((i : Int) < (n : Int)) = true := by simp; omega
      go_wp2
      go_loopw [7, 8] (fun v7 v8 W => ∃ (k c : Nat) (zs : List Nat), v8 = .int .i64 k ∧ v7 = .int .u64 c ∧ c < 4294967296 ∧ (k ≤ m ∨ (k = m + 1 ∧ c = 0)) ∧ zs.length = n + m + 1 ∧ (∀ x ∈ zs, x < 4294967296) ∧ (∀ j, i + max k m ≤ j → zs.getD j 0 = 0) ∧ Own w.heap.size 45 (.slice (some ⟨O, 0, none⟩) (n + m + 1) (n + m + 1)) (words zs) W ∧ Below w.heap.size w W) (fun _ v8 _ => (m + 2 - intOf v8).toNat)
      case atStart => exact ⟨0, 0, zs, rfl, rfl, by omega, .inl (by omega), hzl, hzb, fun j hj => hz0 j (by omega), hown, hbel⟩
      case round =>
        clear hown hbel hzl hzb hz0 zs
        obtain ⟨k, c, zs, rfl, rfl, hc, hk, hzl, hzb, hz0, hown, hbel⟩ := hrel
        by_cases h2 : k < m
        · have hd2 : decide ((k : Int) < (m : Int)) = true := by simp; omega
          have ha' := ha.below hbel (Nat.le_refl _)
          have hb' := hb.below hbel (Nat.le_refl _)
          obtain ⟨ga, oa, ca', xa, e, hca, hxa, -⟩ := ha'.cell (i := i) (by omega)
          simp only [Value.slice.injEq] at e
          obtain ⟨rfl, -, rfl⟩ := e
          obtain ⟨gb, ob, cb', xb, e, hcb, hxb, -⟩ := hb'.cell (i := k) (by omega)
          simp only [Value.slice.injEq] at e
          obtain ⟨rfl, -, rfl⟩ := e
          obtain ⟨g, cap, e, hco, hfo⟩ := hown.wordAt (i := i + k) (by omega)
          simp only [Value.slice.injEq, Option.some.injEq, Addr.mk.injEq] at e
          obtain ⟨⟨rfl, -⟩, -, -⟩ := e
          have hxo := hzb _ (List.getElem_mem (show i + k < zs.length by omega))
          generalize zs[i + k]'(by omega) = xo at hco hxo
          have hxy : xa * xb ≤ 4294967295 * 4294967295 := Nat.mul_le_mul (by omega) (by omega)
          go_upto_region 11 with (fail)
          go_quiet (fail)
          go_wp2
          go_roundw
          case rel =>
            have hlt : (c + xo + xa * xb) / 4294967296 < 4294967296 := by omega
            refine ⟨k + 1, (c + xo + xa * xb) / 4294967296, zs.set (i + k) ((c + xo + xa * xb) % 4294967296), by go_num, ?_, hlt, .inl (by omega), by rw [List.length_set]; exact hzl, ?_, ?_, ?_, ?_⟩
            · exact congrArg (Value.int .u64) (by omega)
            · intro x hx
              rcases List.mem_or_eq_of_mem_set hx with hx | rfl
              · exact hzb x hx
              · omega
            · intro j hj
              have := hz0 j (by omega)
              simp only [List.getD_eq_getElem?_getD, List.getElem?_set] at this ⊢
              rw [if_neg (by omega)]
              exact this
            · have := (hown.heap (w' := wr.drewN nq) rfl).set (i + k) (.int .u32 (((c + xo + xa * xb) % 4294967296 : Nat) : Int)) rfl
              rw [words_set] at this
              rw [show ((c : Int) + xo + xa * xb) % 4294967296 = (((c + xo + xa * xb) % 4294967296 : Nat) : Int) by omega]
              exact this
            · exact (hbel.trans ⟨rfl, rfl, rfl, Nat.le_refl _, fun _ _ => rfl⟩ : Below _ _ (wr.drewN nq)).setCell hBO _
          case measure => simp [intOf] <;> omega
        · have hd2 : decide ((k : Int) < (m : Int)) = false := by simp; omega
          by_cases hc0 : c = 0
          · subst hc0
            go_wp2
            go_roundw
            case rel => exact ⟨i + 1, zs, by go_num, by omega, hzl, hzb, fun j hj => hz0 j (by omega), hown, hbel⟩
            case measure => simp [intOf] <;> omega
          · have hd3 : decide (0 < (c : Int)) = true := by simp; omega
            obtain rfl : k = m := by omega
            obtain ⟨g, cap, e, hco, hfo⟩ := hown.wordAt (i := i + k) (by omega)
            simp only [Value.slice.injEq, Option.some.injEq, Addr.mk.injEq] at e
            obtain ⟨⟨rfl, -⟩, -, -⟩ := e
            have hx0 : zs[i + k]'(by omega) = 0 := by
              have := hz0 (i + k) (by omega)
              rw [List.getD_eq_getElem?_getD, List.getElem?_eq_getElem (by omega)] at this
              exact this
            rw [hx0] at hco
            go_wp2
            go_roundw
            case rel =>
              refine ⟨k + 1, 0, zs.set (i + k) c, by go_num, ?_, by omega, .inr ⟨rfl, rfl⟩, by rw [List.length_set]; exact hzl, ?_, ?_, ?_, hbel.setCell hBO _⟩
              · exact congrArg (Value.int .u64) (by omega)
              · intro x hx
                rcases List.mem_or_eq_of_mem_set hx with hx | rfl
                · exact hzb x hx
                · omega
              · intro j hj
                have := hz0 j (by omega)
                simp only [List.getD_eq_getElem?_getD, List.getElem?_set] at this ⊢
                rw [if_neg (by omega)]
                exact this
              · have := hown.set (i + k) (.int .u32 (c : Int)) rfl
                rw [words_set] at this
                exact this
            case measure => simp [intOf] <;> omega
    · have hd1 : decide ((i : Int) < (n : Int)) = false := by simp; omega
      go_wp2_with fail
      refine (lBare_any _ _ _ (hown.num hzb)).mono ?_
      rintro e w1 ⟨⟨v', rfl, hv'⟩, hb1⟩
      go_wp2
      go_ret
      refine ⟨⟨v', bareL zs, rfl, hv', ?_⟩, hbel.trans (hb1.mono hbel.size)⟩
      have := bareL_length zs
      omega
theorem num_one (W : World) (z : Nat) (hz : z < 4294967296) : Num (.slice (some ⟨W.heap.size, 0, none⟩) 1 1) [z] (W.alloc (.cells #[.int .u32 (z : Int)] 45)) := by
  have := Own.made W [.int .u32 (z : Int)] W.heap.size 1 45 (Nat.le_refl _) rfl (by simp [maxLen])
  exact ⟨by simpa using hz, this.sl⟩
theorem below_one (W : World) (o : Obj) : Below W.heap.size W (W.alloc o) := (Below.refl _ _).alloc (Nat.le_refl _) o
theorem safe_convU32 {P : Program} {T : Tmp → Value → Prop} {I : World → Prop} {d : Tmp} {x : Operand} {src to_ t : TypeId} {ps : String} {af : Array Edge} {gd : Option (Nat × Bool)} {k : IntKind} {us : TypeDesc} (hs : P.underlying src = some us) (hu : P.underlying to_ = some (.int .u32)) (hx : Opd T x (IsInt k)) (h : ∀ z : Nat, z < 4294967296 → T d (.int .u32 (z : Int))) :
    SafeOp P T I { dst := some d, op := .convert src to_ x, type := t, pos := ps, after := af, guard := gd } :=
  safe_convert _ hx fun u W hu' => by
    obtain ⟨z, rfl⟩ := hu'
    have hw : IntKind.u32.wrap z = ((z % 4294967296).toNat : Int) := by rw [IntKind.wrap_u32]; show z % 4294967296 = _; omega
    exact ⟨.int .u32 (IntKind.u32.wrap z), by simp [convert, run_underlying hs, run_underlying hu, Conv.intToInt], fun d' hd => by cases hd; rw [hw]; exact h _ (by omega)⟩
theorem call78 (args : Array Value) (W : World) : Sem.run Tryz.prog (callFunc 78 args) W = .ok (.enter 78 args) W := run_callGo (fn := Tryz.f78) (by kernel_rfl) (by kernel_rfl) (by kernel_rfl) args W
theorem call58 (args : Array Value) (W : World) : Sem.run Tryz.prog (callFunc 58 args) W = .ok (.enter 58 args) W := run_callGo (fn := Tryz.f58) (by kernel_rfl) (by kernel_rfl) (by kernel_rfl) args W
theorem call35 (args : Array Value) (W : World) : Sem.run Tryz.prog (callFunc 35 args) W = .ok (.enter 35 args) W := run_callGo (fn := Tryz.f35) (by kernel_rfl) (by kernel_rfl) (by kernel_rfl) args W
set_option maxHeartbeats 1000000 in
set_option maxRecDepth 100000 in
theorem LDecimal_any (s : ByteArray) (w : World) (hs : s.size ≤ 1000) :
    Calls Tryz.prog 59 #[.string s] w fun e w' => (∃ v' zs, e = .returned v' ∧ Num v' zs w' ∧ zs.length ≤ 100000) ∧ Below w.heap.size w w' := by
  have hbel := Below.refl w.heap.size w
  have hl := s.size
  obtain ⟨n, hn⟩ : ∃ n, s.size = n := ⟨_, rfl⟩
  rw [hn] at hs
  go_enter Tryz.func59, Tryz.ntmps59
  go_wp2
  go_loopw [3, 4] (fun v3 v4 W => ∃ (i : Nat) (zs : List Nat), v4 = .int .i64 i ∧ i ≤ n ∧ zs.length ≤ 4 * i ∧ Num v3 zs W ∧ Below w.heap.size w W) (fun _ v4 _ => (n - intOf v4).toNat)
  case atStart => exact ⟨0, [], rfl, by omega, by simp, ⟨by simp, Sl.nil _⟩, hbel⟩
  case round =>
    clear hbel
    obtain ⟨i, zs, rfl, hi, hzl, hnum, hbel⟩ := hrel
    by_cases h1 : i < n
    · have hd1 : decide ((i : Int) < (n : Int)) = true := by simp; omega
      obtain ⟨x, hx, hix⟩ := str_index (P := Tryz.prog) Tryz.underlying9 s .i64 (i : Int) i rfl (by omega)
      go_wp2_with fail
      refine wp_region_typedW (by kernel_rfl) [0] (fun u W v => match u with | 3 => ∃ ys, Num v ys W ∧ ys.length ≤ 4 * i | _ => True) (fun u W v => match u with | 0 => v = .string s | 3 => ∃ ys, Num v ys W ∧ ys.length ≤ 4 * (i + 1) | 4 => v = .int .i64 (i : Int) | 11 => ∃ ys, Num v ys W ∧ ys.length ≤ 4 * i | 12 => ∃ ys, Num v ys W ∧ ys.length ≤ 1 | 13 => ∃ ys, Num v ys W ∧ ys.length ≤ 4 * i + 2 | 14 => v = .string s | 15 => v = .int .i64 (i : Int) | 16 => IsInt .u8 v | 17 => IsInt .u8 v | 18 => ∃ z : Nat, v = .int .u32 (z : Int) ∧ z < 4294967296 | 19 => ∃ ys, Num v ys W ∧ ys.length ≤ 1 | 20 => ∃ ys, Num v ys W ∧ ys.length ≤ 1 | 21 => ∃ ys, Num v ys W ∧ ys.length ≤ 4 * (i + 1) | _ => True)
        (fun W => Below w.heap.size w W ∧ Below wr.heap.size wr W) (fun W W' => Below W.heap.size W W') ?hmono (by kernel_rfl) [11, 12, 13, 14, 15, 16, 17, 18, 19, 20, 21, 3] (by kernel_rfl) [0, 4] (by kernel_rfl) ?h0 [3] (by kernel_rfl) ?hz ⟨hbel.trans ⟨rfl, rfl, rfl, Nat.le_refl _, fun _ _ => rfl⟩, ⟨rfl, rfl, rfl, Nat.le_refl _, fun _ _ => rfl⟩⟩ ?hs ?hQ
      case hmono =>
        intro u W W' v _ _ hR hv
        split at hv <;> first | exact hv | (obtain ⟨ys, h1, h2⟩ := hv; exact ⟨ys, h1.below hR (Nat.le_refl _), h2⟩)
      case h0 => simp
      case hz =>
        simp
        intro W hW1 hW2
        exact ⟨zs, hnum.below hW2 (Nat.le_refl _), hzl⟩
      case hs =>
        have hI' : ∀ W W' : World, Below w.heap.size w W ∧ Below wr.heap.size wr W → Below W.heap.size W W' → Below w.heap.size w W' ∧ Below wr.heap.size wr W' := fun W W' h hb => ⟨h.1.trans (hb.mono h.1.size), h.2.trans (hb.mono h.2.size)⟩
        refine ⟨safeW_move (fun W => Below.refl _ _) (fun W v hI hv => hv),
          safeW_build1 Tryz.underlying30 info45 rfl (fun _ v => v = .int .u32 10) (fun W _ => rfl) (fun W v h => by subst h; rfl) (fun W v hI h => by subst h; exact ⟨below_one W _, hI' _ _ hI (below_one W _), ⟨[10], num_one W 10 (by omega), by simp⟩⟩),
          safeW_call2 (fun W v => ∃ ys, Num v ys W ∧ ys.length ≤ 4 * i) (fun W v => ∃ ys, Num v ys W ∧ ys.length ≤ 1) (fun W v hI hv => hv) (fun W v hI hv => hv) call78 (fun a b W hI ⟨xs, hx, hxl⟩ ⟨ys, hy, hyl⟩ => (LProduct_any a b xs ys W hx hy (by omega) (by omega)).mono fun e w' ⟨⟨v', zs, h1, h2, h3⟩, hb⟩ => ⟨v', h1, hb, hI' _ _ hI hb, fun d hd => by cases hd; exact ⟨zs, h2, by omega⟩⟩),
          safeW_move (fun W => Below.refl _ _) (fun W v hI hv => hv),
          safeW_move (fun W => Below.refl _ _) (fun W v hI hv => hv),
          SafeOpW.of (fun W => Below.refl _ _) fun W hI => safe_indexStr Tryz.underlying9 n i h1 (fun v hv => ⟨s, hv, hn⟩) (fun v hv => hv) (fun v hv => hv),
          SafeOpW.of (fun W => Below.refl _ _) fun W hI => safe_arith (k := .u8) (by simp) (fun v hv => hv) ⟨48, rfl⟩ (fun v hv => hv),
          SafeOpW.of (fun W => Below.refl _ _) fun W hI => safe_convU32 Tryz.underlying5 Tryz.underlying45 (fun v hv => hv) (fun z hz => ⟨z, rfl, hz⟩),
          safeW_build1 Tryz.underlying30 info45 rfl (fun _ v => ∃ z : Nat, v = .int .u32 (z : Int) ∧ z < 4294967296) (fun W v hI hv => hv) (fun W v ⟨z, h, _⟩ => by subst h; rfl) (fun W v hI ⟨z, h, hz⟩ => by subst h; exact ⟨below_one W _, hI' _ _ hI (below_one W _), ⟨[z], num_one W z hz, by simp⟩⟩),
          safeW_call1 (fun W v => ∃ ys, Num v ys W ∧ ys.length ≤ 1) (fun W v hI hv => hv) call35 (fun a W hI ⟨xs, hx, hxl⟩ => (lBare_any a xs W hx).mono fun e w' ⟨⟨v', h1, h2⟩, hb⟩ => ⟨v', h1, hb, hI' _ _ hI hb, fun d hd => by cases hd; exact ⟨_, h2, by have := bareL_length xs; omega⟩⟩),
          safeW_call2 (fun W v => ∃ ys, Num v ys W ∧ ys.length ≤ 4 * i + 2) (fun W v => ∃ ys, Num v ys W ∧ ys.length ≤ 1) (fun W v hI hv => hv) (fun W v hI hv => hv) call58 (fun a b W hI ⟨xs, hx, hxl⟩ ⟨ys, hy, hyl⟩ => (LSum_any a b xs ys W hx hy (by omega) (by omega)).mono fun e w' ⟨⟨v', zs, h1, h2, h3⟩, hb⟩ => ⟨v', h1, hb, hI' _ _ hI hb, fun d hd => by cases hd; exact ⟨zs, h2, by omega⟩⟩),
          safeW_assign (fun W => Below.refl _ _) (fun W v hI hv => hv), trivial⟩
      case hQ =>
        rintro f w1 hI hT
        obtain ⟨ys, hy, hyl⟩ : ∃ ys, Num (f 3) ys w1 ∧ ys.length ≤ 4 * (i + 1) := hT 3 (by simp)
        simp only [putAll, List.setIfInBounds_toArray, List.set_cons_zero, List.set_cons_succ]
        go_wp2
        go_roundw
        case rel => exact ⟨i + 1, ys, by go_num, by omega, hyl, hy, hI.1⟩
        case measure => simp [intOf] <;> omega
    · have hd1 : decide ((i : Int) < (n : Int)) = false := by simp; omega
      go_wp2
      go_ret
      exact ⟨⟨_, _, rfl, hnum, by omega⟩, hbel⟩
end Go.Proofs.YtcebfkhfnjbfjaaGreatDoor
