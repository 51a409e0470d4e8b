/- Contract of ParseRecord. -/
import Derived.Test.YtcebfkhfnjbfjaaGreatDoorC19
import Derived.Test.YtcebfkhfnjbfjaaGreatDoorC33
import Derived.Test.YtcebfkhfnjbfjaaGreatDoorC34
import Derived.BigRegion
namespace Go.Proofs.YtcebfkhfnjbfjaaGreatDoor
open Go.RowKit
set_option linter.unusedVariables false
set_option linter.unusedSimpArgs false
/-- A record that is read. -/
def RecE (K B : List UInt8) (bits x : Int) (e : Ending) (w : World) : Prop :=
  ∃ hg hn hc sg sn sc fg fn fc bv, e = .returned (.tuple #[.agg #[.string (str K), .slice (some ⟨hg, 0, none⟩) hn hc, .slice (some ⟨sg, 0, none⟩) sn sc, .slice (some ⟨fg, 0, none⟩) fn fc, .string (str [110, 111, 116, 101]), .int .i64 bits, bv, .int .i64 x], .nilIface]) ∧ Sl bv (bs B) w
theorem rcells_at {w : World} {R : Nat} {E : TypeId} {cs : Array Value} (h : w.heap[R]? = some (.cells cs E (0, 0))) (i : Nat) (v : Value) (hv : cs[i]? = some v) :
    w.cell? ⟨R, i, none⟩ = some v ∧ w.frozen? ⟨R, i, none⟩ = false := ⟨by rw [cell_of_row w R i _ E (0, 0) h]; exact hv, frozen_of_row w R i _ E h⟩
/-- The numbers of a key. -/
def KeyBits (m K B : List UInt8) (bits x : Int) (ver : Value → World → Prop) : Prop :=
  (m.length = 32 ∧ K = [101, 100, 50, 53, 53, 49, 57] ∧ B = m ∧ bits = 256 ∧ x = 0 ∧ ver = EdV m) ∨
  (K = [114, 115, 97] ∧ ∃ cn ce, 128 ≤ (bareB cn).length ∧ cn.length ≤ 1000 ∧ B = bareB cn ∧ x = (accF ce ce.length : Int) ∧ (∀ e, BitsE (bareB cn) e → e = .returned (.int .i64 bits)) ∧ ver = RsaV (bareB cn) (accF ce ce.length))
theorem bareB_head (c : List UInt8) (h : 0 < (bareB c).length) : ((bareB c).getD 0 0).toNat ≠ 0 := by
  induction c with
  | nil => simp [bareB] at h
  | cons x r ih =>
    unfold bareB at h ih ⊢
    rw [List.dropWhile_cons] at h ⊢
    by_cases e : (x == 0) = true
    · rw [if_pos e] at h ⊢
      exact ih h
    · rw [if_neg e]
      simp only [List.getD_cons_zero]
      intro e'
      exact e (by simp only [beq_iff_eq]; exact UInt8.toNat_inj.1 (by simpa using e'))
theorem size58 : (Tryz.prog.info? 58).map (·.size) = some 8 := by kernel_rfl
theorem size96 : (Tryz.prog.info? 96).map (·.size) = some 1 := by kernel_rfl
theorem size22 : (Tryz.prog.info? 22).map (·.size) = some 1 := by kernel_rfl
theorem size3 : (Tryz.prog.info? 3).map (·.size) = some 1 := by kernel_rfl
theorem call45 (args : Array Value) (W : World) : Sem.run Tryz.prog (callFunc 45 args) W = .ok (.enter 45 args) W := run_callGo (fn := Tryz.f45) (by kernel_rfl) (by kernel_rfl) (by kernel_rfl) args W
theorem _root_.Go.RowKit.Below.setRowB {B g : Nat} {w0 w : World} (hb : Below B w0 w) (cs : Array Value) (hBg : B ≤ g) : Below B w0 (w.setRow g cs) :=
  hb.trans ⟨rfl, rfl, rfl, by simp [World.setRow], fun k hk => setRow_other w g k cs (by omega)⟩
theorem ta103 (v : Value) : ∀ W, Sem.run Tryz.prog (Instr.typeAssert (.iface 103 v) 93 103 true) W = .ok (.tuple #[v, .bool true]) W := fun W => by
  simp [Instr.typeAssert, run_underlying Tryz.underlying103]
theorem ta98 (v : Value) : ∀ W, Sem.run Tryz.prog (Instr.typeAssert (.iface 98 v) 93 98 true) W = .ok (.tuple #[v, .bool true]) W := fun W => by
  simp [Instr.typeAssert, run_underlying Tryz.underlying98]
theorem zero98 : ∀ W, Sem.run Tryz.prog (zeroValue 98) W = .ok (.agg #[.pointer none]) W := fun W => by kernel_rfl
theorem ta98n (v : Value) : ∀ W, Sem.run Tryz.prog (Instr.typeAssert (.iface 103 v) 93 98 true) W = .ok (.tuple #[.agg #[.pointer none], .bool false]) W := fun W => by
  simp [Instr.typeAssert, run_underlying Tryz.underlying98, zero98]
set_option maxHeartbeats 4000000 in
set_option maxRecDepth 100000 in
theorem record_any (l m K B : List UInt8) (bits x : Int) (ver : Value → World → Prop) (w : World) (hway : KeyWay m K ver) (hbits : KeyBits m K B bits x ver) (hq : ∀ W, Calls Tryz.prog 44 #[.string (str l)] W fun e w' => QueryE ver K e w' ∧ Below W.heap.size W w') :
    Calls Tryz.prog 32 #[.string (str l)] w fun e w' => RecE K B bits x e w' ∧ Below w.heap.size w w' := by
  obtain ⟨EE, hEE⟩ : ∃ EE, RecE K B bits x = EE := ⟨_, rfl⟩
  rw [hEE]
  have hB0 := heap_alloc_new w (.cells #[.string ⟨#[]⟩, .slice none 0 0, .slice none 0 0, .slice none 0 0, .string ⟨#[]⟩, .int .i64 0, .slice none 0 0, .int .i64 0] 58)
  have hb0 := (Below.refl w.heap.size w).alloc (Nat.le_refl _) (.cells #[.string ⟨#[]⟩, .slice none 0 0, .slice none 0 0, .slice none 0 0, .string ⟨#[]⟩, .int .i64 0, .slice none 0 0, .int .i64 0] 58)
  have hsz : (w.alloc (.cells #[.string ⟨#[]⟩, .slice none 0 0, .slice none 0 0, .slice none 0 0, .string ⟨#[]⟩, .int .i64 0, .slice none 0 0, .int .i64 0] 58)).heap.size = w.heap.size + 1 := by simp
  go_enter Tryz.func32, Tryz.ntmps32
  go_wp2_with fail
  refine (hq _).mono ?_
  clear hq
  rintro e w2 ⟨⟨R, V, hg, hn, hc, sg, sn, sc, fg, fn, fc, rfl, hR, hv⟩, hb2⟩
  generalize w.alloc (.cells #[.string ⟨#[]⟩, .slice none 0 0, .slice none 0 0, .slice none 0 0, .string ⟨#[]⟩, .int .i64 0, .slice none 0 0, .int .i64 0] 58) = w1 at hB0 hb0 hsz hb2
  replace hB0 := (hb2.block w.heap.size (by omega)).trans hB0
  have hsz2 : w.heap.size < w2.heap.size := by have := hb2.size; omega
  replace hb0 := hb0.trans (hb2.mono (by omega))
  clear hb2 hsz
  obtain ⟨c0, -⟩ := rcells_at hR 0 _ rfl
  obtain ⟨c1, -⟩ := rcells_at hR 1 _ rfl
  obtain ⟨c2, -⟩ := rcells_at hR 2 _ rfl
  obtain ⟨c3, -⟩ := rcells_at hR 3 _ rfl
  obtain ⟨c4, -⟩ := rcells_at hR 4 _ rfl
  obtain ⟨c5, -⟩ := rcells_at hR 5 _ rfl
  have hRs : R < w2.heap.size := (Array.getElem?_eq_some_iff.1 hR).1
  obtain ⟨sK, hsK⟩ : ∃ sK, str K = sK := ⟨_, rfl⟩
  obtain ⟨sN, hsN⟩ : ∃ sN, str [110, 111, 116, 101] = sN := ⟨_, rfl⟩
  rw [hsK, hsN] at hR
  rw [hsK] at c1
  rw [hsN] at c3
  simp only [List.getElem_toArray, List.getElem_cons_zero, List.getElem_cons_succ] at c0 c1 c2 c3 c4 c5
  have hb3 := hb0.alloc (by omega) (.cells #[.string sK, .slice (some ⟨hg, 0, none⟩) hn hc, .slice (some ⟨sg, 0, none⟩) sn sc, .slice (some ⟨fg, 0, none⟩) fn fc, .string sN, .int .i64 256, .slice none 0 0, .int .i64 0] 58)
  have hQ3 := heap_alloc_new w2 (.cells #[.string sK, .slice (some ⟨hg, 0, none⟩) hn hc, .slice (some ⟨sg, 0, none⟩) sn sc, .slice (some ⟨fg, 0, none⟩) fn fc, .string sN, .int .i64 256, .slice none 0 0, .int .i64 0] 58)
  have hg3 := World.grownBy_alloc w2 (.cells #[.string sK, .slice (some ⟨hg, 0, none⟩) hn hc, .slice (some ⟨sg, 0, none⟩) sn sc, .slice (some ⟨fg, 0, none⟩) fn fc, .string sN, .int .i64 256, .slice none 0 0, .int .i64 0] 58) none
  have hB3 := (hg3.block w.heap.size hsz2 (by simp)).trans hB0
  have hR3 := (hg3.block R hRs (by simp)).trans hR
  have hv3 : ver V _ := hway.keep hv ((Below.refl w2.heap.size w2).alloc (Nat.le_refl _) (.cells #[.string sK, .slice (some ⟨hg, 0, none⟩) hn hc, .slice (some ⟨sg, 0, none⟩) sn sc, .slice (some ⟨fg, 0, none⟩) fn fc, .string sN, .int .i64 256, .slice none 0 0, .int .i64 0] 58)) (Nat.le_refl _)
  go_upto_region 4 with (fail)
  go_region
  obtain ⟨Q, hQ⟩ : ∃ Q, w2.heap.size = Q := ⟨_, rfl⟩
  rw [hQ] at hQ3 hsz2 hRs ⊢
  obtain ⟨w3, hw3⟩ : ∃ w3, (w2.alloc (.cells #[.string sK, .slice (some ⟨hg, 0, none⟩) hn hc, .slice (some ⟨sg, 0, none⟩) sn sc, .slice (some ⟨fg, 0, none⟩) fn fc, .string sN, .int .i64 256, .slice none 0 0, .int .i64 0] 58)).drew = w3 := ⟨_, rfl⟩
  have e3 : w3.heap = (w2.alloc (.cells #[.string sK, .slice (some ⟨hg, 0, none⟩) hn hc, .slice (some ⟨sg, 0, none⟩) sn sc, .slice (some ⟨fg, 0, none⟩) fn fc, .string sN, .int .i64 256, .slice none 0 0, .int .i64 0] 58)).heap := by rw [← hw3]; rfl
  replace hb3 : Below w.heap.size w w3 := hb3.trans (by rw [← hw3]; exact ⟨rfl, rfl, rfl, Nat.le_refl _, fun _ _ => rfl⟩)
  replace hv3 : ver V w3 := hway.keep hv3 (B := (w2.alloc (.cells #[.string sK, .slice (some ⟨hg, 0, none⟩) hn hc, .slice (some ⟨sg, 0, none⟩) sn sc, .slice (some ⟨fg, 0, none⟩) fn fc, .string sN, .int .i64 256, .slice none 0 0, .int .i64 0] 58)).heap.size) (by rw [← hw3]; exact ⟨rfl, rfl, rfl, Nat.le_refl _, fun _ _ => rfl⟩) (Nat.le_refl _)
  rw [← e3] at hQ3 hB3 hR3
  rw [hw3]
  clear e3 hw3 hg3 c0 c1 c2 c3 c4 c5 hR hB0 hb0 hv
  obtain ⟨c0, -⟩ := rcells_at hR3 0 _ rfl
  obtain ⟨c6, f6⟩ := rcells_at hQ3 6 _ rfl
  simp only [List.getElem_toArray, List.getElem_cons_zero, List.getElem_cons_succ] at c0 c6
  clear hway
  rcases hbits with ⟨hm32, rfl, rfl, rfl, rfl, rfl⟩ | ⟨rfl, cn, ce, hn128, hncap, rfl, rfl, hbe, rfl⟩
  · obtain ⟨v, rfl, hv⟩ := hv3
    obtain ⟨a, c, rfl⟩ := hv.lenB
    have t1 := ta98n (.agg #[.slice a B.length c])
    have t2 := ta103 (.agg #[.slice a B.length c])
    rw [hm32] at hv t1 t2 c0
    have hb4 := hb3.alloc hb3.size (.cells #[.slice a 32 c] 103)
    have hg4 := World.grownBy_alloc w3 (.cells #[.slice a 32 c] 103) none
    have hT4 := heap_alloc_new w3 (.cells #[.slice a 32 c] 103)
    have hQ4 := (hg4.block Q (Array.getElem?_eq_some_iff.1 hQ3).1 (by simp)).trans hQ3
    have hB4 := (hg4.block w.heap.size (Array.getElem?_eq_some_iff.1 hB3).1 (by simp)).trans hB3
    obtain ⟨c6', f6'⟩ := rcells_at hQ4 6 _ rfl
    obtain ⟨cT, fT⟩ := rcells_at hT4 0 _ rfl
    simp only [List.getElem_toArray, List.getElem_cons_zero, List.getElem_cons_succ] at c6' cT
    obtain ⟨fin, hfe⟩ : ∃ fin : Array Value, #[.string sK, .slice (some ⟨hg, 0, none⟩) hn hc, .slice (some ⟨sg, 0, none⟩) sn sc, .slice (some ⟨fg, 0, none⟩) fn fc, .string sN, .int .i64 256, .slice a 32 c, .int .i64 0] = fin := ⟨_, rfl⟩
    have hQ5 := heap_setCell_same _ Q 6 _ 58 (.slice a 32 c) hQ4
    simp only [List.setIfInBounds_toArray, List.set_cons_zero, List.set_cons_succ] at hQ5
    rw [hfe] at hQ5
    have hB5 := (heap_setCell_other (w3.alloc (.cells #[.slice a 32 c] 103)) ⟨Q, 6, none⟩ w.heap.size (.slice a 32 c) (by show w.heap.size ≠ Q; omega)).trans hB4
    have hb5 : Below w.heap.size w ((w3.alloc (.cells #[.slice a 32 c] 103)).setCell ⟨Q, 6, none⟩ (.slice a 32 c)) := hb4.setCell (Nat.le_of_lt hsz2) _
    have hb6 := hb5.setRowB fin (Nat.le_refl _)
    have hB6 := setRow_heap _ w.heap.size _ fin 58 (0, 0) hB5
    have hsf : (Tryz.prog.info? 58).map (·.size) = some fin.size := by rw [← hfe]; exact size58
    have hof : fin.all (·.oneCell') = true := by rw [← hfe]; simp [Value.oneCell']
    have hv6 : Sl (.slice a 32 c) (bs B) (((w3.alloc (.cells #[.slice a 32 c] 103)).setCell ⟨Q, 6, none⟩ (.slice a 32 c)).setRow w.heap.size fin) := by
      have h1 := hv.alloc (.cells #[.slice a 32 c] 103)
      have h2 := h1.off (by omega) (grownBy_setCell _ ⟨Q, 6, none⟩ (.slice a 32 c)) hQ4 (by simp)
      exact h2.off (by omega) (Q := w.heap.size) ⟨rfl, rfl, rfl, by simp [World.setRow], fun k hk hne => setRow_other _ _ k _ (fun e => hne (by rw [e]))⟩ hB5 (by simp)
    have hfin : EE (.returned (.tuple #[.agg fin, .nilIface])) (((w3.alloc (.cells #[.slice a 32 c] 103)).setCell ⟨Q, 6, none⟩ (.slice a 32 c)).setRow w.heap.size fin) := by
      rw [← hEE, ← hfe, ← hsK, ← hsN]
      rw [← hfe, ← hsK, ← hsN] at hv6
      exact ⟨_, _, _, _, _, _, _, _, _, _, rfl, hv6⟩
    clear hfe hEE hv6 hv
    go_wp2_with (first | (refine wpList_load_row rfl 58 (.tmp 6) rfl Q rfl 58 fin (0, 0) _ hQ5 Tryz.underlying58 rfl hsf ?_) | (refine wpList_store_row rfl 58 (.tmp 2) (.tmp 68) rfl w.heap.size fin rfl rfl 58 _ hB5 hsf (by simpa [size58] using hsf) hof ?_))
    refine ret_cell_tmp rfl w.heap.size 58 fin (0, 0) _ rfl hB6 Tryz.underlying58 rfl hsf rfl ?_
    exact ⟨hfin, hb6⟩
  · obtain ⟨KK, vn, rfl, hKK, hvn⟩ := hv3
    obtain ⟨a, c, rfl⟩ := hvn.lenB
    have hnn : 0 < (bareB cn).length := by omega
    have hnle : (bareB cn).length ≤ 100000 := Nat.le_trans (bareB_le cn) (by omega)
    have hnh := bareB_head cn hnn
    have t1 := ta98 (.agg #[.pointer (some ⟨KK, 0, none⟩)])
    have hg4 := World.grownBy_alloc w3 (.cells #[.pointer (some ⟨KK, 0, none⟩)] 98) none
    have hT4 := heap_alloc_new w3 (.cells #[.pointer (some ⟨KK, 0, none⟩)] 98)
    have hb4 := hb3.alloc hb3.size (.cells #[.pointer (some ⟨KK, 0, none⟩)] 98)
    have hQl := (Array.getElem?_eq_some_iff.1 hQ3).1
    have hBl := (Array.getElem?_eq_some_iff.1 hB3).1
    have hKl := (Array.getElem?_eq_some_iff.1 hKK).1
    have hQ4 := (hg4.block Q hQl (by simp)).trans hQ3
    have hB4 := (hg4.block w.heap.size hBl (by simp)).trans hB3
    have hK4 := (hg4.block KK hKl (by simp)).trans hKK
    have hv4 := hvn.alloc (.cells #[.pointer (some ⟨KK, 0, none⟩)] 98)
    have hKQ : KK ≠ Q := by
      rintro rfl
      rw [hKK] at hQ3
      simp at hQ3
    obtain ⟨n, hnq⟩ : ∃ n, bareB cn = n := ⟨_, rfl⟩
    rw [hnq] at hbe hnn hnle hnh hv4 hEE hvn hK4 hKK
    obtain ⟨X, hX⟩ : ∃ X : Int, (accF ce ce.length : Int) = X := ⟨_, rfl⟩
    rw [hX] at hEE hK4 hKK
    go_upto_region 8 with (fail)
    obtain ⟨T7, hT7⟩ : ∃ T7, w3.heap.size = T7 := ⟨_, rfl⟩
    rw [hT7] at hT4 hQl hKl hBl ⊢
    generalize w3.alloc (.cells #[.pointer (some ⟨KK, 0, none⟩)] 98) = w4 at hT4 hb4 hQ4 hB4 hK4 hv4 ⊢
    obtain ⟨fin, hfe⟩ : ∃ fin : Array Value, #[.string sK, .slice (some ⟨hg, 0, none⟩) hn hc, .slice (some ⟨sg, 0, none⟩) sn sc, .slice (some ⟨fg, 0, none⟩) fn fc, .string sN, .int .i64 bits, .slice a n.length c, .int .i64 X] = fin := ⟨_, rfl⟩
    have hfs : fin.size = 8 := by rw [← hfe]; rfl
    have f5 : fin[5]? = some (.int .i64 bits) := by rw [← hfe]; rfl
    have f6' : fin[6]? = some (.slice a n.length c) := by rw [← hfe]; rfl
    have f7 : fin[7]? = some (.int .i64 X) := by rw [← hfe]; rfl
    have hkW : ∀ W, FillI w4 Q 58 fin [0, 1, 2, 3, 4] W → W.heap[KK]? = _ := fun W hI => (hI.grown.block KK (Array.getElem?_eq_some_iff.1 hK4).1 (by simpa using hKQ)).trans hK4
    have htW : ∀ W, FillI w4 Q 58 fin [0, 1, 2, 3, 4] W → W.heap[T7]? = _ := fun W hI => (hI.grown.block T7 (Array.getElem?_eq_some_iff.1 hT4).1 (by simp; omega)).trans hT4
    have hsW : ∀ W, FillI w4 Q 58 fin [0, 1, 2, 3, 4] W → Sl (.slice a n.length c) (bs n) W := fun W hI => hv4.off hnn hI.grown hQ4 (by simp)
    have hT0 : ∀ W, FillI w4 Q 58 fin [0, 1, 2, 3, 4] W → W.cell? ⟨T7, 0, none⟩ = some (.pointer (some ⟨KK, 0, none⟩)) := fun W hI => by rw [cell_of_row W _ 0 _ 98 (0, 0) (htW W hI)]; rfl
    have hK0 : ∀ W, FillI w4 Q 58 fin [0, 1, 2, 3, 4] W → W.cell? ⟨KK, 0, none⟩ = some (.slice a n.length c) := fun W hI => by rw [cell_of_row W _ 0 _ 101 (0, 0) (hkW W hI)]; rfl
    have hK1 : ∀ W, FillI w4 Q 58 fin [0, 1, 2, 3, 4] W → W.cell? ⟨KK, 1, none⟩ = some (.int .i64 X) := fun W hI => by rw [cell_of_row W _ 1 _ 101 (0, 0) (hkW W hI)]; rfl
    refine wp_region_typedV (by kernel_rfl) [] [] (fun _ _ _ => True) (fun u W v => match u with | 6 => v = .pointer (some ⟨Q, 0, none⟩) | 7 => v = .pointer (some ⟨T7, 0, none⟩) | 46 => v = .pointer (some ⟨T7, 0, none⟩) | 47 => v = .pointer (some ⟨KK, 0, none⟩) | 48 => v = .int .i64 bits | 49 => v = .pointer (some ⟨T7, 0, none⟩) | 50 => v = .pointer (some ⟨KK, 0, none⟩) | 51 => v = .pointer (some ⟨KK, 0, none⟩) | 52 => v = .pointer (some ⟨KK, 0, none⟩) | 53 => v = .slice a n.length c | 54 => v = .pointer (some ⟨T7, 0, none⟩) | 55 => v = .pointer (some ⟨KK, 0, none⟩) | 56 => v = .pointer (some ⟨KK, 0, none⟩) | 57 => v = .pointer (some ⟨KK, 1, none⟩) | 58 => v = .int .i64 X | 59 => v = .pointer (some ⟨Q, 5, none⟩) | 60 => v = .pointer (some ⟨Q, 6, none⟩) | 61 => v = .pointer (some ⟨Q, 7, none⟩) | _ => True) (FillI w4 Q 58 fin [0, 1, 2, 3, 4]) (FillR Q 58 fin) (FillS [(14, 5), (16, 6), (18, 7)] Q 58 fin) ?hmono ?hmonoS (by kernel_rfl) [46, 47, 48, 49, 50, 51, 52, 53, 54, 55, 56, 57, 58, 59, 60, 61] (by kernel_rfl) [7, 7, 7, 6, 6, 6] (by kernel_rfl) ?h0 [] (by kernel_rfl) ?hz ?hI [] (by kernel_rfl) ?hgs (fun W _ => FillR.refl W) ?hs ?hQ
    case hmono => exact fun u W W' v _ _ _ hv => hv
    case hmonoS => exact fun i W W' _ _ hR h c hc => hR c (h c hc)
    case h0 => simp
    case hz => simp
    case hgs => simp
    case hI => exact FillI.start hQ4 (by rw [hfs]; rfl) (by rw [← hfe]; simp) rfl rfl rfl rfl
    case hs =>
      have hR : ∀ W, FillR Q 58 fin W W := FillR.refl
      refine ⟨SafeOpW.v (SafeOpW.of hR fun W0 hI0 => safe_fieldAddr Tryz.underlying98 rfl size96 (by decide) T7 0 (fun v hv => hv) rfl) (FillS.none rfl),
        SafeOpW.v (SafeOpW.of hR fun W0 hI0 => safe_loadC Tryz.underlying96 rfl ⟨T7, 0, none⟩ (fun v hv => hv) (.pointer (some ⟨KK, 0, none⟩)) (fun W hI => by subst hI; exact hT0 _ hI0) rfl) (FillS.none rfl),
        SafeOpW.v (safeW_call1 (fun _ v => v = .pointer (some ⟨KK, 0, none⟩)) (fun W v hI hv => hv) call45 (fun a' W hI ha => by subst ha; exact (Bits_any KK _ n X W (hkW W hI) (hsW W hI) hnn hnle hnh).mono fun e w' ⟨h1, hb⟩ => ⟨_, hbe e h1, (hI.below hb).1, (hI.below hb).2, fun d hd => by cases hd; rfl⟩)) (FillS.none rfl),
        SafeOpW.v (SafeOpW.of hR fun W0 hI0 => safe_fieldAddr Tryz.underlying98 rfl size96 (by decide) T7 0 (fun v hv => hv) rfl) (FillS.none rfl),
        SafeOpW.v (SafeOpW.of hR fun W0 hI0 => safe_loadC Tryz.underlying96 rfl ⟨T7, 0, none⟩ (fun v hv => hv) (.pointer (some ⟨KK, 0, none⟩)) (fun W hI => by subst hI; exact hT0 _ hI0) rfl) (FillS.none rfl),
        SafeOpW.v (SafeOpW.of hR fun W0 hI0 => safe_nilCheck ⟨KK, 0, none⟩ (fun v hv => hv) rfl) (FillS.none rfl),
        SafeOpW.v (SafeOpW.of hR fun W0 hI0 => safe_fieldAddr Tryz.underlying101 rfl size22 (by decide) KK 0 (fun v hv => hv) rfl) (FillS.none rfl),
        SafeOpW.v (SafeOpW.of hR fun W0 hI0 => safe_loadC Tryz.underlying22 rfl ⟨KK, 0, none⟩ (fun v hv => hv) (.slice a n.length c) (fun W hI => by subst hI; exact hK0 _ hI0) rfl) (FillS.none rfl),
        SafeOpW.v (SafeOpW.of hR fun W0 hI0 => safe_fieldAddr Tryz.underlying98 rfl size96 (by decide) T7 0 (fun v hv => hv) rfl) (FillS.none rfl),
        SafeOpW.v (SafeOpW.of hR fun W0 hI0 => safe_loadC Tryz.underlying96 rfl ⟨T7, 0, none⟩ (fun v hv => hv) (.pointer (some ⟨KK, 0, none⟩)) (fun W hI => by subst hI; exact hT0 _ hI0) rfl) (FillS.none rfl),
        SafeOpW.v (SafeOpW.of hR fun W0 hI0 => safe_nilCheck ⟨KK, 0, none⟩ (fun v hv => hv) rfl) (FillS.none rfl),
        SafeOpW.v (SafeOpW.of hR fun W0 hI0 => safe_fieldAddr Tryz.underlying101 rfl size2 (by decide) KK 0 (fun v hv => hv) rfl) (FillS.none rfl),
        SafeOpW.v (SafeOpW.of hR fun W0 hI0 => safe_loadC Tryz.underlying2 rfl ⟨KK, 1, none⟩ (fun v hv => hv) (.int .i64 X) (fun W hI => by subst hI; exact hK1 _ hI0) rfl) (FillS.none rfl),
        SafeOpW.v (SafeOpW.of hR fun W0 hI0 => safe_fieldAddr Tryz.underlying58 rfl size3 (by decide) Q 0 (fun v hv => hv) rfl) (FillS.none rfl),
        safeV_fill _ 14 5 _ size3 (fun W v hI hv => hv) (fun W v hI hv => hv) f5 rfl rfl rfl,
        SafeOpW.v (SafeOpW.of hR fun W0 hI0 => safe_fieldAddr Tryz.underlying58 rfl size22 (by decide) Q 0 (fun v hv => hv) rfl) (FillS.none rfl),
        safeV_fill _ 16 6 _ size22 (fun W v hI hv => hv) (fun W v hI hv => hv) f6' rfl rfl rfl,
        SafeOpW.v (SafeOpW.of hR fun W0 hI0 => safe_fieldAddr Tryz.underlying58 rfl size2 (by decide) Q 0 (fun v hv => hv) rfl) (FillS.none rfl),
        safeV_fill _ 18 7 _ size2 (fun W v hI hv => hv) (fun W v hI hv => hv) f7 rfl rfl rfl, trivial⟩
    case hQ =>
      rintro f w5 hI hS hT
      have hQ5 := hI.done fun i hi => by
        rw [hfs] at hi
        rcases i with _ | _ | _ | _ | _ | _ | _ | _ | i
        · exact hI.kept _ (by simp)
        · exact hI.kept _ (by simp)
        · exact hI.kept _ (by simp)
        · exact hI.kept _ (by simp)
        · exact hI.kept _ (by simp)
        · exact hS 14 (by decide) 5 rfl
        · exact hS 16 (by decide) 6 rfl
        · exact hS 18 (by decide) 7 rfl
        · omega
      have hB5 := (hI.grown.block w.heap.size (Array.getElem?_eq_some_iff.1 hB4).1 (by simp; omega)).trans hB4
      have hb5 : Below w.heap.size w w5 := below_grown hb4 hI.grown (by intro k hk; simp only [Option.some.injEq] at hk; omega) hb4.size
      have hb6 := hb5.setRowB fin (Nat.le_refl _)
      have hB6 := setRow_heap _ w.heap.size _ fin 58 (0, 0) hB5
      have hsf : (Tryz.prog.info? 58).map (·.size) = some fin.size := by rw [hfs]; exact size58
      have hof : fin.all (·.oneCell') = true := by rw [← hfe]; simp [Value.oneCell']
      have hv6 : Sl (.slice a n.length c) (bs n) (w5.setRow w.heap.size fin) :=
        (hsW _ hI).off hnn (Q := w.heap.size) ⟨rfl, rfl, rfl, by simp [World.setRow], fun k hk hne => setRow_other _ _ k _ (fun e => hne (by rw [e]))⟩ hB5 (by simp)
      have hfin : EE (.returned (.tuple #[.agg fin, .nilIface])) (w5.setRow w.heap.size fin) := by
        rw [← hEE, ← hfe, ← hsK, ← hsN]
        rw [← hfe, ← hsK, ← hsN] at hv6
        exact ⟨_, _, _, _, _, _, _, _, _, _, rfl, hv6⟩
      simp only [putAll, List.setIfInBounds_toArray, List.set_cons_zero, List.set_cons_succ]
      clear hS hT hkW htW hsW hT0 hK0 hK1 hfe hEE hv6 hI
      go_wp2_with (first | (refine wpList_load_row rfl 58 (.tmp 6) rfl Q rfl 58 fin (0, 0) _ hQ5 Tryz.underlying58 rfl hsf ?_) | (refine wpList_store_row rfl 58 (.tmp 2) (.tmp 68) rfl w.heap.size fin rfl rfl 58 _ hB5 hsf (by rw [hfs]; rfl) hof ?_))
      refine ret_cell_tmp rfl w.heap.size 58 fin (0, 0) _ rfl hB6 Tryz.underlying58 rfl hsf rfl ?_
      exact ⟨hfin, hb6⟩
end Go.Proofs.YtcebfkhfnjbfjaaGreatDoor
