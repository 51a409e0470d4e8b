/- Contract of the law's closure by: some blanks. -/
import Derived.Test.YtcebfkhfnjbfjaaGreatDoorC29
import Derived.BigRegion
namespace Go.Proofs.YtcebfkhfnjbfjaaGreatDoor
open Go.RowKit
set_option linter.unusedVariables false
set_option linter.unusedSimpArgs false
/-- So many blanks. -/
def blank (k : Nat) : List UInt8 := List.replicate k 32
/-- What the closure by leaves. -/
def ByE (Bn n : Nat) (w : World) (e : Ending) (w' : World) : Prop :=
  (∃ k, k ≤ 3 ∧ e = .returned (.string (str (blank k)))) ∧ w.grownBy w' (some Bn) ∧ ∃ n' : Nat, n ≤ n' ∧ n' ≤ n + 1 ∧ w'.heap[Bn]? = some (.cells #[.int .i64 (n' : Int)] 3 (0, 0))
set_option maxHeartbeats 1000000 in
set_option maxRecDepth 100000 in
theorem by_any (Bb Bn n : Nat) (vb : Value) (l : List UInt8) (w0 w : World) (h0 : SlI vb (bs l) w0) (hbw : Below w0.heap.size w0 w) (hBn : w0.heap.size ≤ Bn) (hne : Bb ≠ Bn) (hn : n ≤ 1000000000)
    (hb : w.heap[Bb]? = some (.cells #[vb] 22 (0, 0))) (hc : w.heap[Bn]? = some (.cells #[.int .i64 (n : Int)] 3 (0, 0))) :
    Calls Tryz.prog 10 #[.pointer (some ⟨Bb, 0, none⟩), .pointer (some ⟨Bn, 0, none⟩)] w fun e w' => ByE Bn n w e w' := by
  have hle := h0.le
  have hlw := h0.below hbw (Nat.le_refl _)
  obtain ⟨a, ca, rfl⟩ := h0.len
  obtain ⟨m, hm⟩ : ∃ m, (bs l).length = m := ⟨_, rfl⟩
  have hml : l.length = m := by rw [← hm]; simp [bs]
  have cb : w.cell? ⟨Bb, 0, none⟩ = some (.slice a m ca) := by rw [cell_of_row w Bb 0 _ 22 (0, 0) hb, hm]; rfl
  have cn : w.cell? ⟨Bn, 0, none⟩ = some (.int .i64 (n : Int)) := by rw [cell_of_row w Bn 0 _ 3 (0, 0) hc]; rfl
  have fn : w.frozen? ⟨Bn, 0, none⟩ = false := frozen_of_row w Bn 0 _ 3 hc
  rw [hm] at hle
  simp only [maxLen] at hle
  by_cases hm0 : m = 0
  · subst hm0
    go_enter Tryz.func10, Tryz.ntmps10
    go_wp2
    go_ret
    exact ⟨⟨0, by omega, rfl⟩, ⟨rfl, rfl, rfl, Nat.le_refl _, fun _ _ _ => rfl⟩, n, by omega, by omega, hc⟩
  · have d0 : ((m : Int) == 0) = false := by simp; omega
    have d0' : decide ((m : Int) = 0) = false := by simp; omega
    have hw1 : (w.setCell ⟨Bn, 0, none⟩ (.int .i64 ((n : Int) + 1))).heap[Bn]? = some (.cells #[.int .i64 ((n : Int) + 1)] 3 (0, 0)) := heap_setCell_same w Bn 0 _ 3 _ hc
    have hg1 := grownBy_setCell w ⟨Bn, 0, none⟩ (.int .i64 ((n : Int) + 1))
    obtain ⟨x, hx⟩ : ∃ x, l[(n + 1) % m]? = some x := ⟨_, List.getElem?_eq_getElem (by rw [hml]; exact Nat.mod_lt _ (by omega))⟩
    obtain ⟨g, o, ca', e, hcx⟩ := h0.cell (i := (n + 1) % m) (x := .int .u8 (x.toNat : Int)) (by simp [bs, hx])
    simp only [Value.slice.injEq] at e
    obtain ⟨rfl, -, rfl⟩ := e
    have hglt : g < w0.heap.size := World.block_lt_of_cell? w0 _ hcx
    have hb1 : Below w0.heap.size w0 (w.setCell ⟨Bn, 0, none⟩ (.int .i64 ((n : Int) + 1))) := hbw.setCell hBn _
    have cx : (w.setCell ⟨Bn, 0, none⟩ (.int .i64 ((n : Int) + 1))).cell? ⟨g, o + (n + 1) % m, none⟩ = some (.int .u8 (x.toNat : Int)) := by
      rw [World.cell?_of_block (w := w0) (a := ⟨g, o + (n + 1) % m, none⟩) (hb1.block g hglt)]
      exact hcx
    have cb1 : (w.setCell ⟨Bn, 0, none⟩ (.int .i64 ((n : Int) + 1))).cell? ⟨Bb, 0, none⟩ = some (.slice (some ⟨g, o, none⟩) m ca) := by
      rw [World.cell?_of_block (w := w) (a := ⟨Bb, 0, none⟩) (hg1.block Bb (Array.getElem?_eq_some_iff.1 hb).1 (by simpa using hne))]
      exact cb
    have cn1 : (w.setCell ⟨Bn, 0, none⟩ (.int .i64 ((n : Int) + 1))).cell? ⟨Bn, 0, none⟩ = some (.int .i64 ((n : Int) + 1)) := by
      rw [cell_of_row _ Bn 0 _ 3 (0, 0) hw1]; rfl
    have hbl : Bb < (w.setCell ⟨Bn, 0, none⟩ (.int .i64 ((n : Int) + 1))).heap.size := by simp; exact (Array.getElem?_eq_some_iff.1 hb).1
    have hnl : Bn < (w.setCell ⟨Bn, 0, none⟩ (.int .i64 ((n : Int) + 1))).heap.size := by simp; exact (Array.getElem?_eq_some_iff.1 hc).1
    have hgl : g < (w.setCell ⟨Bn, 0, none⟩ (.int .i64 ((n : Int) + 1))).heap.size := by have := hb1.size; omega
    clear hb1 hlw hcx hm h0 hx hglt
    have hmod : ((n : Int) + 1).tmod (m : Int) = (((n + 1) % m : Nat) : Int) := by rw [Int.tmod_eq_emod_of_nonneg (by omega), Int.natCast_emod]; simp
    have hlt : (n + 1) % m < m := Nat.mod_lt _ (by omega)
    generalize (n + 1) % m = q at hmod hlt cx
    obtain ⟨y, hy⟩ : ∃ y, x.toNat = y := ⟨_, rfl⟩
    rw [hy] at cx
    clear hy x
    have hfin : ∀ (W : World) (k : Nat) (e : Ending), (w.setCell ⟨Bn, 0, none⟩ (.int .i64 ((n : Int) + 1))).grownBy W none → k ≤ 3 → e = .returned (.string (str (blank k))) → ByE Bn n w e W := by
      intro W k e hgW hk he
      refine ⟨⟨k, hk, he⟩, grownBy_trans hg1 ⟨hgW.os, hgW.tape, hgW.output, hgW.size, fun i hi _ => hgW.block i hi (by simp)⟩, n + 1, by omega, by omega, ?_⟩
      rw [hgW.block Bn hnl (by simp)]
      rw [hw1]
      simp
    have cb2 := World.cell?_alloc_past (w := w.setCell ⟨Bn, 0, none⟩ (.int .i64 ((n : Int) + 1))) (.cells #[.string ⟨#[]⟩, .string ⟨#[32]⟩, .string ⟨#[32, 32]⟩, .string ⟨#[32, 32, 32]⟩] 9) Bb 0 hbl
    have cn2 := World.cell?_alloc_past (w := w.setCell ⟨Bn, 0, none⟩ (.int .i64 ((n : Int) + 1))) (.cells #[.string ⟨#[]⟩, .string ⟨#[32]⟩, .string ⟨#[32, 32]⟩, .string ⟨#[32, 32, 32]⟩] 9) Bn 0 hnl
    have cx2 := World.cell?_alloc_past (w := w.setCell ⟨Bn, 0, none⟩ (.int .i64 ((n : Int) + 1))) (.cells #[.string ⟨#[]⟩, .string ⟨#[32]⟩, .string ⟨#[32, 32]⟩, .string ⟨#[32, 32, 32]⟩] 9) g (o + q) hgl
    rw [cb1] at cb2
    rw [cn1] at cn2
    rw [cx] at cx2
    clear hw1 hg1 hb hc hbw
    have hgA := World.grownBy_alloc (w.setCell ⟨Bn, 0, none⟩ (.int .i64 ((n : Int) + 1))) (.cells #[.string ⟨#[]⟩, .string ⟨#[32]⟩, .string ⟨#[32, 32]⟩, .string ⟨#[32, 32, 32]⟩] 9) none
    rcases (show y % 4 = 0 ∨ y % 4 = 1 ∨ y % 4 = 2 ∨ y % 4 = 3 by omega) with hr | hr | hr | hr
    · have hr' : (y : Int) % 4 = 0 := by omega
      clear hr
      go_enter Tryz.func10, Tryz.ntmps10
      go_wp2_with fail
      go_region
      go_wp2
      go_ret
      exact hfin _ 0 _ ⟨hgA.os, hgA.tape, hgA.output, hgA.size, hgA.block⟩ (by omega) rfl
    · have hr' : (y : Int) % 4 = 1 := by omega
      clear hr
      go_enter Tryz.func10, Tryz.ntmps10
      go_wp2_with fail
      go_region
      go_wp2
      go_ret
      exact hfin _ 1 _ ⟨hgA.os, hgA.tape, hgA.output, hgA.size, hgA.block⟩ (by omega) rfl
    · have hr' : (y : Int) % 4 = 2 := by omega
      clear hr
      go_enter Tryz.func10, Tryz.ntmps10
      go_wp2_with fail
      go_region
      go_wp2
      go_ret
      exact hfin _ 2 _ ⟨hgA.os, hgA.tape, hgA.output, hgA.size, hgA.block⟩ (by omega) rfl
    · have hr' : (y : Int) % 4 = 3 := by omega
      clear hr
      go_enter Tryz.func10, Tryz.ntmps10
      go_wp2_with fail
      go_region
      go_wp2
      go_ret
      exact hfin _ 3 _ ⟨hgA.os, hgA.tape, hgA.output, hgA.size, hgA.block⟩ (by omega) rfl
end Go.Proofs.YtcebfkhfnjbfjaaGreatDoor
