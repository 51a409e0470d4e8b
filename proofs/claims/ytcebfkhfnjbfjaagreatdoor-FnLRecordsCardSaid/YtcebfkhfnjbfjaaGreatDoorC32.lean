/- Contracts of slices.Clone and parsePublicKey. -/
import Derived.Test.YtcebfkhfnjbfjaaGreatDoorC30
import Derived.Test.YtcebfkhfnjbfjaaGreatDoorC31
namespace Go.Proofs.YtcebfkhfnjbfjaaGreatDoor
open Go.RowKit
set_option linter.unusedVariables false
set_option linter.unusedSimpArgs false
theorem not_nil22 (a : Addr) (n c : Nat) : ∀ W, Sem.run Tryz.prog (binOp .eql 22 (.slice (some a) n c) (.slice none 0 0)) W = .ok (.bool false) W := fun W => Lib.run_eql_slice_nil W 22 5 (some a) n c 0 0 Tryz.underlying22
theorem not_nil23 (a : Addr) (n c : Nat) : ∀ W, Sem.run Tryz.prog (binOp .eql 23 (.slice (some a) n c) (.slice none 0 0)) W = .ok (.bool false) W := fun W => Lib.run_eql_slice_nil W 23 9 (some a) n c 0 0 Tryz.underlying23
set_option maxHeartbeats 1000000 in
set_option maxRecDepth 100000 in
theorem clone_any (v : Value) (l : List UInt8) (w : World) (h : Sl v (bs l) w) (h0 : 0 < l.length) (hl : l.length ≤ 1000000) :
    Calls Tryz.prog 34 #[v] w fun e w' => (∃ v', e = .returned v' ∧ Sl v' (bs l) w') ∧ Below w.heap.size w w' := by
  obtain ⟨EE, hEE⟩ : ∃ EE : Ending → World → Prop, (fun e w' => ∃ v', e = .returned v' ∧ Sl v' (bs l) w') = EE := ⟨_, rfl⟩
  obtain ⟨g, o, c, rfl, -⟩ := h.byte (i := 0) h0
  have hlb : (bs l).length = l.length := by simp [bs]
  have hown : Own w.heap.size 5 (.slice (some ⟨w.heap.size, 0, none⟩) 0 0) (bs ([] : List UInt8)) (w.alloc (.cells #[] 5)) := Own.made w ([] : List Value) w.heap.size 0 5 (Nat.le_refl _) rfl (by simp [maxLen])
  have hb1 := (Below.refl w.heap.size w).alloc (Nat.le_refl _) (.cells #[] 5)
  have hs1 : Sl (.slice (some ⟨g, o, none⟩) l.length c) (bs l) (w.alloc (.cells #[] 5)) := h.below hb1 (Nat.le_refl _)
  have hroom : ([] : List UInt8).length + l.length ≤ 1000000 := by simp; omega
  have hsz : w.heap.size ≤ (w.alloc (.cells #[] 5)).heap.size := by simp
  have hgoal : (fun e w' => (∃ v', e = Ending.returned v' ∧ Sl v' (bs l) w') ∧ Below w.heap.size w w') = fun e w' => EE e w' ∧ Below w.heap.size w w' := by rw [← hEE]
  rw [hgoal]
  clear hgoal h hlb
  have hnn := not_nil22 ⟨g, o, none⟩ l.length c
  go_enter Tryz.func34, Tryz.ntmps34
  go_wp2_with (at_builtin; refine wpList_app rfl (.tmp 5) (.tmp 6) 22 22 rfl _ _ rfl rfl (app_sl _ hown hs1 h0 hroom hsz) ?_; intro v' w2 ho hg; replace hb1 := hown.belowGrown hb1 hg (Nat.le_refl _) hsz; rw [show bs [] ++ bs l = bs l from rfl] at ho; have hfin : EE (.returned v') w2 := (by rw [← hEE]; exact ⟨_, rfl, ho.sl⟩); clear hown hs1 hg)
  go_ret
  exact ⟨hfin, hb1⟩
end Go.Proofs.YtcebfkhfnjbfjaaGreatDoor
