/- Contract of LShown. -/
import Derived.Test.YtcebfkhfnjbfjaaGreatDoorC39
import Derived.Test.YtcebfkhfnjbfjaaGreatDoorC20
import Derived.Test.YtcebfkhfnjbfjaaGreatDoorC26
namespace Go.Proofs.YtcebfkhfnjbfjaaGreatDoor
open Go.RowKit
set_option linter.unusedVariables false
set_option linter.unusedSimpArgs false
/-- The public key, as it is returned. -/
def ShownE (o : Opts) (e : Ending) : Prop := ∃ key : List UInt8, e = .returned (.string (str key)) ∧ (o.kind = edT → key.length = 32) ∧ (o.kind = rsaT → key = outerF (keyN o) (keyE o)) ∧ key.length ≤ 20000
theorem str_of (s : ByteArray) : str s.data.toList = s := str_toList s
set_option maxHeartbeats 2000000 in
set_option maxRecDepth 100000 in
theorem LShown_any (o : Opts) (w : World) (h : o.Ok w) (hp : OptOk o) (hk : keyOk o = true) :
    Calls Tryz.prog 7 #[.agg o.cells] w fun e w' => ShownE o e ∧ Below w.heap.size w w' := by
  have hb0 : Below w.heap.size w (w.alloc (.cells o.cells 25)) := (Below.refl _ _).alloc (Nat.le_refl _) _
  have hat := OptAt.new o w
  have hok := h.below hb0 (Nat.le_refl _)
  generalize hw1 : w.alloc (.cells o.cells 25) = w1 at hb0 hat hok
  have c3 := hat.c3
  have c4 := hat.c4
  obtain ⟨kk, hkk⟩ : ∃ kk, str o.kind = kk := ⟨_, rfl⟩
  have hke' := text_is edT hkk
  rw [hkk] at c3
  clear hkk
  obtain ⟨KE, hKE⟩ : ∃ KE, ShownE o = KE := ⟨_, rfl⟩
  rw [hKE]
  by_cases hke : o.kind = edT
  · have hkr : ¬ o.kind = rsaT := by rw [hke]; decide
    have hlen : o.seed.length = 32 := by
      rw [keyOk, if_neg hkr] at hk
      simp at hk
      exact hk.2
    have h1 : (kk.toList == [101, 100, 50, 53, 53, 49, 57]) = true := by rw [show [101, 100, 50, 53, 53, 49, 57] = edT from rfl, hke', hke]; simp
    have hsl := hok.seed.sl (by simp [bs, hlen])
    have htx := hsl.text (P := Tryz.prog) (src := 22) (dst := 9) Tryz.underlying22 Tryz.underlying5 Tryz.underlying9 _ rfl
    have hsz := str_size o.seed
    rw [hlen] at hsz
    have hpub := LPublic_any (str o.seed) w1 hsz
    generalize str o.seed = sd at htx hpub
    clear hke'
    replace hke : ¬ o.kind ≠ edT := by simpa using hke
    replace hkr : o.kind ≠ rsaT := hkr
    go_enter Tryz.func7, Tryz.ntmps7
    go_wp2_with fail
    refine hpub.mono ?_
    rintro e w2 ⟨⟨t, rfl, ht⟩, hb2⟩
    replace hb2 := hb0.trans (hb2.mono hb0.size)
    go_wp2
    go_ret
    refine ⟨?_, hb2⟩
    rw [← hKE]
    refine ⟨t.data.toList, by rw [str_toList]; rfl, fun _ => ?_, fun h => absurd h hkr, ?_⟩
    · rw [Array.length_toList]; exact ht
    · have : t.data.toList.length = t.size := by rw [Array.length_toList]; rfl
      omega
  · have hkr : o.kind = rsaT := by
      by_cases e : o.kind = rsaT
      · exact e
      · rw [keyOk, if_neg e] at hk
        simp [hke] at hk
    have h1 : (kk.toList == [101, 100, 50, 53, 53, 49, 57]) = false := by rw [show [101, 100, 50, 53, 53, 49, 57] = edT from rfl, hke']; simpa using hke
    clear hke' hke
    replace hkr : ¬ o.kind ≠ rsaT := by simpa using hkr
    have hpn := hp.n
    have hpe := hp.e
    have hpd := hp.d
    have hkey := LKeyOfOptions_any o w1 hok (by omega) (by omega) (by omega)
    go_enter Tryz.func7, Tryz.ntmps7
    go_wp2_with (refine wpList_load_row rfl 25 (.tmp 1) rfl w.heap.size rfl 25 o.cells (0, 0) _ hat Tryz.underlying25 rfl (load25 o) ?_)
    refine hkey.mono ?_
    rintro e w2 ⟨⟨vn, ve, vd, rfl, hvn, hve, hvd⟩, hb2⟩
    have hl1 : (keyN o).length ≤ 1000 := by
      unfold keyN
      split
      · have := ofF_length (hexD o.n); have := hexD_length o.n; omega
      · simp
    have hl2 : (keyE o).length ≤ 1000 := by
      unfold keyE
      split
      · have := ofF_length (hexD o.e); have := hexD_length o.e; omega
      · simp
    replace hb2 := hb0.trans (hb2.mono hb0.size)
    obtain ⟨an, cn, rfl⟩ := hvn.len
    obtain ⟨ae, ce, rfl⟩ := hve.len
    obtain ⟨ad, cd, rfl⟩ := hvd.len
    obtain ⟨n1, hn1⟩ : ∃ n1, (keyN o).length = n1 := ⟨_, rfl⟩
    obtain ⟨n2, hn2⟩ : ∃ n2, (keyE o).length = n2 := ⟨_, rfl⟩
    obtain ⟨n3, hn3⟩ : ∃ n3, (keyD o).length = n3 := ⟨_, rfl⟩
    rw [hn1] at hvn ⊢
    rw [hn2] at hve ⊢
    rw [hn3] at hvd ⊢
    replace hb2 := hb2.alloc hb2.size (.cells #[.slice an n1 cn, .slice ae n2 ce, .slice ad n3 cd] 32)
    replace hvn := hvn.alloc (.cells #[.slice an n1 cn, .slice ae n2 ce, .slice ad n3 cd] 32)
    replace hve := hve.alloc (.cells #[.slice an n1 cn, .slice ae n2 ce, .slice ad n3 cd] 32)
    have hbd := innerF_bound hvn hve hl1 hl2
    go_wp2_with fail
    refine (LOuter_any _ _ (keyN o) (keyE o) _ hvn hve hl1 hl2).mono ?_
    rintro e w3 ⟨rfl, hb3⟩
    replace hb3 := hb2.trans (hb3.mono hb2.size)
    clear hn1 hn2 hn3
    go_wp2
    go_ret
    refine ⟨?_, hb3⟩
    rw [← hKE]
    refine ⟨_, rfl, fun h => absurd (h.symm.trans (show o.kind = rsaT by simpa using hkr)) (by decide), fun _ => rfl, ?_⟩
    unfold outerF
    have g1 := itemF_length 6 oidT
    have g2 := itemF_length 5 []
    have g3 := itemF_length 48 (itemF 6 oidT ++ itemF 5 [])
    have g4 := itemF_length 3 (0 :: innerF (keyN o) (keyE o))
    have g5 := itemF_length 48 (itemF 48 (itemF 6 oidT ++ itemF 5 []) ++ itemF 3 (0 :: innerF (keyN o) (keyE o)))
    have go : oidT.length = 9 := rfl
    simp only [List.length_append, List.length_cons, List.length_nil] at g2 g3 g4 g5
    omega
end Go.Proofs.YtcebfkhfnjbfjaaGreatDoor
