/- Contract of lOptions. Contract of lProper. -/
import Derived.Test.YtcebfkhfnjbfjaaGreatDoorC19
namespace Go.Proofs.YtcebfkhfnjbfjaaGreatDoor
open Go.RowKit
set_option linter.unusedVariables false
set_option linter.unusedSimpArgs false
/-- What options say that are looked at. -/
structure OptOk (o : Opts) : Prop where
  n : o.n.length ≤ 600
  e : o.e.length ≤ 20
  d : o.d.length ≤ 600
  keys : o.keys.length ≤ 20
  dom : o.dom.length ≤ 200
  sel : o.sel.length ≤ 200
  key : ∀ k ∈ o.keys, k.length ≤ 100
  bits : bitsL (ofF (hexD o.n)) ≤ 2048
theorem strs_length (l : List (List UInt8)) : (strs l).length = l.length := by simp [strs]
theorem hexD_length (l : List UInt8) : (hexD l).length ≤ l.length := by
  unfold hexD
  cases hx : hexF l with
  | none => simp
  | some r => have := hexF_length hx; simp; omega
theorem sl_made (W : World) (cs : List (List UInt8)) (hc : cs.length ≤ 1000) : Sl (.slice (some ⟨W.heap.size, 0, none⟩) cs.length cs.length) (strs cs) (W.alloc (.cells (strs cs).toArray 9)) := by
  have := (Own.made W (strs cs) W.heap.size cs.length 9 (Nat.le_refl _) (by simp [strs]) (by simp only [maxLen]; omega)).sl
  rw [strs_length] at this
  exact this
set_option maxHeartbeats 2000000 in
set_option maxRecDepth 100000 in
theorem lOptions_any (o : Opts) (w : World) (h : o.Ok w) (hkl : ∀ k ∈ o.keys, k.length ≤ maxLen) (hql : ∀ k ∈ o.query, k.length ≤ maxLen) :
    Calls Tryz.prog 17 #[.agg o.cells] w fun e w' => BoolP (OptOk o) e ∧ Below w.heap.size w w' := by
  have hb0 : Below w.heap.size w (w.alloc (.cells o.cells 25)) := (Below.refl _ _).alloc (Nat.le_refl _) _
  have hat := OptAt.new o w
  have hok := h.below hb0 (Nat.le_refl _)
  generalize hw1 : w.alloc (.cells o.cells 25) = w1 at hb0 hat hok
  have c5 := hat.c5
  have c6 := hat.c6
  have c7 := hat.c7
  have c10 := hat.c10
  have c14 := hat.c14
  have c0 := hat.c0
  have c1 := hat.c1
  have c2 := hat.c2
  have c3 := hat.c3
  have c8 := hat.c8
  have c9 := hat.c9
  obtain ⟨ka, kc, hk⟩ := hok.keys.len
  obtain ⟨qa, qc, hq⟩ := hok.query.len
  rw [strs_length] at hk hq
  rw [hk] at c10
  rw [hq] at c14
  obtain ⟨n1, hn1⟩ : ∃ n1, (str o.n).size = n1 := ⟨_, rfl⟩
  obtain ⟨n2, hn2⟩ : ∃ n2, (str o.e).size = n2 := ⟨_, rfl⟩
  obtain ⟨n3, hn3⟩ : ∃ n3, (str o.d).size = n3 := ⟨_, rfl⟩
  obtain ⟨n4, hn4⟩ : ∃ n4, o.keys.length = n4 := ⟨_, rfl⟩
  obtain ⟨n5, hn5⟩ : ∃ n5, o.query.length = n5 := ⟨_, rfl⟩
  rw [hn4] at c10
  rw [hn5] at c14
  by_cases b1 : 600 < n1
  · have d1 : decide (600 < (n1 : Int)) = true := by simp; omega
    go_enter Tryz.func17, Tryz.ntmps17
    go_wp2
    go_ret
    exact ⟨⟨false, rfl, by simp⟩, hb0⟩
  have d1 : decide (600 < (n1 : Int)) = false := by simp; omega
  by_cases b2 : 20 < n2
  · have d2 : decide (20 < (n2 : Int)) = true := by simp; omega
    go_enter Tryz.func17, Tryz.ntmps17
    go_wp2
    go_ret
    exact ⟨⟨false, rfl, by simp⟩, hb0⟩
  have d2 : decide (20 < (n2 : Int)) = false := by simp; omega
  by_cases b3 : 600 < n3
  · have d3 : decide (600 < (n3 : Int)) = true := by simp; omega
    go_enter Tryz.func17, Tryz.ntmps17
    go_wp2
    go_ret
    exact ⟨⟨false, rfl, by simp⟩, hb0⟩
  have d3 : decide (600 < (n3 : Int)) = false := by simp; omega
  by_cases b4 : 20 < n4
  · have d4 : decide (20 < (n4 : Int)) = true := by simp; omega
    go_enter Tryz.func17, Tryz.ntmps17
    go_wp2
    go_ret
    exact ⟨⟨false, rfl, by simp⟩, hb0⟩
  have d4 : decide (20 < (n4 : Int)) = false := by simp; omega
  by_cases b5 : 5 < n5
  · have d5 : decide (5 < (n5 : Int)) = true := by simp; omega
    go_enter Tryz.func17, Tryz.ntmps17
    go_wp2
    go_ret
    exact ⟨⟨false, rfl, by simp⟩, hb0⟩
  have d5 : decide (5 < (n5 : Int)) = false := by simp; omega
  have hls := h.lens
  go_enter Tryz.func17, Tryz.ntmps17
  go_wp2_with fail
  have hsl : Sl (.slice (some ⟨w1.heap.size, 0, none⟩) 6 6) (strs [o.dom, o.sel, o.idn, o.kind, o.hdr, o.body]) (w1.alloc (.cells #[.string (str o.dom), .string (str o.sel), .string (str o.idn), .string (str o.kind), .string (str o.hdr), .string (str o.body)] 9)) := sl_made w1 [o.dom, o.sel, o.idn, o.kind, o.hdr, o.body] (by simp)
  refine (lShort_any _ 200 _ _ hsl.toI (by intro x hx; simp at hx; rcases hx with rfl | rfl | rfl | rfl | rfl | rfl <;> exact hls _ (by simp))).mono ?_
  rintro e w2 ⟨⟨b, rfl, hp1⟩, hb2⟩
  have hb1 := hb0.alloc hb0.size (.cells #[.string (str o.dom), .string (str o.sel), .string (str o.idn), .string (str o.kind), .string (str o.hdr), .string (str o.body)] 9)
  have hat2 := (hat.alloc (.cells #[.string (str o.dom), .string (str o.sel), .string (str o.idn), .string (str o.kind), .string (str o.hdr), .string (str o.body)] 9)).keep hb2 (Nat.le_refl _)
  replace hb2 := hb1.trans (hb2.mono hb1.size)
  have hok2 := h.below hb2 (Nat.le_refl _)
  clear hsl hb1 hat hok c0 c1 c2 c3 c5 c6 c7 c8 c9 c10 c14
  cases b
  · go_wp2
    go_ret
    exact ⟨⟨false, rfl, by simp⟩, hb2⟩
  have c10 := hat2.c10
  have hk2 := hok2.keys
  rw [hk, hn4] at hk2
  go_wp2_with fail
  refine (lShort_any _ 100 _ _ hk2 hkl).mono ?_
  rintro e w3 ⟨⟨b, rfl, hp2⟩, hb3⟩
  have hat3 := hat2.keep hb3 (Nat.le_refl _)
  replace hb3 := hb2.trans (hb3.mono hb2.size)
  have hok3 := h.below hb3 (Nat.le_refl _)
  clear hb2 hat2 hok2 c10 hk2
  cases b
  · go_wp2
    go_ret
    exact ⟨⟨false, rfl, by simp⟩, hb3⟩
  have c14 := hat3.c14
  have hq3 := hok3.query
  rw [hq, hn5] at hq3
  go_wp2_with fail
  refine (lShort_any _ 100 _ _ hq3 hql).mono ?_
  rintro e w4 ⟨⟨b, rfl, hp3⟩, hb4⟩
  have hat4 := hat3.keep hb4 (Nat.le_refl _)
  replace hb4 := hb3.trans (hb4.mono hb3.size)
  clear hb3 hat3 hok3 c14 hq3 hp3
  cases b
  · go_wp2
    go_ret
    exact ⟨⟨false, rfl, by simp⟩, hb4⟩
  have c5 := hat4.c5
  have c6 := hat4.c6
  have c7 := hat4.c7
  have l1 : o.n.length ≤ 600 := by have := str_size o.n; omega
  have l2 : o.e.length ≤ 20 := by have := str_size o.e; omega
  have l3 : o.d.length ≤ 600 := by have := str_size o.d; omega
  have hsl : Sl (.slice (some ⟨w4.heap.size, 0, none⟩) 3 3) (strs [o.n, o.e, o.d]) (w4.alloc (.cells #[.string (str o.n), .string (str o.e), .string (str o.d)] 9)) := sl_made w4 [o.n, o.e, o.d] (by simp)
  have hb5 := hb4.alloc hb4.size (.cells #[.string (str o.n), .string (str o.e), .string (str o.d)] 9)
  have hat5 := hat4.alloc (.cells #[.string (str o.n), .string (str o.e), .string (str o.d)] 9)
  go_wp2_with fail
  generalize w4.alloc (.cells #[.string (str o.n), .string (str o.e), .string (str o.d)] 9) = w5 at hsl hb5 hat5 ⊢
  generalize w4.heap.size = B at hsl ⊢
  clear hb4 hat4 c5 c6 c7
  go_loopw [76] (fun v76 W => ∃ i : Nat, v76 = .int .i64 (i : Int) ∧ i ≤ 3 ∧ Below w.heap.size w W ∧ OptAt o w.heap.size W ∧ Sl (.slice (some ⟨B, 0, none⟩) 3 3) (strs [o.n, o.e, o.d]) W) (fun v76 _ => (3 - intOf v76).toNat)
  case atStart => exact ⟨0, rfl, by omega, hb5, hat5, hsl⟩
  case round =>
    clear hb5 hat5 hsl
    obtain ⟨i, rfl, hi, hb5, hat5, hsl⟩ := hrel
    by_cases h1 : i < 3
    · have hd1 : decide ((i : Int) < 3) = true := by simp; omega
      obtain ⟨s, hs, hsz⟩ : ∃ s, (strs [o.n, o.e, o.d])[i]? = some (.string (str s)) ∧ s.length ≤ 1000 := by
        rcases i with _ | _ | _ | i
        · exact ⟨o.n, rfl, by omega⟩
        · exact ⟨o.e, rfl, by omega⟩
        · exact ⟨o.d, rfl, by omega⟩
        · omega
      obtain ⟨g, oo, cc, e, hc⟩ := hsl.cell hs
      simp only [strs, List.length_map, List.length_cons, List.length_nil, Value.slice.injEq, Option.some.injEq, Addr.mk.injEq] at e
      obtain ⟨⟨rfl, rfl, -⟩, -, -⟩ := e
      rw [Nat.zero_add] at hc
      go_wp2_with fail
      refine (LHex_any s _ (by omega)).mono ?_
      rw [optE_eq]
      rintro e w6 ⟨rfl, hb6⟩
      have hat6 := hat5.keep hb6 (Nat.le_refl _)
      have hsl6 := hsl.below hb6 (Nat.le_refl _)
      replace hb6 := hb5.trans (hb6.mono hb5.size)
      generalize (hexF s).getD [] = t
      generalize (hexF s).isSome = b
      cases b
      · go_wp2
        go_ret
        exact ⟨⟨false, rfl, by simp⟩, hb6⟩
      · go_wp2
        go_roundw
        case rel => exact ⟨i + 1, by go_num, by omega, hb6, hat6, hsl6⟩
        case measure => simp [intOf] <;> omega
    · have hd1 : decide ((i : Int) < 3) = false := by simp; omega
      have c5 := hat5.c5
      go_wp2_with fail
      refine (LHex_any o.n _ (by omega)).mono ?_
      rw [optE_eq, show (hexF o.n).getD [] = hexD o.n from rfl]
      generalize (hexF o.n).isSome = q1
      rintro e w6 ⟨rfl, hb6⟩
      have hat6 := hat5.keep hb6 (Nat.le_refl _)
      replace hb6 := hb5.trans (hb6.mono hb5.size)
      have c6 := hat6.c6
      clear hb5 hat5 hsl
      go_wp2_with fail
      refine (LHex_any o.e _ (by omega)).mono ?_
      rw [optE_eq, show (hexF o.e).getD [] = hexD o.e from rfl]
      generalize (hexF o.e).isSome = q2
      rintro e w7 ⟨rfl, hb7⟩
      have hat7 := hat6.keep hb7 (Nat.le_refl _)
      replace hb7 := hb6.trans (hb7.mono hb6.size)
      clear hb6 hat6 c5 c6
      have m1 := hexD_length o.n
      have m2 := hexD_length o.e
      go_wp2_with fail
      refine (LOf_any (hexD o.n) _ (by omega)).mono ?_
      rintro e w8 ⟨⟨vn, rfl, hvn⟩, hb8⟩
      have hat8 := hat7.keep hb8 (Nat.le_refl _)
      replace hb8 := hb7.trans (hb8.mono hb7.size)
      clear hb7 hat7
      have m3 := ofF_length (hexD o.n)
      have m4 := ofF_length (hexD o.e)
      go_wp2_with fail
      refine (LBits_any _ _ _ hvn (by omega)).mono ?_
      rintro e w9 ⟨rfl, hb9⟩
      have hat9 := hat8.keep hb9 (Nat.le_refl _)
      replace hb9 := hb8.trans (hb9.mono hb8.size)
      clear hb8 hat8 hvn
      obtain ⟨bn, hbn⟩ : ∃ bn, bitsL (ofF (hexD o.n)) = bn := ⟨_, rfl⟩
      rw [hbn]
      by_cases e1 : bn ≤ 2048
      · have f1 : decide ((bn : Int) ≤ 2048) = true := by simp; omega
        have hfin : OptOk o := ⟨l1, l2, l3, by omega, by have := (hp1 (by simp)).2 o.dom (by simp); omega, by have := (hp1 (by simp)).2 o.sel (by simp); omega, fun k hk => by have := (hp2 (by simp)).2 k hk; omega, by omega⟩
        clear hp1 hp2
        go_wp2_with fail
        refine (LOf_any (hexD o.e) _ (by omega)).mono ?_
        rintro e w10 ⟨⟨ve, rfl, hve⟩, hb10⟩
        have hat10 := hat9.keep hb10 (Nat.le_refl _)
        replace hb10 := hb9.trans (hb10.mono hb9.size)
        clear hb9 hat9
        go_wp2_with fail
        refine (LBits_any _ _ _ hve (by omega)).mono ?_
        rintro e w11 ⟨rfl, hb11⟩
        have hat11 := hat10.keep hb11 (Nat.le_refl _)
        replace hb11 := hb10.trans (hb11.mono hb10.size)
        clear hb10 hat10 hve
        have c12 := hat11.c12
        have c13 := hat11.c13
        generalize bitsL (ofF (hexD o.e)) = be
        generalize o.now = nw at c13
        generalize o.exp = ex at c12
        by_cases e2 : be < 32
        · have f2 : decide ((be : Int) < 32) = true := by simp; omega
          by_cases e3 : 0 ≤ nw
          · have f3 : decide (0 ≤ nw) = true := by simpa using e3
            by_cases e4 : nw < 8589934592
            · have f4 : decide (nw < 8589934592) = true := by simpa using e4
              by_cases e5 : 0 ≤ ex
              · have f5 : decide (0 ≤ ex) = true := by simpa using e5
                go_wp2
                go_ret
                exact ⟨⟨_, rfl, fun _ => hfin⟩, hb11⟩
              · have f5 : decide (0 ≤ ex) = false := by simpa using e5
                go_wp2
                go_ret
                exact ⟨⟨_, rfl, fun _ => hfin⟩, hb11⟩
            · have f4 : decide (nw < 8589934592) = false := by simpa using e4
              go_wp2
              go_ret
              exact ⟨⟨_, rfl, fun _ => hfin⟩, hb11⟩
          · have f3 : decide (0 ≤ nw) = false := by simpa using e3
            go_wp2
            go_ret
            exact ⟨⟨_, rfl, fun _ => hfin⟩, hb11⟩
        · have f2 : decide ((be : Int) < 32) = false := by simp; omega
          go_wp2
          go_ret
          exact ⟨⟨_, rfl, fun _ => hfin⟩, hb11⟩
      · have f1 : decide ((bn : Int) ≤ 2048) = false := by simp; omega
        go_wp2
        go_ret
        exact ⟨⟨false, rfl, by simp⟩, hb9⟩
end Go.Proofs.YtcebfkhfnjbfjaaGreatDoor
namespace Go.Proofs.YtcebfkhfnjbfjaaGreatDoor
open Go.RowKit
set_option linter.unusedVariables false
set_option linter.unusedSimpArgs false
theorem opts_size (o : Opts) : o.cells.size = 15 := rfl
theorem size25 : (Tryz.prog.info? 25).map (·.size) = some 15 := by kernel_rfl
theorem load25 (o : Opts) : (Tryz.prog.info? 25).map (·.size) = some o.cells.size := by rw [opts_size]; exact size25
theorem strs_one (l : List (List UInt8)) : ∀ u ∈ strs l, u.oneCell' = true := by
  intro u hu
  simp only [strs, List.mem_map] at hu
  obtain ⟨b, _, rfl⟩ := hu
  rfl
/-- Append of texts that came in to an owned slice of texts. -/
theorem app_strs {base : Nat} {v kv : Value} {xs ks : List (List UInt8)} {w : World} (ty : TypeId) (hown : Own base 9 v (strs xs) w) (hk : SlI kv (strs ks) w) (hb : xs.length + ks.length ≤ 1000000) (hbase : base ≤ w.heap.size) :
    Appended base 9 v (strs xs) (strs ks) w ((Builtin.append_ #[23, 23] ty #[v, kv]).run Tryz.prog w) := by
  obtain ⟨i, hi, hz, hs, hby⟩ := info_of info9
  obtain ⟨a, cap, rfl, h2, h3, h4⟩ := hk
  have hl : (strs ks).length = ks.length := by simp [strs]
  have hlx : (strs xs).length = xs.length := by simp [strs]
  cases a with
  | some a =>
    refine run_append_Own 23 ty 9 i _ 16 Tryz.underlying23 hi hz hs hby rfl hown a _ cap (strs ks) rfl (fun j u hu => ?_) (strs_one ks) (by omega) (by simp only [maxLen]; omega) hbase
    rcases h4 with h4 | ⟨g, o, he, h5⟩
    · rw [h4] at hu; simp at hu
    · cases he
      have := h5 j u hu
      have hadd : (⟨g, o, none⟩ : Addr).add j = ⟨g, o + j, none⟩ := by unfold Addr.add; split <;> simp_all
      rw [hadd]
      exact this
  | none =>
    have hks : ks = [] := by
      rcases h4 with h4 | ⟨g, o, he, h5⟩
      · simpa [strs] using h4
      · cases he
    subst hks
    refine ⟨v, w, ?_, by simpa [strs] using hown, ⟨rfl, rfl, rfl, Nat.le_refl _, fun _ _ _ => rfl⟩⟩
    rcases hown with ⟨rfl, hx⟩ | ⟨g, cap', cs, fr, rfl, hb', hg, h11, h2, h3, h4, h5⟩
    · simp [Builtin.append_, run_underlying Tryz.underlying23, sizeOf, typeInfo, hi, Builtin.lenOf, Builtin.firstCells, strs]
    · have hroom : xs.length ≤ cap' := by rw [← hlx]; exact h11
      simp [Builtin.append_, run_underlying Tryz.underlying23, sizeOf, typeInfo, hi, Builtin.lenOf, Builtin.firstCells, strs, storeCells, hroom]
set_option maxHeartbeats 2000000 in
set_option maxRecDepth 100000 in
theorem lProper_any (o : Opts) (w : World) (h : o.Ok w) (hkl : ∀ k ∈ o.keys, k.length ≤ maxLen) (hql : ∀ k ∈ o.query, k.length ≤ maxLen) :
    Calls Tryz.prog 5 #[.agg o.cells] w fun e w' => BoolP (OptOk o ∧ keyOk o = true) e ∧ Below w.heap.size w w' := by
  have hb0 : Below w.heap.size w (w.alloc (.cells o.cells 25)) := (Below.refl _ _).alloc (Nat.le_refl _) _
  have hat := OptAt.new o w
  have hok := h.below hb0 (Nat.le_refl _)
  generalize hw1 : w.alloc (.cells o.cells 25) = w1 at hb0 hat hok
  obtain ⟨qa, qc, hq⟩ := hok.query.len
  rw [strs_length] at hq
  go_enter Tryz.func5, Tryz.ntmps5
  go_wp2_with (refine wpList_load_row rfl 25 (.tmp 1) rfl w.heap.size rfl 25 o.cells (0, 0) _ hat Tryz.underlying25 rfl (load25 o) ?_)
  refine (lOptions_any o w1 hok hkl hql).mono ?_
  rintro e w2 ⟨⟨b, rfl, hp⟩, hb2⟩
  have hat2 := hat.keep hb2 (Nat.le_refl _)
  replace hb2 := hb0.trans (hb2.mono hb0.size)
  clear hat hb0 hok
  have c11 := hat2.c11
  have c14 := hat2.c14
  have c0 := hat2.c0
  have c1 := hat2.c1
  have c10 := hat2.c10
  cases b
  · go_wp2
    go_ret
    exact ⟨⟨false, rfl, by simp⟩, hb2⟩
  replace hp : OptOk o := hp rfl
  obtain ⟨al, hal⟩ : ∃ al, o.all = al := ⟨_, rfl⟩
  rw [hal] at c11
  cases al
  · cases qa with
    | some qa =>
      go_wp2
      go_ret
      exact ⟨⟨false, rfl, by simp⟩, hb2⟩
    | none =>
      have hkw := (h.below hb2 (Nat.le_refl _)).keys
      have hown := Own.made w2 (strs [o.dom, o.sel]) w2.heap.size 2 9 (Nat.le_refl _) rfl (by simp [maxLen])
      have c10' := (hat2.alloc (.cells #[.string (str o.dom), .string (str o.sel)] 9)).c10
      have hb2' := hb2.alloc hb2.size (.cells #[.string (str o.dom), .string (str o.sel)] 9)
      have hat2' := hat2.alloc (.cells #[.string (str o.dom), .string (str o.sel)] 9)
      go_wp2_with (at_builtin; go_loud (refine wpList_app rfl (.tmp 26) (.tmp 28) 23 23 rfl _ _ rfl rfl (app_strs _ hown (hkw.alloc _) (by have := hp.keys; simp; omega) (by simp)) ?_; intro v3 w3 ho hg))
      have hb3 : Below w.heap.size w w3 := (hown.from hb2.size).belowGrown hb2' hg (Nat.le_refl _) hb2'.size
      have hat3 : OptAt o w.heap.size w3 := by
        have := hg.block w.heap.size hat2'.lt (by intro e; exact absurd (Option.some.inj e) (Nat.ne_of_lt hat2.lt))
        unfold OptAt at hat2' ⊢
        rw [this]
        exact hat2'
      replace ho : Own w2.heap.size 9 v3 (strs ([o.dom, o.sel] ++ o.keys)) w3 := by simpa [strs] using ho
      have hwl : ∀ x ∈ [o.dom, o.sel] ++ o.keys, x.length ≤ 200 := by
        intro x hx
        simp at hx
        rcases hx with rfl | rfl | hx
        · exact hp.dom
        · exact hp.sel
        · have := hp.key x hx; omega
      have hwn : ([o.dom, o.sel] ++ o.keys).length ≤ 22 := by have := hp.keys; simp; omega
      generalize [o.dom, o.sel] ++ o.keys = ws at ho hwl hwn
      obtain ⟨wa, wc, rfl⟩ := ho.len
      obtain ⟨m, hm⟩ : ∃ m, (strs ws).length = m := ⟨_, rfl⟩
      have hm' : ws.length = m := by rw [← hm]; simp [strs]
      rw [hm] at ho ⊢
      rw [hm'] at hwn
      replace ho := ho.sl
      clear hown hg hkw c10' hb2' hat2' c11 c14 c0 c1 c10 hb2 hat2
      go_loopw [4, 5] (fun v4 v5 W => ∃ (i : Nat) (fr : Bool), v4 = .bool fr ∧ v5 = .int .i64 (i : Int) ∧ i ≤ m ∧ Sl (.slice wa m wc) (strs ws) W ∧ OptAt o w.heap.size W ∧ Below w.heap.size w W) (fun _ v5 _ => (m - intOf v5).toNat)
      case atStart => exact ⟨0, false, rfl, rfl, by omega, ho, hat3, hb3⟩
      case round =>
        clear ho hat3 hb3
        obtain ⟨i, fr, rfl, rfl, hi, ho, hat3, hb3⟩ := hrel
        by_cases h1 : i < m
        · have hd1 : decide ((i : Int) < (m : Int)) = true := by simp; omega
          have hlt : i < ws.length := by omega
          obtain ⟨x, hx, hxl⟩ : ∃ x, (strs ws)[i]? = some (.string (str x)) ∧ x.length ≤ 200 := ⟨ws[i], by simp [strs]; exact ⟨_, List.getElem?_eq_getElem hlt, rfl⟩, hwl _ (List.getElem_mem hlt)⟩
          obtain ⟨g, oo, ca', e, hc⟩ := ho.cell hx
          simp only [Value.slice.injEq] at e
          obtain ⟨rfl, -, rfl⟩ := e
          go_wp2_with fail
          refine (DStrip_any x _ (by omega)).mono ?_
          rintro e w4 ⟨⟨t, rfl⟩, hb4⟩
          replace ho := ho.below hb4 (Nat.le_refl _)
          replace hat3 := hat3.keep hb4 (Nat.le_refl _)
          replace hb3 := hb3.trans (hb4.mono hb3.size)
          clear hb4
          obtain ⟨q1, hq1⟩ : ∃ q1, (t.toList == (str x).toList) = q1 := ⟨_, rfl⟩
          obtain ⟨q0, hq0⟩ : ∃ q0, (str x).toList.isEmpty = q0 := ⟨_, rfl⟩
          cases q1
          · go_wp2_with fail
            go_ret
            exact ⟨⟨false, rfl, by simp⟩, hb3⟩
          cases q0
          rotate_left
          · go_wp2_with fail
            go_ret
            exact ⟨⟨false, rfl, by simp⟩, hb3⟩
          by_cases hi1 : 1 < i
          · have di : decide (1 < (i : Int)) = true := by simp; omega
            go_wp2_with fail
            refine (DSplit_any x 59 _ (by omega)).mono ?_
            rintro e w5 ⟨⟨a1, n1, k1, rfl, hl1⟩, hb4⟩
            replace ho := ho.below hb4 (Nat.le_refl _)
            replace hat3 := hat3.keep hb4 (Nat.le_refl _)
            replace hb3 := hb3.trans (hb4.mono hb3.size)
            clear hb4
            go_wp2_with fail
            refine (DSplit_any x 58 _ (by omega)).mono ?_
            rintro e w6 ⟨⟨a2, n2, k2, rfl, hl2⟩, hb4⟩
            replace ho := ho.below hb4 (Nat.le_refl _)
            replace hat3 := hat3.keep hb4 (Nat.le_refl _)
            replace hb3 := hb3.trans (hb4.mono hb3.size)
            clear hb4
            go_wp2_with fail
            refine (DSplit_any x 61 _ (by omega)).mono ?_
            rintro e w7 ⟨⟨a3, n3, k3, rfl, hl3⟩, hb4⟩
            replace ho := ho.below hb4 (Nat.le_refl _)
            replace hat3 := hat3.keep hb4 (Nat.le_refl _)
            replace hb3 := hb3.trans (hb4.mono hb3.size)
            clear hb4
            by_cases hsum : (n1 : Int) + n2 + n3 = 3
            · have ds : (((n1 : Int) + n2 + n3) == 3) = true := by simpa using hsum
              go_wp2_with fail
              refine (DLower_any x _ (by omega)).mono ?_
              rintro e w8 ⟨⟨t2, rfl⟩, hb4⟩
              replace ho := ho.below hb4 (Nat.le_refl _)
              replace hat3 := hat3.keep hb4 (Nat.le_refl _)
              replace hb3 := hb3.trans (hb4.mono hb3.size)
              clear hb4
              generalize hq2 : (t2.toList == [100, 107, 105, 109, 45, 115, 105, 103, 110, 97, 116, 117, 114, 101]) = q2
              cases q2
              · cases fr
                · go_wp2_with fail
                  refine (DLower_any x _ (by omega)).mono ?_
                  rintro e w9 ⟨⟨t3, rfl⟩, hb4⟩
                  replace ho := ho.below hb4 (Nat.le_refl _)
                  replace hat3 := hat3.keep hb4 (Nat.le_refl _)
                  replace hb3 := hb3.trans (hb4.mono hb3.size)
                  clear hb4
                  go_wp2
                  go_roundw
                  case rel => exact ⟨i + 1, _, rfl, by go_num, by omega, ho, hat3, hb3⟩
                  case measure => simp [intOf] <;> omega
                · go_wp2
                  go_roundw
                  case rel => exact ⟨i + 1, _, rfl, by go_num, by omega, ho, hat3, hb3⟩
                  case measure => simp [intOf] <;> omega
              · go_wp2
                go_ret
                exact ⟨⟨false, rfl, by simp⟩, hb3⟩
            · have ds : (((n1 : Int) + n2 + n3) == 3) = false := by simpa using hsum
              go_wp2_with fail
              go_ret
              exact ⟨⟨false, rfl, by simp⟩, hb3⟩
          · have di : decide (1 < (i : Int)) = false := by simp; omega
            go_wp2_with fail
            refine (DSplit_any x 59 _ (by omega)).mono ?_
            rintro e w5 ⟨⟨a1, n1, k1, rfl, hl1⟩, hb4⟩
            replace ho := ho.below hb4 (Nat.le_refl _)
            replace hat3 := hat3.keep hb4 (Nat.le_refl _)
            replace hb3 := hb3.trans (hb4.mono hb3.size)
            clear hb4
            go_wp2_with fail
            refine (DSplit_any x 58 _ (by omega)).mono ?_
            rintro e w6 ⟨⟨a2, n2, k2, rfl, hl2⟩, hb4⟩
            replace ho := ho.below hb4 (Nat.le_refl _)
            replace hat3 := hat3.keep hb4 (Nat.le_refl _)
            replace hb3 := hb3.trans (hb4.mono hb3.size)
            clear hb4
            go_wp2_with fail
            refine (DSplit_any x 61 _ (by omega)).mono ?_
            rintro e w7 ⟨⟨a3, n3, k3, rfl, hl3⟩, hb4⟩
            replace ho := ho.below hb4 (Nat.le_refl _)
            replace hat3 := hat3.keep hb4 (Nat.le_refl _)
            replace hb3 := hb3.trans (hb4.mono hb3.size)
            clear hb4
            by_cases hsum : (n1 : Int) + n2 + n3 = 3
            · have ds : (((n1 : Int) + n2 + n3) == 3) = true := by simpa using hsum
              cases fr
              · go_wp2
                go_roundw
                case rel => exact ⟨i + 1, _, rfl, by go_num, by omega, ho, hat3, hb3⟩
                case measure => simp [intOf] <;> omega
              · go_wp2
                go_roundw
                case rel => exact ⟨i + 1, _, rfl, by go_num, by omega, ho, hat3, hb3⟩
                case measure => simp [intOf] <;> omega
            · have ds : (((n1 : Int) + n2 + n3) == 3) = false := by simpa using hsum
              go_wp2_with fail
              go_ret
              exact ⟨⟨false, rfl, by simp⟩, hb3⟩
        · have hd1 : decide ((i : Int) < (m : Int)) = false := by simp; omega
          clear ho
          go_wp2_with (refine wpList_load_row rfl 25 (.tmp 1) rfl w.heap.size rfl 25 o.cells (0, 0) _ hat3 Tryz.underlying25 rfl (load25 o) ?_)
          have hpn := hp.n
          have hpe := hp.e
          have hpd := hp.d
          refine (LKeyOfOptions_any o _ (h.below hb3 (Nat.le_refl _)) (by omega) (by omega) (by omega)).mono ?_
          rintro e w4 ⟨⟨vn, ve, vd, rfl, hvn, hve, hvd⟩, hb4⟩
          obtain ⟨an, cn, rfl⟩ := hvn.len
          obtain ⟨ae, ce, rfl⟩ := hve.len
          obtain ⟨ad, cd, rfl⟩ := hvd.len
          replace hat3 := hat3.keep hb4 (Nat.le_refl _)
          replace hb3 := hb3.trans (hb4.mono hb3.size)
          clear hb4 hvn hve hvd
          generalize (keyN o).length = n1
          generalize (keyE o).length = n2
          generalize (keyD o).length = n3
          have hbc := hb3.alloc hb3.size (.cells #[.slice an n1 cn, .slice ae n2 ce, .slice ad n3 cd] 32)
          have hatc := hat3.alloc (.cells #[.slice an n1 cn, .slice ae n2 ce, .slice ad n3 cd] 32)
          have c8 := hatc.c8
          cases fr
          · go_wp2_with fail
            all_goals (go_ret; exact ⟨⟨false, rfl, by simp⟩, hbc⟩)
          go_wp2_with fail
          generalize w4.alloc (.cells #[.slice an n1 cn, .slice ae n2 ce, .slice ad n3 cd] 32) = w5 at hbc hatc ⊢
          clear c8 hb3 hat3
          refine (known_any _ _).mono ?_
          rintro e w6 ⟨⟨b1, rfl⟩, hb4⟩
          replace hatc := hatc.keep hb4 (Nat.le_refl _)
          replace hbc := hbc.trans (hb4.mono hbc.size)
          clear hb4
          have c9 := hatc.c9
          cases b1
          · go_wp2_with fail
            all_goals (go_ret; exact ⟨⟨false, rfl, by simp⟩, hbc⟩)
          go_wp2_with fail
          refine (known_any _ _).mono ?_
          rintro e w7 ⟨⟨b2, rfl⟩, hb4⟩
          replace hatc := hatc.keep hb4 (Nat.le_refl _)
          replace hbc := hbc.trans (hb4.mono hbc.size)
          clear hb4 c9
          cases b2
          · go_wp2_with fail
            all_goals (go_ret; exact ⟨⟨false, rfl, by simp⟩, hbc⟩)
          generalize hkk : keyOk o = kk
          cases kk
          · go_wp2_with fail
            all_goals (go_ret; exact ⟨⟨false, rfl, by simp⟩, hbc⟩)
          have hfin : OptOk o ∧ keyOk o = true := ⟨hp, hkk⟩
          have c2 := hatc.c2
          have c0 := hatc.c0
          have c12 := hatc.c12
          have c13 := hatc.c13
          have z0 : (str o.dom).size ≤ 200 := by rw [str_size]; exact hp.dom
          have z1 : (⟨#[64]⟩ : ByteArray).size = 1 := rfl
          have z2 : (⟨#[106, 111, 101, 64, 115, 117, 98, 46]⟩ : ByteArray).size = 8 := rfl
          obtain ⟨PP, hPP⟩ : ∃ PP, (OptOk o ∧ keyOk o = true) = PP := ⟨_, rfl⟩
          clear hkk
          go_wp2_with fail
          all_goals (go_ret; exact ⟨⟨_, rfl, fun _ => hfin⟩, hbc⟩)
  · go_wp2
    go_ret
    exact ⟨⟨false, rfl, by simp⟩, hb2⟩
end Go.Proofs.YtcebfkhfnjbfjaaGreatDoor
