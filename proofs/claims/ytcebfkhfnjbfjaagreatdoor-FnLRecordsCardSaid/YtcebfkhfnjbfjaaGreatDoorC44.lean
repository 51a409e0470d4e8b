/- The walk of FnLRecords. -/
import Derived.Test.YtcebfkhfnjbfjaaGreatDoorC43
import Derived.Deep.CutRange
import Derived.Deep.DeepCutAuto
import Derived.BigRegion
import Derived.Deep.CutBlock
namespace Go.Proofs.YtcebfkhfnjbfjaaGreatDoor
open Go.RowKit
set_option linter.unusedVariables false
set_option linter.unusedSimpArgs false
set_option maxHeartbeats 4000000 in
set_option maxRecDepth 100000 in
theorem records_any (o : Opts) (ord bl : List UInt8) (vo vb : Value) (inner : Bool) (w : World) (hok : o.Ok w) (hkl : ∀ k ∈ o.keys, k.length ≤ maxLen) (hql : ∀ k ∈ o.query, k.length ≤ maxLen) (hvo : SlI vo (bs ord) w) (hvb : SlI vb (bs bl) w) :
    Calls Tryz.prog 3 #[.agg o.cells, vo, vb, .bool inner] w fun e w' => e = .returned (.bool true) ∧ Below w.heap.size w w' := by
  have hlo : ord.length ≤ maxLen := by have := hvo.le; simpa [bs] using this
  have hlb : bl.length ≤ maxLen := by have := hvb.le; simpa [bs] using this
  obtain ⟨ao, co, rfl⟩ := hvo.len
  obtain ⟨ab, cb, rfl⟩ := hvb.len
  rw [show (bs ord).length = ord.length by simp [bs]] at hvo ⊢
  rw [show (bs bl).length = bl.length by simp [bs]] at hvb ⊢
  obtain ⟨no, hno⟩ : ∃ n, ord.length = n := ⟨_, rfl⟩
  obtain ⟨nb, hnb⟩ : ∃ n, bl.length = n := ⟨_, rfl⟩
  rw [hno] at hvo hlo ⊢
  rw [hnb] at hvb hlb ⊢
  have hL : Law o (.slice ab nb cb) w ((w.alloc (.cells o.cells 25)).alloc (.cells #[.slice ab nb cb] 22)) := by
    refine ⟨?_, ?_, ((Below.refl _ _).alloc (Nat.le_refl _) _).alloc (by simp) _⟩
    · rw [Below.heap_alloc _ _ _ (by simp)]
      exact heap_alloc_new w _
    · have := heap_alloc_new (w.alloc (.cells o.cells 25)) (.cells #[.slice ab nb cb] 22)
      rwa [show (w.alloc (.cells o.cells 25)).heap.size = w.heap.size + 1 by simp] at this
  have hg0 := hL.g0
  have c1 : ((w.alloc (.cells o.cells 25)).alloc (.cells #[.slice ab nb cb] 22)).cell? ⟨w.heap.size + 1, 0, none⟩ = some (.slice ab nb cb) := by rw [cell_of_row _ _ 0 _ 22 (0, 0) hL.g1]; rfl
  go_enter Tryz.func3, Tryz.ntmps3
  go_wp2_with (refine wpList_load_row rfl 25 (.tmp 4) rfl w.heap.size rfl 25 o.cells (0, 0) _ hg0 Tryz.underlying25 rfl (load25 o) ?_)
  refine (zzFits1_any o _ (hL.ok hok)).mono ?_
  rintro e w1 ⟨⟨b1, rfl⟩, hb1⟩
  replace hL := hL.keep hb1
  clear hb1 hg0 c1
  have c1 : w1.cell? ⟨w.heap.size + 1, 0, none⟩ = some (.slice ab nb cb) := by rw [cell_of_row _ _ 0 _ 22 (0, 0) hL.g1]; rfl
  have hg0 := hL.g0
  have hbel := hL.below
  have hdone : ∀ W, Below w.heap.size w W → ∀ W', Below W.heap.size W W' → Below w.heap.size w W' := fun W h W' h' => h.trans (h'.mono h.size)
  have hno1 : (no : Int) ≤ 9223372036854775807 := by simp only [maxLen] at hlo; omega
  have hnb1 : (nb : Int) ≤ 9223372036854775807 := by simp only [maxLen] at hlb; omega
  cases b1 with
  | false =>
    go_wp2
    go_ret
    exact ⟨rfl, hbel⟩
  | true =>
    by_cases o1 : 2147483647 < no
    · have d1 : decide (2147483647 < (no : Int)) = true := by simp; omega
      go_wp2
      go_ret
      exact ⟨rfl, hbel⟩
    have d1 : decide (2147483647 < (no : Int)) = false := by simp; omega
    by_cases o2 : 2147483647 < nb
    · have d2 : decide (2147483647 < (nb : Int)) = true := by simp; omega
      go_wp2
      go_ret
      exact ⟨rfl, hbel⟩
    have d2 : decide (2147483647 < (nb : Int)) = false := by simp; omega
    by_cases o3 : 10 < no
    · have d3 : decide (10 < (no : Int)) = true := by simp; omega
      go_wp2_with fail
      refine (lAwake_any _).mono ?_
      rintro e w2 ⟨rfl, hb2⟩
      go_wp2
      go_ret
      exact ⟨rfl, hdone _ hbel _ hb2⟩
    have d3 : decide (10 < (no : Int)) = false := by simp; omega
    by_cases o4 : 10 < nb
    · have d4 : decide (10 < (nb : Int)) = true := by simp; omega
      go_wp2_with fail
      refine (lAwake_any _).mono ?_
      rintro e w2 ⟨rfl, hb2⟩
      go_wp2
      go_ret
      exact ⟨rfl, hdone _ hbel _ hb2⟩
    have d4 : decide (10 < (nb : Int)) = false := by simp; omega
    have hat : OptAt o w.heap.size w1 := hg0
    have q0 := hat.c0
    have q1 := hat.c1
    have q2 := hat.c2
    have q3 := hat.c3
    have q4 := hat.c4
    have q5 := hat.c5
    have q6 := hat.c6
    have q7 := hat.c7
    have q8 := hat.c8
    have q9 := hat.c9
    have q10 := hat.c10
    have q11 := hat.c11
    have q12 := hat.c12
    have q13 := hat.c13
    have q14 := hat.c14
    clear hat
    go_wp2_with fail
    refine (lProper_any o _ (hL.ok hok) hkl hql).mono ?_
    clear q0 q1 q2 q3 q4 q5 q6 q7 q8 q9 q10 q11 q12 q13 q14
    rintro e w2 ⟨⟨b2, rfl, hb2p⟩, hb2⟩
    replace hL := hL.keep hb2
    clear hb2 c1 hg0 hbel
    have hbel := hL.below
    cases b2 with
    | false =>
      go_wp2_with fail
      refine (lAwake_any _).mono ?_
      rintro e w3 ⟨rfl, hb3⟩
      go_wp2
      go_ret
      exact ⟨rfl, hdone _ hbel _ hb3⟩
    | true =>
      obtain ⟨hopt, hkey⟩ := hb2p rfl
      clear hb2p d1 d2 d3 d4 o1 o2 hno1 hnb1 hlo hlb hkl hql
      have hg0 := hL.g0
      go_wp2_with (refine wpList_load_row rfl 25 (.tmp 4) rfl w.heap.size rfl 25 o.cells (0, 0) _ hg0 Tryz.underlying25 rfl (load25 o) ?_)
      refine (LShown_any o _ (hL.ok hok) hopt hkey).mono ?_
      rintro e w3 ⟨⟨key, rfl, hked, hkrsa, hkl⟩, hb3⟩
      replace hL := hL.keep hb3
      clear hb3 hg0 hbel
      have hg0 := hL.g0
      go_wp2_with (refine wpList_load_row rfl 25 (.tmp 4) rfl w.heap.size rfl 25 o.cells (0, 0) _ hg0 Tryz.underlying25 rfl (load25 o) ?_)
      have hn := hopt.n
      have he := hopt.e
      have hd := hopt.d
      refine (LKeyOfOptions_any o _ (hL.ok hok) (by omega) (by omega) (by omega)).mono ?_
      rintro e w4 ⟨⟨vn, ve, vd, rfl, hvn, hve, hvd⟩, hb4⟩
      replace hL := hL.keep hb4
      clear hb4 hg0
      rw [hkey]
      obtain ⟨an, cn, rfl⟩ := hvn.len
      obtain ⟨ae, ce, rfl⟩ := hve.len
      obtain ⟨ad, cd, rfl⟩ := hvd.len
      have hns := key_lens hopt
      have hkind := kind_of hkey
      have hrn := fun hr : o.kind = rsaT => rsaN_of hkey hr hopt.bits hvn.1
      have hG2 := heap_alloc_new w4 (.cells #[.slice an (keyN o).length cn, .slice ae (keyE o).length ce, .slice ad (keyD o).length cd] 32)
      have hL5 := hL.alloc (.cells #[.slice an (keyN o).length cn, .slice ae (keyE o).length ce, .slice ad (keyD o).length cd] 32)
      have hvn5 := hvn.alloc (.cells #[.slice an (keyN o).length cn, .slice ae (keyE o).length ce, .slice ad (keyD o).length cd] 32)
      have hve5 := hve.alloc (.cells #[.slice an (keyN o).length cn, .slice ae (keyE o).length ce, .slice ad (keyD o).length cd] 32)
      have hk3 := OptAt.c3 (o := o) (b := w.heap.size) hL5.g0
      have hlt4 := hL.lt
      clear hL hvn hve hvd hopt
      obtain ⟨G2, hG2e⟩ : ∃ G2, w4.heap.size = G2 := ⟨_, rfl⟩
      obtain ⟨kk, hkk⟩ : ∃ kk, str o.kind = kk := ⟨_, rfl⟩
      have hkr := text_is rsaT hkk
      rw [show rsaT = [114, 115, 97] from rfl] at hkr
      rw [hkk] at hk3
      obtain ⟨m0, hm0⟩ := rcells_at hG2 0 _ rfl
      obtain ⟨m1, hm1⟩ := rcells_at hG2 1 _ rfl
      simp only [List.getElem_toArray, List.getElem_cons_zero, List.getElem_cons_succ] at m0 m1
      clear hm0 hm1
      obtain ⟨bk, hbk⟩ : ∃ bk, decide (o.kind = [114, 115, 97]) = bk := ⟨_, rfl⟩
      rw [hbk] at hkr
      go_upto_region 7 with (fail)
      rw [hG2e] at hG2 m0 m1 hlt4
      obtain ⟨w5, hw5⟩ : ∃ w5, w4.alloc (.cells #[.slice an (keyN o).length cn, .slice ae (keyE o).length ce, .slice ad (keyD o).length cd] 32) = w5 := ⟨_, rfl⟩
      rw [hw5] at hG2 hL5 hvn5 hve5 hk3 m0 m1 ⊢
      clear hw5
      go_cut [67] from 64 to 72 (fun s67 wx => s67 = .bool (inner && bk) ∧ wx = w5)
      case first =>
        cases inner
        · go_wp2
          go_meet
          case rel => exact ⟨rfl, rfl⟩
        · cases bk
          · go_wp2
            go_meet
            case rel => exact ⟨rfl, rfl⟩
          · go_wp2
            go_meet
            case rel => exact ⟨rfl, rfl⟩
      case rest =>
        obtain ⟨rfl, rfl⟩ := hcut
        go_upto_if 67 with (fail)
        go_cut [9] from 64 to 72 (fun s9 wx => ∃ (key2 B : List UInt8) (bits x : Int) (ver : Value → World → Prop), s9 = .string (str key2) ∧ KeyIs o.kind key2 B bits x ver ∧ SaysKey o key2 B bits x ∧ Law o (.slice ab nb cb) w wx)
        case first =>
          have hk1 : o.kind = edT → ∃ (key2 B : List UInt8) (bits x : Int) (ver : Value → World → Prop), Value.string (str key) = .string (str key2) ∧ KeyIs o.kind key2 B bits x ver ∧ SaysKey o key2 B bits x := fun hk => ⟨key, key, 256, 0, _, rfl, by rw [hk]; exact KeyIs.ed (hked hk), .inl ⟨hk, rfl, rfl⟩⟩
          have hk2 : o.kind = rsaT → ∀ m : List UInt8, (m = innerF (keyN o) (keyE o) ∨ m = outerF (keyN o) (keyE o)) → m.length ≤ 20000 → ∃ (key2 B : List UInt8) (bits x : Int) (ver : Value → World → Prop), Value.string (str m) = .string (str key2) ∧ KeyIs o.kind key2 B bits x ver ∧ SaysKey o key2 B bits x := fun hk m hm hl => ⟨m, _, _, _, _, rfl, by rw [hk]; exact KeyIs.rsa (hrn hk) hm hl, .inr ⟨hk, hrn hk, rfl, rfl, rfl⟩⟩
          have hk0 : ∃ (key2 B : List UInt8) (bits x : Int) (ver : Value → World → Prop), Value.string (str key) = .string (str key2) ∧ KeyIs o.kind key2 B bits x ver ∧ SaysKey o key2 B bits x := by
            rcases hkind with hk | hk
            · exact hk2 hk key (.inr (hkrsa hk)) hkl
            · exact hk1 hk
          obtain ⟨bb, hbb⟩ : ∃ bb, (inner && bk) = bb := ⟨_, rfl⟩
          rw [hbb]
          cases bb
          · go_wp2
            go_meet
            case rel =>
              obtain ⟨key2, B, bits, x, ver, h1, h2, h3⟩ := hk0
              exact ⟨key2, B, bits, x, ver, h1, h2, h3, hL5⟩
          · have hkr' : o.kind = rsaT := by
              rw [Bool.and_eq_true] at hbb
              have := hbb.2
              rw [← hbk] at this
              exact of_decide_eq_true this
            have hin := hk2 hkr' _ (.inl rfl) (Nat.le_trans (innerF_bound hvn5 hve5 hns.1 hns.2) (by omega))
            have hcall := LInner_any _ _ (keyN o) (keyE o) wc hvn5 hve5 hns.1 hns.2
            obtain ⟨IF, hIF⟩ : ∃ IF, innerF (keyN o) (keyE o) = IF := ⟨_, rfl⟩
            rw [hIF] at hin hcall
            clear hk0 hk1 hk2 hkrsa hked hkr' hbb hbk hrn hkind hIF
            go_wp2_with fail
            refine hcall.mono ?_
            rintro e w6 ⟨rfl, hb6⟩
            have hL6 := hL5.keep hb6
            clear hcall hL5
            go_wp2
            go_meet
            case rel =>
              obtain ⟨key2, B, bits, x, ver, h1, h2, h3⟩ := hin
              exact ⟨key2, B, bits, x, ver, h1, h2, h3, hL6⟩
        case rest =>
          obtain ⟨key2, B, bits, x, ver, rfl, hki, hsays, hL6⟩ := hcut
          clear hked hkrsa hkl hkind hrn hG2 hL5 hvn5 hve5 hk3 m0 m1 hkr hbk hlt4 hG2e
          have hl6 := hL6.lt
          have hLN0 : LawN o (.slice ab nb cb) w wc.heap.size 0 (wc.alloc (.cells #[.int .i64 0] 3)) := ⟨hL6.alloc _, heap_alloc_new wc _, hl6⟩
          obtain ⟨C0, hC0⟩ : ∃ C0, wc.heap.size = C0 := ⟨_, rfl⟩
          have hkl2 := hki.len
          obtain ⟨T, hT⟩ : ∃ T, text64F key2 = T := ⟨_, rfl⟩
          have htx := fun W => DText64_any key2 W (by omega)
          have hTl : T.length ≤ 30000 := by rw [← hT, text64F, text64_length]; omega
          have hTp : ∀ c ∈ T, c.toNat < 128 ∧ c ≠ 59 ∧ c ≠ 32 ∧ sp c.toNat = false := fun c hc => text64_plain key2 _ c (by rw [← hT] at hc; exact hc)
          rw [hT] at htx
          rw [hC0] at hLN0
          clear hL6 hl6 hkl2
          go_wp2_with fail
          refine (htx _).mono ?_
          clear htx
          rintro e w7 ⟨rfl, hb7⟩
          have hLN1 := hLN0.keep hb7
          have hlt1 := hLN1.lt
          clear hLN0 hb7
          have hLN2 := hLN1.alloc (.stringIter (str T) 0)
          have hit := World.iter_heap w7 (str T) 0
          obtain ⟨I0, hI0⟩ : ∃ I0, w7.heap.size = I0 := ⟨_, rfl⟩
          rw [hI0] at hit hlt1
          clear hLN1
          go_wp2_with fail
          go_loopw [14] (fun v14 W => ∃ (i n : Nat) (acc : List UInt8), v14 = .string (str acc) ∧ i ≤ T.length ∧ n ≤ i ∧ TextR T i acc ∧ W.heap[I0]? = some (.stringIter (str T) i) ∧ LawN o (.slice ab nb cb) w C0 n W) (fun _ W => iterLeft I0 W T.length)
          case atStart => exact ⟨0, 0, [], rfl, by omega, by omega, TextR.start T, hit, hLN2⟩
          case round =>
            clear hit hLN2
            obtain ⟨i, n, acc, rfl, hi, hni, htr, hit, hLN⟩ := hrel
            by_cases h1 : i < T.length
            · have hmem : T.getD i 0 ∈ T := by rw [List.getD_eq_getElem?_getD, List.getElem?_eq_getElem h1]; exact List.getElem_mem _
              obtain ⟨hc1, hc2, hc3, hc4⟩ := hTp _ hmem
              have hz0 : i = 0 → acc = [] := fun h => by
                have h3 := htr.len
                have : acc.length = 0 := by subst h; omega
                exact List.length_eq_zero_iff.1 this
              have hstep := fun k hk hk0 => htr.step h1 hc3 k hk hk0 hz0
              have hnx := next_str (P := Tryz.prog) hit h1 hc1
              have hcv := conv_sign (T.getD i 0) hc1
              have hit1 := Lib.iterAt_heap wr I0 (str T) i (i + 1) hit
              have hLN1 : LawN o (.slice ab nb cb) w C0 n (wr.iterAt I0 (str T) (i + 1)) := hLN.grown (r := some I0) (grown_iterAt wr I0 (str T) (i + 1)) fun k hk => by
                cases hk
                have := hLN.past
                exact ⟨by omega, by omega⟩
              have hal : acc.length ≤ 60000 := by have := htr.len; omega
              generalize wr.iterAt I0 (str T) (i + 1) = w8 at hnx hit1 hLN1
              have hpos := iterLeft_at hit T.length
              have hpos1 := iterLeft_at hit1 T.length
              have hmod : ((i : Int)).tmod 30 = ((i % 30 : Nat) : Int) := by rw [Int.tmod_eq_emod_of_nonneg (by omega), Int.natCast_emod]; rfl
              have sa := str_size acc
              obtain ⟨c, hc⟩ : ∃ c, T.getD i 0 = c := ⟨_, rfl⟩
              rw [hc] at hnx hcv
              simp only [hc] at hstep
              have sc := str_size [c]
              rw [show [c].length = 1 from rfl] at sc
              clear hit hLN hmem hz0 htr hc hc1 hc2 hc3 hc4
              by_cases h2 : i % 30 = 29
              · have hd2 : ((i : Int) % 30 == 29) = true := by simp; omega
                have hd2' : decide ((i : Int) % 30 = 29) = true := by simp; omega
                have hby := hLN1.by hvb (by omega)
                go_wp2_with fail
                refine hby.mono ?_
                clear hby
                rintro e w9 ⟨k, n', s, hk, hks, rfl, hn1, hn2, hLN2, hg2⟩
                have hit2 : w9.heap[I0]? = some (.stringIter (str T) (i + 1)) := (hg2.block I0 (Array.getElem?_eq_some_iff.1 hit1).1 (by simp; omega)).trans hit1
                have hpos2 := iterLeft_at hit2 T.length
                have hst := hstep k hk (fun h => absurd h2 h)
                have sb := str_size s
                have sl : s.length = k := by rw [← hks, blank_length]
                rw [sl] at sb
                have ap1 := str_append acc s
                have sab := str_size (acc ++ s)
                rw [List.length_append, sl] at sab
                have ap2 := str_append (acc ++ s) [c]
                rw [← List.append_assoc, hks] at hst
                clear hLN1 hg2 hit1 hnx hstep hks sl
                generalize acc ++ s = acs at ap1 sab ap2 hst
                go_wp2_with fail
                go_roundw
                case rel => exact ⟨i + 1, n', _, rfl, by omega, by omega, hst, hit2, hLN2⟩
                case measure => rw [hpos2, hpos]; omega
              · have hd2 : ((i : Int) % 30 == 29) = false := by simp; omega
                have hd2' : decide ((i : Int) % 30 = 29) = false := by simp; omega
                have hst := hstep 0 (by omega) (fun _ => rfl)
                have ap := str_append acc [c]
                clear hstep
                go_wp2_with fail
                go_roundw
                case rel => exact ⟨i + 1, n, _, rfl, by omega, by omega, hst, hit1, hLN1⟩
                case measure => rw [hpos1, hpos]; omega
            · have hnx := next_end (P := Tryz.prog) hit (by omega)
              obtain rfl : i = T.length := by omega
              clear hit
              go_wp2_with fail
              clear hnx hi h1 hI0 hlt1 hTp hTl
              have hni0 : n ≤ 30000 := by rw [← hT, text64F, text64_length] at hni; have := hki.len; omega
              have hacl : acc.length ≤ 40000 := by rw [← hT] at htr; exact (htr.tag hki.ne hki.len).2.2.1
              have hkl3 := hki.name.2.2
              refine wp_region_typedC (by kernel_rfl) [] (fun _ _ _ => True) (fun u W v => match u with
                | 4 => v = .pointer (some ⟨w.heap.size, 0, none⟩) | 13 => v = .func (.func 10) #[] #[.pointer (some ⟨w.heap.size + 1, 0, none⟩), .pointer (some ⟨C0, 0, none⟩)] | 14 => v = .string (str acc)
                | 92 => v = .func (.func 10) #[] #[.pointer (some ⟨w.heap.size + 1, 0, none⟩), .pointer (some ⟨C0, 0, none⟩)]
                | 96 => v = .func (.func 10) #[] #[.pointer (some ⟨w.heap.size + 1, 0, none⟩), .pointer (some ⟨C0, 0, none⟩)]
                | 102 => v = .func (.func 10) #[] #[.pointer (some ⟨w.heap.size + 1, 0, none⟩), .pointer (some ⟨C0, 0, none⟩)]
                | 106 => v = .func (.func 10) #[] #[.pointer (some ⟨w.heap.size + 1, 0, none⟩), .pointer (some ⟨C0, 0, none⟩)]
                | 93 => TxK B3 v | 97 => TxK B3 v | 103 => TxK B3 v | 107 => TxK B3 v
                | 94 => TxK (T1 107) v | 95 => TxK (T2 107) v | 98 => TxK (T3 107) v | 99 => v = .pointer (some ⟨w.heap.size, 3, none⟩) | 100 => v = .string (str o.kind) | 101 => TxK (TagK 107 o.kind) v
                | 104 => TxK (T1 112) v | 105 => TxK (T2 112) v | 108 => TxK (T3 112) v | 109 => v = .string (str acc) | 110 => TxK (TagK 112 acc) v
                | 111 => SixK w.heap.size C0 o.kind acc W v | 17 => SixK w.heap.size C0 o.kind acc W v | _ => True)
                (fun W => ∃ n, LawN o (.slice ab nb cb) w C0 n W) (fun W W' => W.grownBy W' (some C0)) (fun k W => ∃ n, LawN o (.slice ab nb cb) w C0 n W ∧ n + k ≤ 30100) ?hmono (by kernel_rfl)
                [92, 93, 94, 95, 96, 97, 98, 99, 100, 101, 102, 103, 104, 105, 106, 107, 108, 109, 110, 111, 17] (by kernel_rfl) [13, 13, 4, 13, 13, 14] (by kernel_rfl) ?h0 [] (by kernel_rfl) ?hz ?hI ?hC ?hs ?hQ
              case hmono =>
                intro u W W' v _ _ hR hv
                revert hv
                split <;> first | exact id | exact fun hv => SixK.mono hv hR
              case h0 => simp
              case hz => simp
              case hI => exact ⟨n, hLN.drew⟩
              case hC => exact ⟨n, hLN.drew, by show n + 21 ≤ 30100; omega⟩
              case hs =>
                have hR : ∀ W : World, W.grownBy W (some C0) := fun W => grownBy_refl W _
                have hCC : ∀ (k : Nat) (W : World), (∃ n, LawN o (.slice ab nb cb) w C0 n W ∧ n + (k + 1) ≤ 30100) → ∃ n, LawN o (.slice ab nb cb) w C0 n W ∧ n + k ≤ 30100 := fun k W ⟨n, h1, h2⟩ => ⟨n, h1, by omega⟩
                have hby : ∀ (k : Nat) (W : World) (T' : World → Value → Prop), (∀ W v, TxK B3 v → T' W v) → (∃ n, LawN o (.slice ab nb cb) w C0 n W) → (∃ n, LawN o (.slice ab nb cb) w C0 n W ∧ n + (k + 1) ≤ 30100) →
                    Calls Tryz.prog 10 #[.pointer (some ⟨w.heap.size + 1, 0, none⟩), .pointer (some ⟨C0, 0, none⟩)] W fun e w' => ∃ v, e = .returned v ∧ W.grownBy w' (some C0) ∧ ((∃ n, LawN o (.slice ab nb cb) w C0 n w') ∧ ∃ n, LawN o (.slice ab nb cb) w C0 n w' ∧ n + k ≤ 30100) ∧ T' w' v := by
                  intro k W T' hT' _ ⟨n, h1, h2⟩
                  refine (h1.by hvb (by omega)).mono ?_
                  rintro e W' ⟨q, n', s, hq, hqs, rfl, hn1, hn2, hLN2, hg⟩
                  exact ⟨_, rfl, hg, ⟨⟨n', hLN2⟩, n', hLN2, by omega⟩, hT' _ _ ⟨s, rfl, q, hq, hqs.symm⟩⟩
                refine ⟨SafeOpC.of hR hCC fun W0 hI0 => safe_move fun d hd => by cases hd; exact fun v hv => hv,
                  safeC_callv (fun W v hI hv => hv) call10 (fun k W hI hC => (hby k W _ (fun W v hv => hv) hI hC).mono fun e w' ⟨v, h1, h2, h3, h4⟩ => ⟨v, h1, h2, h3, fun d hd => by cases hd; exact h4⟩),
                  SafeOpC.of hR hCC fun W0 hI0 => safe_addS _ _ _ (opd_const [107]) (fun v hv => hv) (fun a b ha hb => by subst ha; have := hb.len; simp; omega) t1_of (fun v hv => hv),
                  SafeOpC.of hR hCC fun W0 hI0 => safe_addS _ _ _ (fun v hv => hv) (opd_const [61]) (fun a b ha hb => by subst hb; have := ha.len; simp; omega) t2_of (fun v hv => hv),
                  SafeOpC.of hR hCC fun W0 hI0 => safe_move fun d hd => by cases hd; exact fun v hv => hv,
                  safeC_callv (fun W v hI hv => hv) call10 (fun k W hI hC => (hby k W _ (fun W v hv => hv) hI hC).mono fun e w' ⟨v, h1, h2, h3, h4⟩ => ⟨v, h1, h2, h3, fun d hd => by cases hd; exact h4⟩),
                  SafeOpC.of hR hCC fun W0 hI0 => safe_addS _ _ _ (fun v hv => hv) (fun v hv => hv) (fun a b ha hb => by have := ha.len; have := hb.len; omega) t3_of (fun v hv => hv),
                  SafeOpC.of hR hCC fun W0 hI0 => safe_fieldAddr Tryz.underlying25 rfl size9 (by decide) w.heap.size 0 (fun v hv => hv) rfl,
                  SafeOpC.of hR hCC fun W0 hI0 => safe_loadC Tryz.underlying9 rfl ⟨w.heap.size, 3, none⟩ (fun v hv => hv) (.string (str o.kind)) (fun W hI => by subst hI; obtain ⟨n', hL'⟩ := hI0; exact OptAt.c3 hL'.law.g0) rfl,
                  SafeOpC.of hR hCC fun W0 hI0 => safe_addS _ (· = o.kind) _ (fun v hv => hv) (fun v hv => ⟨_, hv, rfl⟩) (fun a b ha hb => by subst hb; have := ha.len; omega) tagK_of (fun v hv => hv),
                  SafeOpC.of hR hCC fun W0 hI0 => safe_move fun d hd => by cases hd; exact fun v hv => hv,
                  safeC_callv (fun W v hI hv => hv) call10 (fun k W hI hC => (hby k W _ (fun W v hv => hv) hI hC).mono fun e w' ⟨v, h1, h2, h3, h4⟩ => ⟨v, h1, h2, h3, fun d hd => by cases hd; exact h4⟩),
                  SafeOpC.of hR hCC fun W0 hI0 => safe_addS _ _ _ (opd_const [112]) (fun v hv => hv) (fun a b ha hb => by subst ha; have := hb.len; simp; omega) t1_of (fun v hv => hv),
                  SafeOpC.of hR hCC fun W0 hI0 => safe_addS _ _ _ (fun v hv => hv) (opd_const [61]) (fun a b ha hb => by subst hb; have := ha.len; simp; omega) t2_of (fun v hv => hv),
                  SafeOpC.of hR hCC fun W0 hI0 => safe_move fun d hd => by cases hd; exact fun v hv => hv,
                  safeC_callv (fun W v hI hv => hv) call10 (fun k W hI hC => (hby k W _ (fun W v hv => hv) hI hC).mono fun e w' ⟨v, h1, h2, h3, h4⟩ => ⟨v, h1, h2, h3, fun d hd => by cases hd; exact h4⟩),
                  SafeOpC.of hR hCC fun W0 hI0 => safe_addS _ _ _ (fun v hv => hv) (fun v hv => hv) (fun a b ha hb => by have := ha.len; have := hb.len; omega) t3_of (fun v hv => hv),
                  SafeOpC.of hR hCC fun W0 hI0 => safe_move fun d hd => by cases hd; exact fun v hv => hv,
                  SafeOpC.of hR hCC fun W0 hI0 => safe_addS _ (· = acc) _ (fun v hv => hv) (fun v hv => ⟨_, hv, rfl⟩) (fun a b ha hb => by subst hb; have := ha.len; omega) tagK_of (fun v hv => hv),
                  safeC_build6 _ _ (fun W v hI hv => hv) (fun W v hI hv => hv) ?_,
                  SafeOpC.of hR hCC fun W0 hI0 => safe_assign fun d hd => by cases hd; exact fun v hv => hv, trivial⟩
                rintro k W a b ⟨n', hL'⟩ ⟨n'', hL'', hn''⟩ ⟨a1, b1, h1, h2, rfl⟩ ⟨a2, b2, h3, h4, rfl⟩
                rw [sixF_tags]
                have hlt := hL'.lt
                have hlt2 := hL'.law.lt
                exact ⟨World.grownBy_alloc W _ _, ⟨⟨n', hL'.alloc _⟩, n'', hL''.alloc _, by omega⟩, W.heap.size, a1, b1, a2, b2, rfl, h1, h2, h3, h4, by omega, by omega, heap_alloc_new W _⟩
              case hQ =>
                rintro f w8 - ⟨k8, n8, hLN8, hn8⟩ hT8
                obtain ⟨G, a1, b1, a2, b2, h17, q1, q2, q3, q4, hG1, hG2, hTA⟩ := hT8 17 (by simp)
                clear hT8 hLN
                simp only [putAll, List.setIfInBounds_toArray, List.set_cons_zero, List.set_cons_succ]
                rw [h17]
                have hpm := List.Perm.refl (tags0 a1 b1 a2 b2 o.kind acc)
                have htl : (tags0 a1 b1 a2 b2 o.kind acc).length = 6 := rfl
                have hbl := tags0_bytes q1 q2 q3 q4 hkl3 hacl
                obtain ⟨TG, hTG⟩ : ∃ TG, tags0 a1 b1 a2 b2 o.kind acc = TG := ⟨_, rfl⟩
                rw [hTG] at hTA hpm htl hbl
                have hG3 := hTA.lt
                have hn9 : n8 ≤ 30100 := by omega
                clear hn8 h17 hni0
                go_upto_block 2 with (fail)
                go_cut [18] from 112 to 149 (fun s18 wx => ∃ tg : List Tag, tg.Perm TG ∧ TagsAt G tg wx ∧ LawN o (.slice ab nb cb) w C0 n8 wx)
                case first =>
                  go_wp2_with fail
                  go_loopw [18] (fun v18 W => ∃ (i : Nat) (tg : List Tag), v18 = .int .i64 (i : Int) ∧ i ≤ 6 ∧ i ≤ no ∧ tg.Perm TG ∧ TagsAt G tg W ∧ LawN o (.slice ab nb cb) w C0 n8 W) (fun v18 _ => (7 - intOf v18).toNat)
                  case atStart => exact ⟨0, TG, rfl, by omega, by omega, List.Perm.refl _, hTA, hLN8⟩
                  case round =>
                    clear hTA hpm hLN8
                    obtain ⟨i, tg, rfl, hi6, hino, hpm, hTA, hLN8⟩ := hrel
                    by_cases h1 : i < no
                    · have d1 : decide ((i : Int) < (no : Int)) = true := by simp; omega
                      by_cases h2 : i < 6
                      · have d2 : decide ((i : Int) < 6) = true := by simp; omega
                        obtain ⟨x, hx⟩ : ∃ x, ord[i]? = some x := ⟨_, List.getElem?_eq_getElem (by omega)⟩
                        obtain ⟨g, oo, ca, e, hc⟩ := hvo.cell (i := i) (x := .int .u8 (x.toNat : Int)) (by simp [bs, hx])
                        simp only [Value.slice.injEq] at e
                        obtain ⟨rfl, -, rfl⟩ := e
                        have hglt : g < w.heap.size := World.block_lt_of_cell? w _ hc
                        have hcW : wr.cell? ⟨g, oo + i, none⟩ = some (.int .u8 (x.toNat : Int)) := (World.cell?_of_block (w := w) (a := ⟨g, oo + i, none⟩) (hLN8.law.below.block g hglt)).trans hc
                        have hx2 := x.toNat_lt
                        generalize x.toNat = y at hcW hx2
                        clear hc hx
                        obtain ⟨q, hq⟩ : ∃ q, y % (6 - i) = q := ⟨_, rfl⟩
                        have hqlt : q < 6 - i := by rw [← hq]; exact Nat.mod_lt _ (by omega)
                        have hmod : (y : Int).tmod (6 - (i : Int)) = (q : Int) := by
                          rw [show (6 : Int) - (i : Int) = ((6 - i : Nat) : Int) by omega, Int.tmod_eq_emod_of_nonneg (by omega), ← hq, Int.natCast_emod]
                        have hz : ((6 - (i : Int)) == 0) = false := by simp; omega
                        have hz' : decide (6 - (i : Int) = 0) = false := by simp; omega
                        have htgl : tg.length = 6 := by rw [hpm.length_eq]; exact htl
                        have hti := List.getElem?_eq_getElem (show i < tg.length by omega)
                        have htk := List.getElem?_eq_getElem (show i + q < tg.length by omega)
                        generalize tg[i] = ti at hti
                        generalize tg[i + q] = tk at htk
                        have ci := hTA.cell hti
                        have ck := hTA.cell htk
                        have fi := frozen_of_row wr G i _ 9 hTA
                        have fk := frozen_of_row wr G (i + q) _ 9 hTA
                        have hTA2 := hTA.swap hti htk
                        have hg2 := grownBy_trans (grownBy_setCell wr ⟨G, i, none⟩ (.string (str tk.bytes))) (grownBy_setCell (wr.setCell ⟨G, i, none⟩ (.string (str tk.bytes))) ⟨G, i + q, none⟩ (.string (str ti.bytes)))
                        have hLN9 := hLN8.grown hg2 fun k hk => by cases hk; exact ⟨hG1, hG2⟩
                        have hpm2 := (swap_perm hti htk).trans hpm
                        have hnat : ((i : Int) + (q : Int)).toNat = i + q := by omega
                        have hlt6 : (i : Int) + (q : Int) < 6 := by omega
                        have hge0 : 0 ≤ (i : Int) + (q : Int) := by omega
                        obtain ⟨v', hy'⟩ := cell?_setCell_some (p := ⟨G, i, none⟩) (x := .string (str tk.bytes)) ck
                        have fk2 : (wr.setCell ⟨G, i, none⟩ (.string (str tk.bytes))).frozen? ⟨G, i + q, none⟩ = false := frozen_of_row _ G (i + q) _ 9 (heap_setCell_same wr G i _ 9 _ hTA)
                        clear hTA hLN8 hpm hg2 hti htk
                        generalize str ti.bytes = si at *
                        generalize str tk.bytes = sk at *
                        go_wp2_with fail
                        go_region
                        all_goals (
                          go_wp2
                          go_roundw
                          case rel => exact ⟨i + 1, _, by go_num, by omega, by omega, hpm2, hTA2, hLN9.drew⟩
                          case measure => simp [intOf] <;> omega)
                      · have d2 : decide ((i : Int) < 6) = false := by simp; omega
                        go_wp2_with fail
                        go_meet
                        case rel => exact ⟨tg, hpm, hTA, hLN8⟩
                    · have d1 : decide ((i : Int) < (no : Int)) = false := by simp; omega
                      go_wp2_with fail
                      go_meet
                      case rel => exact ⟨tg, hpm, hTA, hLN8⟩
                case rest =>
                  clear hTA hLN8 hpm
                  obtain ⟨tg, hpm, hTA, hLN8⟩ := hcut
                  have htgl : tg.length = 6 := by rw [hpm.length_eq]; exact htl
                  replace hbl : ∀ t ∈ tg, t.bytes.length ≤ 40010 := fun t ht => hbl t (hpm.mem_iff.1 ht)
                  go_upto_block 4 with (fail)
                  go_cut [20] from 150 to 168 (fun s20 wx => ∃ (L : List (Nat × Nat × Tag)) (n9 : Nat), s20 = .string (str (recF L)) ∧ L.map (·.2.2) = tg ∧ (∀ x ∈ L, x.1 ≤ 3 ∧ x.2.1 ≤ 3) ∧ LawN o (.slice ab nb cb) w C0 n9 wx)
                  case first =>
                    go_wp2_with fail
                    go_loopw [20, 21] (fun v20 v21 W => ∃ (j n9 : Nat) (L : List (Nat × Nat × Tag)), v20 = .string (str (recF L)) ∧ v21 = .int .i64 (j : Int) ∧ j ≤ 6 ∧ L.map (·.2.2) = tg.take j ∧ (∀ x ∈ L, x.1 ≤ 3 ∧ x.2.1 ≤ 3) ∧ (recF L).length ≤ 7 + 50000 * j ∧ TagsAt G tg W ∧ LawN o (.slice ab nb cb) w C0 n9 W ∧ n9 ≤ 30100 + 14 * j) (fun _ v21 _ => (7 - intOf v21).toNat)
                    case atStart => exact ⟨0, n8, [], rfl, rfl, by omega, rfl, by simp, by simp [recF, segF], hTA, hLN8, by omega⟩
                    case round =>
                      clear hTA hLN8
                      obtain ⟨j, n9, L, rfl, rfl, hj, hLm, hLs, hRl, hTA, hLN8, hn9⟩ := hrel
                      by_cases h1 : j < 6
                      · have d1 : decide ((j : Int) < 6) = true := by simp; omega
                        have htj := List.getElem?_eq_getElem (show j < tg.length by omega)
                        have htb := hbl _ (List.getElem_mem (show j < tg.length by omega))
                        generalize tg[j] = tj at htj htb
                        obtain ⟨R, hR0⟩ : ∃ R, recF L = R := ⟨_, rfl⟩
                        rw [hR0] at hRl ⊢
                        go_upto_region 28 with (fail)
                        refine wp_region_typedC (by kernel_rfl) [0] (fun u W v => match u with | 20 => v = .string (str R) | _ => True) (fun u W v => match u with
                          | 13 => v = .func (.func 10) #[] #[.pointer (some ⟨w.heap.size + 1, 0, none⟩), .pointer (some ⟨C0, 0, none⟩)] | 17 => v = .slice (some ⟨G, 0, none⟩) 6 6 | 21 => v = .int .i64 (j : Int)
                          | 156 => v = .string (str R)
                          | 157 => v = .func (.func 10) #[] #[.pointer (some ⟨w.heap.size + 1, 0, none⟩), .pointer (some ⟨C0, 0, none⟩)]
                          | 161 => v = .func (.func 10) #[] #[.pointer (some ⟨w.heap.size + 1, 0, none⟩), .pointer (some ⟨C0, 0, none⟩)]
                          | 158 => TxK B3 v | 162 => TxK B3 v | 159 => TxK (R1 R) v | 160 => TxK (R2 R) v | 163 => TxK (R3 R) v
                          | 164 => v = .slice (some ⟨G, 0, none⟩) 6 6 | 165 => v = .int .i64 (j : Int) | 166 => v = .pointer (some ⟨G, j, none⟩) | 167 => v = .string (str tj.bytes)
                          | 168 => TxK (R4 R tj.bytes) v | 20 => TxK (R4 R tj.bytes) v | _ => True)
                          (fun W => TagsAt G tg W ∧ ∃ n, LawN o (.slice ab nb cb) w C0 n W) (fun W W' => W.grownBy W' (some C0)) (fun k W => ∃ n, LawN o (.slice ab nb cb) w C0 n W ∧ n + k ≤ 30100 + 14 * (j + 1)) ?hmono (by kernel_rfl)
                          [156, 157, 158, 159, 160, 161, 162, 163, 164, 165, 166, 167, 168, 20] (by kernel_rfl) [13, 13, 17, 21] (by kernel_rfl) ?h0 [20] (by kernel_rfl) ?hz ?hI ?hC ?hs ?hQ
                        case hmono => exact fun u W W' v _ _ _ hv => hv
                        case h0 => simp
                        case hz => simp
                        case hI => exact ⟨hTA.drew, n9, hLN8.drew⟩
                        case hC => exact ⟨n9, hLN8.drew, by show n9 + 14 ≤ _; omega⟩
                        case hs =>
                          have hR : ∀ W : World, W.grownBy W (some C0) := fun W => grownBy_refl W _
                          have hCC : ∀ (k : Nat) (W : World), (∃ n, LawN o (.slice ab nb cb) w C0 n W ∧ n + (k + 1) ≤ 30100 + 14 * (j + 1)) → ∃ n, LawN o (.slice ab nb cb) w C0 n W ∧ n + k ≤ 30100 + 14 * (j + 1) := fun k W ⟨n, h1, h2⟩ => ⟨n, h1, by omega⟩
                          have hby : ∀ (k : Nat) (W : World), (TagsAt G tg W ∧ ∃ n, LawN o (.slice ab nb cb) w C0 n W) → (∃ n, LawN o (.slice ab nb cb) w C0 n W ∧ n + (k + 1) ≤ 30100 + 14 * (j + 1)) →
                              Calls Tryz.prog 10 #[.pointer (some ⟨w.heap.size + 1, 0, none⟩), .pointer (some ⟨C0, 0, none⟩)] W fun e w' => ∃ v, e = .returned v ∧ W.grownBy w' (some C0) ∧ ((TagsAt G tg w' ∧ ∃ n, LawN o (.slice ab nb cb) w C0 n w') ∧ ∃ n, LawN o (.slice ab nb cb) w C0 n w' ∧ n + k ≤ 30100 + 14 * (j + 1)) ∧ TxK B3 v := by
                            intro k W ⟨hta, _⟩ ⟨n, h1, h2⟩
                            refine (h1.by hvb (by omega)).mono ?_
                            rintro e W' ⟨q, n', s, hq, hqs, rfl, hn1, hn2, hLN2, hg⟩
                            exact ⟨_, rfl, hg, ⟨⟨hta.grown hg fun e => by cases e; exact hG2 rfl, n', hLN2⟩, n', hLN2, by omega⟩, ⟨s, rfl, q, hq, hqs.symm⟩⟩
                          refine ⟨safeC_move hR hCC fun W v hI hv => hv,
                            SafeOpC.of hR hCC fun W0 hI0 => safe_move fun d hd => by cases hd; exact fun v hv => hv,
                            safeC_callv (fun W v hI hv => hv) call10 (fun k W hI hC => (hby k W hI hC).mono fun e w' ⟨v, h1, h2, h3, h4⟩ => ⟨v, h1, h2, h3, fun d hd => by cases hd; exact h4⟩),
                            SafeOpC.of hR hCC fun W0 hI0 => safe_addS (· = R) _ _ (fun v hv => ⟨_, hv, rfl⟩) (fun v hv => hv) (fun a b ha hb => by subst ha; have := hb.len; omega) r1_of (fun v hv => hv),
                            SafeOpC.of hR hCC fun W0 hI0 => safe_addS _ _ _ (fun v hv => hv) (opd_const [59]) (fun a b ha hb => by subst hb; have := ha.len; simp; omega) r2_of (fun v hv => hv),
                            SafeOpC.of hR hCC fun W0 hI0 => safe_move fun d hd => by cases hd; exact fun v hv => hv,
                            safeC_callv (fun W v hI hv => hv) call10 (fun k W hI hC => (hby k W hI hC).mono fun e w' ⟨v, h1, h2, h3, h4⟩ => ⟨v, h1, h2, h3, fun d hd => by cases hd; exact h4⟩),
                            SafeOpC.of hR hCC fun W0 hI0 => safe_addS _ _ _ (fun v hv => hv) (fun v hv => hv) (fun a b ha hb => by have := ha.len; have := hb.len; omega) r3_of (fun v hv => hv),
                            SafeOpC.of hR hCC fun W0 hI0 => safe_move fun d hd => by cases hd; exact fun v hv => hv,
                            SafeOpC.of hR hCC fun W0 hI0 => safe_move fun d hd => by cases hd; exact fun v hv => hv,
                            SafeOpC.of hR hCC fun W0 hI0 => safe_placeSl Tryz.underlying23 size9 G 0 6 6 (j : Int) (fun v hv => hv) (fun v hv => hv) (by omega) (by omega) (by show Value.pointer _ = _; simp),
                            SafeOpC.of hR hCC fun W0 hI0 => safe_loadC Tryz.underlying9 rfl ⟨G, j, none⟩ (fun v hv => hv) (.string (str tj.bytes)) (fun W hI => by subst hI; exact hI0.1.cell htj) rfl,
                            SafeOpC.of hR hCC fun W0 hI0 => safe_addS _ (· = tj.bytes) _ (fun v hv => hv) (fun v hv => ⟨_, hv, rfl⟩) (fun a b ha hb => by subst hb; have := ha.len; omega) r4_of (fun v hv => hv),
                            SafeOpC.of hR hCC fun W0 hI0 => safe_assign fun d hd => by cases hd; exact fun v hv => hv, trivial⟩
                        case hQ =>
                          rintro f w9 ⟨hTA9, -⟩ ⟨k9, n10, hLN10, hn10⟩ hT9
                          obtain ⟨s, h20, k, m, hk, hm, rfl⟩ := hT9 20 (by simp)
                          clear hT9
                          simp only [putAll, List.setIfInBounds_toArray, List.set_cons_zero, List.set_cons_succ]
                          rw [h20, ← hR0, ← recF_end L k m tj]
                          have hLm2 : (L ++ [(k, m, tj)]).map (·.2.2) = tg.take (j + 1) := by
                            rw [List.map_append, hLm, List.take_add_one, htj]
                            rfl
                          have hLs2 : ∀ x ∈ L ++ [(k, m, tj)], x.1 ≤ 3 ∧ x.2.1 ≤ 3 := by
                            intro x hx
                            rcases List.mem_append.1 hx with h | h
                            · exact hLs x h
                            · simp only [List.mem_cons, List.not_mem_nil, or_false] at h
                              subst h
                              exact ⟨hk, hm⟩
                          have hRl2 : (recF (L ++ [(k, m, tj)])).length ≤ 7 + 50000 * (j + 1) := by
                            rw [recF_end, hR0]
                            simp [blank_length]
                            omega
                          clear hLN8 hTA h20
                          generalize L ++ [(k, m, tj)] = L2 at hLm2 hLs2 hRl2 ⊢
                          go_wp2
                          go_roundw
                          case rel => exact ⟨j + 1, n10, L2, rfl, by go_num, by omega, hLm2, hLs2, hRl2, hTA9, hLN10, by omega⟩
                          case measure => simp [intOf] <;> omega
                      · have d1 : decide ((j : Int) < 6) = false := by simp; omega
                        obtain rfl : j = 6 := by omega
                        go_wp2_with fail
                        go_meet
                        case rel => exact ⟨L, n9, rfl, by rw [hLm, ← htgl, List.take_length], hLs, hLN8⟩
                  case rest =>
                    obtain ⟨L, n9, rfl, hLm, hLs, hLN9⟩ := hcut
                    rw [← hLm, ← hTG] at hpm
                    rw [← hT] at htr
                    have hrd := fun W => reads_any hki htr L hpm q1 q2 q3 q4 hLs W
                    have hL9 := hLN9.law
                    clear hLm hTG hLN9 hLN8 hTA hbl htgl htl htr hpm hLs q1 q2 q3 q4 hvo hno
                    generalize recF L = R at hrd ⊢
                    go_wp2_with fail
                    refine (hrd _).mono ?_
                    clear hrd
                    rintro e w10 ⟨⟨hg, hn', hc, sg, sn, sc, fg, fn, fc, bv, rfl, hbv⟩, hb10⟩
                    replace hL9 := hL9.keep hb10
                    clear hb10
                    obtain ⟨ba, bc, rfl, -⟩ := hbv.lenB
                    obtain ⟨nt, hnt⟩ : ∃ nt, str [110, 111, 116, 101] = nt := ⟨_, rfl⟩
                    have hG3a := heap_alloc_new w10 (.cells #[.string kk, .slice ba B.length bc, .int .i64 x, .int .i64 bits, .slice (some ⟨hg, 0, none⟩) hn' hc, .slice (some ⟨sg, 0, none⟩) sn sc, .slice (some ⟨fg, 0, none⟩) fn fc, .string nt, .bool false, .bool false] 39)
                    have hL10 := hL9.alloc (.cells #[.string kk, .slice ba B.length bc, .int .i64 x, .int .i64 bits, .slice (some ⟨hg, 0, none⟩) hn' hc, .slice (some ⟨sg, 0, none⟩) sn sc, .slice (some ⟨fg, 0, none⟩) fn fc, .string nt, .bool false, .bool false] 39)
                    have hbv10 := hbv.alloc (.cells #[.string kk, .slice ba B.length bc, .int .i64 x, .int .i64 bits, .slice (some ⟨hg, 0, none⟩) hn' hc, .slice (some ⟨sg, 0, none⟩) sn sc, .slice (some ⟨fg, 0, none⟩) fn fc, .string nt, .bool false, .bool false] 39)
                    obtain ⟨G3, hG3e⟩ : ∃ G3, w10.heap.size = G3 := ⟨_, rfl⟩
                    have hlt10 := hL9.lt
                    rw [hG3e] at hG3a hlt10
                    have k3 := OptAt.c3 (o := o) (b := w.heap.size) hL10.g0
                    rw [hkk] at k3 ⊢
                    clear hL9 hbv
                    go_upto_region 30 with (fail)
                    obtain ⟨w11, hw11⟩ : ∃ w11, w10.alloc (.cells #[.string kk, .slice ba B.length bc, .int .i64 x, .int .i64 bits, .slice (some ⟨hg, 0, none⟩) hn' hc, .slice (some ⟨sg, 0, none⟩) sn sc, .slice (some ⟨fg, 0, none⟩) fn fc, .string nt, .bool false, .bool false] 39) = w11 := ⟨_, rfl⟩
                    rw [hw11] at hG3a hL10 hbv10 k3 ⊢
                    clear hw11 hG3e
                    obtain ⟨m0, -⟩ := rcells_at hG3a 0 _ rfl
                    obtain ⟨m1, -⟩ := rcells_at hG3a 1 _ rfl
                    obtain ⟨m2, -⟩ := rcells_at hG3a 2 _ rfl
                    obtain ⟨m3, -⟩ := rcells_at hG3a 3 _ rfl
                    obtain ⟨m8, -⟩ := rcells_at hG3a 8 _ rfl
                    obtain ⟨m9, -⟩ := rcells_at hG3a 9 _ rfl
                    simp only [List.getElem_toArray, List.getElem_cons_zero, List.getElem_cons_succ] at m0 m1 m2 m3 m8 m9
                    have hkkk : (kk.toList == kk.toList) = true := beq_self_eq_true _
                    have hed := text_is edT hkk
                    rw [show edT = [101, 100, 50, 53, 53, 49, 57] from rfl] at hed
                    obtain ⟨be, hbe⟩ : ∃ be, decide (o.kind = [101, 100, 50, 53, 53, 49, 57]) = be := ⟨_, rfl⟩
                    rw [hbe] at hed
                    go_upto_if 193 with (fail)
                    rcases hsays with ⟨hk, hB, hbits⟩ | ⟨hk, hRN, hB, hbits, hxx⟩
                    · have hbe' : be = true := by rw [← hbe]; exact decide_eq_true hk
                      have hcv := hbv10.text (P := Tryz.prog) (dst := 9) Tryz.underlying22 Tryz.underlying5 Tryz.underlying9 w11 rfl
                      have hbel := hL10.below
                      rw [hB] at hcv
                      have heq : ((str key2).toList == (str key2).toList) = true := beq_self_eq_true _
                      subst hbe'
                      subst hbits
                      rw [hB] at m1
                      clear hbv10 hki hbe hB hL10
                      go_wp2_with fail
                      go_ret
                      exact ⟨rfl, hbel⟩
                    · have hbe' : be = false := by rw [← hbe, hk]; rfl
                      subst hbe'
                      have hg0 := hL10.g0
                      have hkk2 := hki.bl
                      clear hbe k3
                      go_wp2_with (refine wpList_load_row rfl 25 (.tmp 4) rfl w.heap.size rfl 25 o.cells (0, 0) _ hg0 Tryz.underlying25 rfl (load25 o) ?_)
                      refine (LKeyOfOptions_any o _ (hL10.ok hok) (by omega) (by omega) (by omega)).mono ?_
                      rintro e w12 ⟨⟨vn2, ve2, vd2, rfl, hvn2, hve2, hvd2⟩, hb12⟩
                      replace hL10 := hL10.keep hb12
                      replace hbv10 := hbv10.below hb12 (Nat.le_refl _)
                      have hG3b := (hb12.block G3 (Array.getElem?_eq_some_iff.1 hG3a).1).trans hG3a
                      clear hb12 hg0 m0 m1 m2 m3 m8 m9 hG3a
                      rw [hkey]
                      obtain ⟨an2, cn2, rfl⟩ := hvn2.len
                      obtain ⟨ae2, ce2, rfl⟩ := hve2.len
                      obtain ⟨ad2, cd2, rfl⟩ := hvd2.len
                      have hG4a := heap_alloc_new w12 (.cells #[.slice an2 (keyN o).length cn2, .slice ae2 (keyE o).length ce2, .slice ad2 (keyD o).length cd2] 32)
                      have hL12 := hL10.alloc (.cells #[.slice an2 (keyN o).length cn2, .slice ae2 (keyE o).length ce2, .slice ad2 (keyD o).length cd2] 32)
                      have hvn12 := hvn2.alloc (.cells #[.slice an2 (keyN o).length cn2, .slice ae2 (keyE o).length ce2, .slice ad2 (keyD o).length cd2] 32)
                      have hve12 := hve2.alloc (.cells #[.slice an2 (keyN o).length cn2, .slice ae2 (keyE o).length ce2, .slice ad2 (keyD o).length cd2] 32)
                      have hbv12 := hbv10.alloc (.cells #[.slice an2 (keyN o).length cn2, .slice ae2 (keyE o).length ce2, .slice ad2 (keyD o).length cd2] 32)
                      have hG3c : (w12.alloc (.cells #[.slice an2 (keyN o).length cn2, .slice ae2 (keyE o).length ce2, .slice ad2 (keyD o).length cd2] 32)).heap[G3]? = _ := (Below.heap_alloc _ _ _ (Array.getElem?_eq_some_iff.1 hG3b).1).trans hG3b
                      obtain ⟨G4, hG4e⟩ : ∃ G4, w12.heap.size = G4 := ⟨_, rfl⟩
                      rw [hG4e] at hG4a
                      clear hL10 hbv10 hvn2 hve2 hvd2 hkey hG3b hki
                      go_upto_region 35 with (fail)
                      obtain ⟨w13, hw13⟩ : ∃ w13, w12.alloc (.cells #[.slice an2 (keyN o).length cn2, .slice ae2 (keyE o).length ce2, .slice ad2 (keyD o).length cd2] 32) = w13 := ⟨_, rfl⟩
                      rw [hw13] at hG4a hL12 hvn12 hve12 hbv12 hG3c ⊢
                      clear hw13 hG4e
                      have hbel12 := hL12.below
                      have hlN : (keyN o).length ≤ 1000000 := by have := hns.1; omega
                      have hmod := hRN.mod
                      have hmb : (bitsL (keyN o) + 7) / 8 ≤ 1000000 := by have := hRN.hi; omega
                      obtain ⟨sN, hsN⟩ : ∃ v, Value.slice an2 (keyN o).length cn2 = v := ⟨_, rfl⟩
                      obtain ⟨sE, hsE⟩ : ∃ v, Value.slice ae2 (keyE o).length ce2 = v := ⟨_, rfl⟩
                      rw [hsN] at hvn12 hG4a
                      rw [hsE] at hve12 hG4a
                      have hW4 : ∀ W, Below w13.heap.size w13 W → ∀ (i : Nat), W.cell? ⟨G4, i, none⟩ = (#[sN, sE, Value.slice ad2 (keyD o).length cd2] : Array Value)[i]? := fun W hW i => cell_of_row W G4 i _ 32 (0, 0) ((hW.block G4 (Array.getElem?_eq_some_iff.1 hG4a).1).trans hG4a)
                      have hW3 : ∀ W, Below w13.heap.size w13 W → ∀ (i : Nat), W.cell? ⟨G3, i, none⟩ = (#[.string kk, .slice ba B.length bc, .int .i64 x, .int .i64 bits, .slice (some ⟨hg, 0, none⟩) hn' hc, .slice (some ⟨sg, 0, none⟩) sn sc, .slice (some ⟨fg, 0, none⟩) fn fc, .string nt, .bool false, .bool false] : Array Value)[i]? := fun W hW i => cell_of_row W G3 i _ 39 (0, 0) ((hW.block G3 (Array.getElem?_eq_some_iff.1 hG3c).1).trans hG3c)
                      have hdr : Below w13.heap.size w13 w13.drew := ⟨rfl, rfl, rfl, Nat.le_refl _, fun _ _ => rfl⟩
                      refine wp_region_typedW (by kernel_rfl) [] (fun _ _ _ => True) (fun u W v => match u with
                        | 24 => v = .pointer (some ⟨G4, 0, none⟩) | 210 => v = .pointer (some ⟨G4, 0, none⟩) | 212 => v = .pointer (some ⟨G4, 0, none⟩) | 211 => v = sN | 213 => v = sN
                        | 214 => v = .int .i64 (((bitsL (keyN o) + 7) / 8 : Nat) : Int) | 215 => v = .tuple #[.string (str (modF (keyN o))), .bool true] | 209 => v = .tuple #[.string (str (modF (keyN o))), .bool true]
                        | 216 => v = .string (str (modF (keyN o))) | 26 => v = .string (str (modF (keyN o))) | 217 => v = .bool true | 27 => v = .bool true | _ => True)
                        (fun W => Below w13.heap.size w13 W) (fun _ _ => True) ?hmono (by kernel_rfl)
                        [210, 211, 212, 213, 214, 215, 209, 216, 217, 26, 27] (by kernel_rfl) [24, 24] (by kernel_rfl) ?h0 [] (by kernel_rfl) ?hz hdr ?hs ?hQ
                      case hmono => exact fun u W W' v _ _ _ hv => hv
                      case h0 => simp
                      case hz => simp
                      case hs =>
                        have hR : ∀ W : World, True := fun _ => trivial
                        refine ⟨SafeOpW.of hR fun W0 hI0 => safe_fieldAddr Tryz.underlying32 rfl size30 (by decide) G4 0 (fun v hv => hv) rfl,
                          SafeOpW.of hR fun W0 hI0 => safe_loadC Tryz.underlying30 rfl ⟨G4, 0, none⟩ (fun v hv => hv) sN (fun W hI => by subst hI; exact hW4 _ hI0 0) rfl,
                          SafeOpW.of hR fun W0 hI0 => safe_fieldAddr Tryz.underlying32 rfl size30 (by decide) G4 0 (fun v hv => hv) rfl,
                          SafeOpW.of hR fun W0 hI0 => safe_loadC Tryz.underlying30 rfl ⟨G4, 0, none⟩ (fun v hv => hv) sN (fun W hI => by subst hI; exact hW4 _ hI0 0) rfl,
                          safeW_call1 (fun _ v => v = sN) (fun W v hI hv => hv) call14 (fun a' W hI ha => by
                            subst ha
                            refine (LSize_any _ _ W (hvn12.below hI (Nat.le_refl _)) hlN).mono ?_
                            rintro e w' ⟨rfl, hb⟩
                            exact ⟨_, rfl, trivial, hI.trans (hb.mono hI.size), fun d hd => by cases hd; rfl⟩),
                          safeW_call2 (fun _ v => v = sN) (fun _ v => v = .int .i64 (((bitsL (keyN o) + 7) / 8 : Nat) : Int)) (fun W v hI hv => hv) (fun W v hI hv => hv) call13 (fun a' b' W hI ha hb' => by
                            subst ha hb'
                            refine (LBytes_any _ _ _ W (hvn12.below hI (Nat.le_refl _)) hlN hmb).mono ?_
                            rintro e w' ⟨rfl, hb⟩
                            rw [hmod]
                            exact ⟨_, rfl, trivial, hI.trans (hb.mono hI.size), fun d hd => by cases hd; rfl⟩),
                          safeW_move hR fun W v hI hv => hv,
                          safeW_extract hR (fun _ v => v = .tuple #[.string (str (modF (keyN o))), .bool true]) (fun W v hI hv => hv) (fun W v hI hv => ⟨_, _, hv, rfl, rfl⟩),
                          safeW_extract hR (fun _ v => v = .tuple #[.string (str (modF (keyN o))), .bool true]) (fun W v hI hv => hv) (fun W v hI hv => ⟨_, _, hv, rfl, rfl⟩),
                          safeW_assign hR fun W v hI hv => hv,
                          safeW_assign hR fun W v hI hv => hv, trivial⟩
                      case hQ =>
                        rintro f w14 hI14 hT14
                        have h26 : f 26 = .string (str (modF (keyN o))) := hT14 26 (by simp)
                        clear hT14
                        simp only [putAll, List.setIfInBounds_toArray, List.set_cons_zero, List.set_cons_succ]
                        rw [h26]
                        go_upto_region 36 with (fail)
                        obtain ⟨ge, oe, cae, hse, hce⟩ : ∃ g oo ca, sE = .slice (some ⟨g, oo, none⟩) (keyE o).length ca ∧ w13.cell? ⟨g, oo, none⟩ = some (.int .u32 (((keyE o).getD 0 0 : Nat) : Int)) := by
                          have h1 := hRN.e1
                          have hw : (words (keyE o))[0]? = some (.int .u32 (((keyE o).getD 0 0 : Nat) : Int)) := by
                            simp only [words, List.getElem?_map, List.getD_eq_getElem?_getD]
                            rw [List.getElem?_eq_getElem (by omega)]
                            rfl
                          obtain ⟨g, oo, ca, e1, e2⟩ := hve12.2.toI.cell hw
                          refine ⟨g, oo, ca, ?_, by simpa using e2⟩
                          rw [e1]
                          simp [words]
                        have he1 := hRN.e1
                        have he31 := hRN.e31
                        have hce2 : ∀ W, Below w13.heap.size w13 W → W.cell? ⟨ge, oe, none⟩ = some (.int .u32 (((keyE o).getD 0 0 : Nat) : Int)) := fun W hW => (World.cell?_of_block (w := w13) (a := ⟨ge, oe, none⟩) (hW.block ge (World.block_lt_of_cell? w13 _ hce))).trans hce
                        have hcvB : ∀ W, Below w13.heap.size w13 W → Sem.run Tryz.prog (convert 22 9 (.slice ba B.length bc)) W = .ok (.string (str (modF (keyN o)))) W := fun W hW => by
                          have := (hbv12.below hW (Nat.le_refl _)).text (P := Tryz.prog) (dst := 9) Tryz.underlying22 Tryz.underlying5 Tryz.underlying9 W rfl
                          rwa [hB] at this ⊢
                        have hI14d : Below w13.heap.size w13 w14.drew := hI14.trans ⟨rfl, rfl, rfl, Nat.le_of_eq rfl, fun _ _ => rfl⟩
                        refine wp_region_typedX (by kernel_rfl) [] [(6, true), (13, true)] (fun _ _ _ => True) (fun u W v => match u with
                          | 22 => v = .pointer (some ⟨G3, 0, none⟩) | 24 => v = .pointer (some ⟨G4, 0, none⟩) | 26 => v = .string (str (modF (keyN o)))
                          | 218 => v = .pointer (some ⟨G3, 3, none⟩) | 219 => v = .int .i64 bits | 220 => v = .pointer (some ⟨G4, 0, none⟩) | 221 => v = sN | 222 => v = .int .i64 bits | 223 => v = .bool true | 224 => v = .bool true
                          | 225 => v = .pointer (some ⟨G3, 1, none⟩) | 226 => v = .slice ba B.length bc | 227 => v = .string (str (modF (keyN o))) | 228 => v = .string (str (modF (keyN o))) | 229 => v = .bool true | 230 => v = .bool true | 231 => v = .bool true
                          | 232 => v = .pointer (some ⟨G3, 2, none⟩) | 233 => v = .int .i64 x | 234 => v = .pointer (some ⟨G4, 1, none⟩) | 235 => v = sE | 236 => v = .pointer (some ⟨ge, oe, none⟩) | 237 => v = .int .u32 (((keyE o).getD 0 0 : Nat) : Int) | 238 => v = .int .i64 x
                          | 239 => v = .bool true | 240 => v = .bool true | 8 => v = .bool true | _ => True)
                          (fun W => Below w13.heap.size w13 W) (fun _ _ => True) ?hmono (by kernel_rfl)
                          [218, 219, 220, 221, 222, 223, 224, 225, 226, 227, 228, 229, 230, 231, 232, 233, 234, 235, 236, 237, 238, 239, 240, 8] (by kernel_rfl) [22, 24, 22, 26, 22, 24] (by kernel_rfl) ?h0 [] (by kernel_rfl) ?hz hI14d [(some 224, true), (some 231, true)] (by kernel_rfl) ?hgs (fun _ _ => trivial) ?hs ?hQ
                        case hmono => exact fun u W W' v _ _ _ hv => hv
                        case h0 => simp
                        case hz => simp
                        case hgs =>
                          intro g c hgc W v _ hv
                          simp only [List.mem_cons, Prod.mk.injEq, Option.some.injEq, List.not_mem_nil, or_false] at hgc
                          rcases hgc with ⟨rfl, rfl⟩ | ⟨rfl, rfl⟩ <;> exact hv
                        case hs =>
                          have hR : ∀ W : World, True := fun _ => trivial
                          refine ⟨SafeOpW.of hR fun W0 hI0 => safe_fieldAddr Tryz.underlying39 rfl size3 (by decide) G3 0 (fun v hv => hv) rfl,
                            SafeOpW.of hR fun W0 hI0 => safe_loadC Tryz.underlying3 rfl ⟨G3, 3, none⟩ (fun v hv => hv) (.int .i64 bits) (fun W hI => by subst hI; exact hW3 _ hI0 3) rfl,
                            SafeOpW.of hR fun W0 hI0 => safe_fieldAddr Tryz.underlying32 rfl size30 (by decide) G4 0 (fun v hv => hv) rfl,
                            SafeOpW.of hR fun W0 hI0 => safe_loadC Tryz.underlying30 rfl ⟨G4, 0, none⟩ (fun v hv => hv) sN (fun W hI => by subst hI; exact hW4 _ hI0 0) rfl,
                            safeW_call1 (fun _ v => v = sN) (fun W v hI hv => hv) call15 (fun a' W hI ha => by
                              subst ha
                              refine (LBits_any _ _ W (hvn12.below hI (Nat.le_refl _)) hlN).mono ?_
                              rintro e w' ⟨rfl, hb⟩
                              exact ⟨_, rfl, trivial, hI.trans (hb.mono hI.size), fun d hd => by cases hd; show Value.int _ _ = _; rw [hbits]⟩),
                            SafeOpW.of hR fun W0 hI0 => safe_eqI bits (fun v hv => hv) (fun v hv => hv) rfl,
                            safeW_move hR fun W v hI hv => hv,
                            SafeOpW.of hR fun W0 hI0 => safe_fieldAddr Tryz.underlying39 rfl size22 (by decide) G3 0 (fun v hv => hv) rfl,
                            SafeOpW.of hR fun W0 hI0 => safe_loadC Tryz.underlying22 rfl ⟨G3, 1, none⟩ (fun v hv => hv) (.slice ba B.length bc) (fun W hI => by subst hI; exact hW3 _ hI0 1) rfl,
                            SafeOpW.of hR fun W0 hI0 => safe_convW _ _ (fun v hv => hv) (fun W hI => by subst hI; exact hcvB _ hI0) rfl,
                            safeW_move hR fun W v hI hv => hv,
                            SafeOpW.of hR fun W0 hI0 => safe_eqS _ (fun v hv => hv) (fun v hv => hv) rfl,
                            SafeOpW.of hR fun W0 hI0 => safe_pick true (fun v hv => hv) (fun _ v hv => hv) (fun h => by cases h),
                            safeW_move hR fun W v hI hv => hv,
                            SafeOpW.of hR fun W0 hI0 => safe_fieldAddr Tryz.underlying39 rfl size2 (by decide) G3 0 (fun v hv => hv) rfl,
                            SafeOpW.of hR fun W0 hI0 => safe_loadC Tryz.underlying2 rfl ⟨G3, 2, none⟩ (fun v hv => hv) (.int .i64 x) (fun W hI => by subst hI; exact hW3 _ hI0 2) rfl,
                            SafeOpW.of hR fun W0 hI0 => safe_fieldAddr Tryz.underlying32 rfl size30 (by decide) G4 0 (fun v hv => hv) rfl,
                            SafeOpW.of hR fun W0 hI0 => safe_loadC Tryz.underlying30 rfl ⟨G4, 1, none⟩ (fun v hv => hv) sE (fun W hI => by subst hI; exact hW4 _ hI0 1) rfl,
                            SafeOpW.of hR fun W0 hI0 => safe_placeSl (k := .i64) Tryz.underlying30 size45 ge oe (keyE o).length cae 0 (fun v hv => by rw [hv, hse]) rfl (by omega) (by omega) (by show Value.pointer _ = _; simp),
                            SafeOpW.of hR fun W0 hI0 => safe_loadC Tryz.underlying45 rfl ⟨ge, oe, none⟩ (fun v hv => hv) (.int .u32 (((keyE o).getD 0 0 : Nat) : Int)) (fun W hI => by subst hI; exact hce2 _ hI0) rfl,
                            SafeOpW.of hR fun W0 hI0 => safe_convW _ (.int .i64 x) (fun v hv => hv) (fun W hI => by
                              have h2 := wrap_small (x := (((keyE o).getD 0 0 : Nat) : Int)) (by omega) (by omega)
                              simp [convert, run_underlying Tryz.underlying45, run_underlying Tryz.underlying2, Conv.intToInt]
                              rw [hxx]
                              simpa using h2) rfl,
                            SafeOpW.of hR fun W0 hI0 => safe_eqI x (fun v hv => hv) (fun v hv => hv) rfl,
                            SafeOpW.of hR fun W0 hI0 => safe_pick true (fun v hv => hv) (fun _ v hv => hv) (fun h => by cases h),
                            safeW_assign hR fun W v hI hv => hv, trivial⟩
                        case hQ =>
                          rintro f2 w15 hI15 hT15
                          have h8 : f2 8 = .bool true := hT15 8 (by simp)
                          have hfin := hL12.keep hI15
                          have hbel15 := hfin.below
                          clear hT15 hfin
                          simp only [putAll, List.setIfInBounds_toArray, List.set_cons_zero, List.set_cons_succ]
                          rw [h8]
                          go_wp2
                          go_ret
                          exact ⟨rfl, hbel15⟩
end Go.Proofs.YtcebfkhfnjbfjaaGreatDoor
