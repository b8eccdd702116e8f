/- FnBackward: what the law's function answers. -/
import Derived.Test.YtpodifbgfcclbaaGreatDoorLawApp
import Derived.Test.YtpodifbgfcclbaaGreatDoorLawBlk
import Derived.Deep.CutRange
set_option linter.unusedVariables false
set_option linter.unusedSimpArgs false
namespace Go.Proofs.YtpodifbgfcclbaaGreatDoor
open Go.RowKit
attribute [local go_sem] Nat.lt_add_one_of_lt

/-- A new statement among new blocks. -/
theorem SL_in {w V : World} {os : List Obj} {i : Nat} {k l d : Int} {a : Option Addr} {cap : Nat} {bd : List (List Fl)} (hV : V = (allocs w os).drew) (hi : os[i]? = some (.cells #[.int .i64 k, .int .i64 l, .int .i64 d, .slice a bd.length cap] 27)) (hs : SLL V V.heap.size a cap bd) : SL V V.heap.size (some ⟨w.heap.size + i, 0, none⟩) 1 [.mk k l d bd] := by
  obtain ⟨h1, h2, h3, _⟩ := allocs_spec os w
  have h4 : V.heap[w.heap.size + i]? = some (.cells #[.int .i64 k, .int .i64 l, .int .i64 d, .slice a bd.length cap] 27) := by rw [hV]; exact h3 i _ hi
  exact SL_one h4 (Array.getElem?_eq_some_iff.1 h4).1 hs
theorem SLL_in {w V : World} {os : List Obj} {i : Nat} {a : Option Addr} {cap : Nat} {y : List Fl} (hV : V = (allocs w os).drew) (hi : os[i]? = some (.cells #[.slice a y.length cap] 22)) (hs : SL V V.heap.size a cap y) : SLL V V.heap.size (some ⟨w.heap.size + i, 0, none⟩) 1 [y] := by
  obtain ⟨h1, h2, h3, _⟩ := allocs_spec os w
  have h4 : V.heap[w.heap.size + i]? = some (.cells #[.slice a y.length cap] 22) := by rw [hV]; exact h3 i _ hi
  exact SLL_one h4 (Array.getElem?_eq_some_iff.1 h4).1 hs
theorem bel_in {w V : World} {os : List Obj} (hV : V = (allocs w os).drew) : Below w.heap.size w V := by
  obtain ⟨h1, h2, h3, h4, h5, h6⟩ := allocs_spec os w
  have hb : Below w.heap.size w (allocs w os) := ⟨h4, h5, h6, by omega, h2⟩
  rw [hV]; exact hb.drew
set_option maxRecDepth 100000 in
set_option maxHeartbeats 16000000 in
theorem fnBackward_main (l : List Fl) (n : Int) (hn1 : 1 ≤ n) (hn2 : n ≤ 9) (hlen : ¬ (l.length : Int) > 2147483647) (hh : hasL n l = false) (hvl : validL l = true) (a : Option Addr) (cap : Nat) (w : World) (hs : SL w w.heap.size a cap l) (ht : Tab w) : Calls Tryz.prog 3 #[.slice a l.length cap, .int .i64 n] w (RetB w true) := by
  obtain ⟨L1, hL1⟩ : ∃ L1, L1 = l ++ [jmpF 11 n] := ⟨_, rfl⟩
  obtain ⟨L, hL⟩ : ∃ L, L = [labF n expF] ++ L1 := ⟨_, rfl⟩
  obtain ⟨M1, hM1⟩ : ∃ M1, M1 = l ++ [ofF 9 [[jmpF 11 n]]] := ⟨_, rfl⟩
  obtain ⟨M, hM⟩ : ∃ M, M = [labF n expF] ++ M1 := ⟨_, rfl⟩
  have hLl1 : L1.length * 48 ≤ 140737488355328 := by rw [hL1, List.length_append, List.length_singleton]; omega
  have hLl : L.length * 48 ≤ 140737488355328 := by rw [hL, hL1, List.length_append, List.length_append, List.length_singleton, List.length_singleton]; omega
  have hMl1 : M1.length * 48 ≤ 140737488355328 := by rw [hM1, List.length_append, List.length_singleton]; omega
  have hMl : M.length * 48 ≤ 140737488355328 := by rw [hM, hM1, List.length_append, List.length_append, List.length_singleton, List.length_singleton]; omega
  have hll : (l.length + [jmpF 11 n].length) * 48 ≤ 140737488355328 := by rw [List.length_singleton]; omega
  have hmm : (l.length + [ofF 9 [[jmpF 11 n]]].length) * 48 ≤ 140737488355328 := by rw [List.length_singleton]; omega
  have hne : L1 ≠ [] := by rw [hL1]; simp
  have hnm : M1 ≠ [] := by rw [hM1]; simp
  have hfull : 1 < [labF n expF].length + L1.length := by rw [List.length_singleton]; have := List.length_pos_iff.2 hne; omega
  have hfulm : 1 < [labF n expF].length + M1.length := by rw [List.length_singleton]; have := List.length_pos_iff.2 hnm; omega
  have lawa : jumpsJ L = jumpsJ l := by rw [hL, hL1]; exact (law_back n hn1 l hh).1
  have lawb : jumpsJ M = jumpsJ l := by rw [hM, hM1]; exact (law_back n hn1 l hh).2
  have ch := hasl_any n l a cap w hs
  rw [hh] at ch
  have CH := Lib.hid ch
  have HS := Lib.hid hs
  have HT := Lib.hid ht
  have LAWA := Lib.hid lawa
  have LAWB := Lib.hid lawb
  have HL := Lib.hid hL
  have HL1 := Lib.hid hL1
  have HM := Lib.hid hM
  have HM1 := Lib.hid hM1
  have HLL := Lib.hid hLl
  have HLL1 := Lib.hid hLl1
  have HML := Lib.hid hMl
  have HML1 := Lib.hid hMl1
  have HLW := Lib.hid hll
  have HMW := Lib.hid hmm
  have HNE := Lib.hid hne
  have HNM := Lib.hid hnm
  have HF := Lib.hid hfull
  have HFM := Lib.hid hfulm
  have HVL := Lib.hid hvl
  clear ch hs ht hh lawa lawb hL hL1 hM hM1 hLl hLl1 hMl hMl1 hll hmm hvl hne hnm hfull hfulm
  go_enter Tryz.func3, Tryz.ntmps3
  go_wp2_with fail
  refine (CH.out).mono ?_
  rintro e w1 ⟨rfl, hb1⟩
  have cv := valid_any _ _ _ _ w1 (HS.out.up hb1) (Nat.le_refl _)
  rw [HVL.out] at cv
  have CV := Lib.hid cv
  have HB1 := Lib.hid hb1
  clear cv hb1
  go_wp2_with fail
  refine (CV.out).mono ?_
  rintro e w2 ⟨rfl, hb2⟩
  have HB2 := Lib.hid (bseq HB1.out hb2)
  have C3 := Lib.hid (labeled_any n 18 0 0 none 0 [] w2 SLL.nil)
  clear hb2
  go_wp2_with fail
  refine (C3.out).mono ?_
  rintro e w3 ⟨a3, rfl, hs3, hb3⟩
  obtain ⟨W3, hW3⟩ : ∃ W3, W3 = w3.alloc (.cells #[.int .i64 10, .int .i64 n, .int .i64 0, .slice a3 1 1] 27) := ⟨_, rfl⟩
  have hb33 : Below w3.heap.size w3 W3 := by rw [hW3]; exact bal _ _
  obtain ⟨z0, z1, z2, z3, zlt⟩ := one_cells hW3 W3 (Below.refl _ _)
  have hx3 : SLL W3 W3.heap.size a3 1 [[expF]] := hs3.up hb33
  have hb03 := bseq (bseq HB2.out hb3) hb33
  obtain ⟨V60, hV60⟩ : ∃ V60, V60 = (allocs W3 [.cells #[.int .i64 10, .int .i64 n, .int .i64 0, .slice a3 1 1] 27, .cells #[.int .i64 11, .int .i64 n, .int .i64 0, .slice none 0 0] 27]).drew := ⟨_, rfl⟩
  have hbV60 := bel_in hV60
  have cV60 := with_any l [jmpF 11 n] a cap (some ⟨W3.heap.size + 1, 0, none⟩) 1 V60 (HS.out.up (bseq hb03 hbV60)) (SL_in (i := 1) hV60 rfl SLL.nil) (by simp) HLW.out
  rw [← HL1.out] at cV60
  have CV60 := Lib.hid cV60
  have HBV60 := Lib.hid hbV60
  have HXV60 := Lib.hid (SL_in (i := 0) (bd := [[expF]]) hV60 rfl (hx3.up hbV60))
  have HV60 := Lib.hid (show V60 = ((W3.alloc (.cells #[.int .i64 10, .int .i64 n, .int .i64 0, .slice a3 1 1] 27)).alloc (.cells #[.int .i64 11, .int .i64 n, .int .i64 0, .slice none 0 0] 27)).drew from hV60)
  obtain ⟨V61, hV61⟩ : ∃ V61, V61 = (allocs W3 [.cells #[.int .i64 11, .int .i64 n, .int .i64 0, .slice none 0 0] 27, .cells #[.int .i64 10, .int .i64 n, .int .i64 0, .slice a3 1 1] 27]).drew := ⟨_, rfl⟩
  have hbV61 := bel_in hV61
  have cV61 := with_any l [jmpF 11 n] a cap (some ⟨W3.heap.size + 0, 0, none⟩) 1 V61 (HS.out.up (bseq hb03 hbV61)) (SL_in (i := 0) hV61 rfl SLL.nil) (by simp) HLW.out
  rw [← HL1.out] at cV61
  have CV61 := Lib.hid cV61
  have HBV61 := Lib.hid hbV61
  have HXV61 := Lib.hid (SL_in (i := 1) (bd := [[expF]]) hV61 rfl (hx3.up hbV61))
  have HV61 := Lib.hid (show V61 = ((W3.alloc (.cells #[.int .i64 11, .int .i64 n, .int .i64 0, .slice none 0 0] 27)).alloc (.cells #[.int .i64 10, .int .i64 n, .int .i64 0, .slice a3 1 1] 27)).drew from hV61)
  obtain ⟨V62, hV62⟩ : ∃ V62, V62 = (allocs W3 [.cells #[.int .i64 11, .int .i64 n, .int .i64 0, .slice none 0 0] 27]).drew := ⟨_, rfl⟩
  have hbV62 := bel_in hV62
  have cV62 := with_any l [jmpF 11 n] a cap (some ⟨W3.heap.size + 0, 0, none⟩) 1 V62 (HS.out.up (bseq hb03 hbV62)) (SL_in (i := 0) hV62 rfl SLL.nil) (by simp) HLW.out
  rw [← HL1.out] at cV62
  have CV62 := Lib.hid cV62
  have HBV62 := Lib.hid hbV62
  have HV62 := Lib.hid (show V62 = (W3.alloc (.cells #[.int .i64 11, .int .i64 n, .int .i64 0, .slice none 0 0] 27)).drew from hV62)
  have HX3 := Lib.hid hx3
  have HB03 := Lib.hid hb03
  have HW3 := Lib.hid hW3
  have Z := Lib.hid (And.intro z0 (And.intro z1 (And.intro z2 z3)))
  clear hs3 hb3 hb33 hx3 hb03 hW3 hV60 hbV60 cV60 hV61 hbV61 cV61 hV62 hbV62 cV62
  go_upto_region 6 with fail
  rw [← HW3.out]
  go_cut [6] from 30 to 37 (fun s6 wx => ∃ g cap6, s6 = .slice (some ⟨g, 0, none⟩) L.length cap6 ∧ SL wx wx.heap.size (some ⟨g, 0, none⟩) cap6 L ∧ Below W3.heap.size W3 wx)
  case first =>
    go_region_law (first
      | (go_simp; go_at_call 24; rw [← HV60.out]; refine (CV60.out).mono ?_; rintro e w6 ⟨g6, cap6, rfl, hrw6, hb6⟩; have hs6 := hrw6.sl HLL1.out hb6.size)
      | (go_simp; go_at_call 24; rw [← HV61.out]; refine (CV61.out).mono ?_; rintro e w6 ⟨g6, cap6, rfl, hrw6, hb6⟩; have hs6 := hrw6.sl HLL1.out hb6.size)
      | (go_simp; go_at_call 24; rw [← HV62.out]; refine (CV62.out).mono ?_; rintro e w6 ⟨g6, cap6, rfl, hrw6, hb6⟩; have hs6 := hrw6.sl HLL1.out hb6.size; have hcx : Below W3.heap.size W3 w6 := bseq HBV62.out hb6; have y0 := (hcx.cell (p := ⟨w3.heap.size, 0, none⟩) zlt).trans z0; have y1 := (hcx.cell (p := ⟨w3.heap.size, 1, none⟩) zlt).trans z1; have y2 := (hcx.cell (p := ⟨w3.heap.size, 2, none⟩) zlt).trans z2; have y3 := (hcx.cell (p := ⟨w3.heap.size, 3, none⟩) zlt).trans z3; have ylt : w3.heap.size < w6.heap.size := (by have := hcx.size; omega); have hx6 := HX3.out.up hcx)
      | (refine step_grow rfl _ _ rfl HL.out (by rfl) (by rfl) (HXV60.out.up hb6) hs6 (by simp) HNE.out HF.out HLL.out ?_; intro g7 cap7 w7 hs7 hb7; have hfin := bseq HBV60.out (bseq hb6 hb7))
      | (refine step_grow rfl _ _ rfl HL.out (by rfl) (by rfl) (HXV61.out.up hb6) hs6 (by simp) HNE.out HF.out HLL.out ?_; intro g7 cap7 w7 hs7 hb7; have hfin := bseq HBV61.out (bseq hb6 hb7))
      | (obtain ⟨W6, hW6⟩ : ∃ W6, W6 = w6.alloc (.cells #[.int .i64 10, .int .i64 n, .int .i64 0, .slice a3 1 1] 27) := ⟨_, rfl⟩; obtain ⟨hbx, hzx, hsx⟩ := one_full (a := a3) (cap := 1) (bd := [[expF]]) hx6 hW6; rw [← hW6]; refine step_grow rfl _ _ rfl HL.out (by rfl) (by rfl) hsx (hs6.up hbx) (by simp) HNE.out HF.out HLL.out ?_; intro g7 cap7 w7 hs7 hb7; have hfin := bseq hcx (bseq hbx hb7)))
    all_goals
      go_wp2_with fail
      go_meet
      exact ⟨g7, cap7, rfl, hs7, hfin⟩
  case rest =>
  obtain ⟨g7, cap7, rfl, hs7, hb37⟩ := hcut
  have y0 := (hb37.cell (p := ⟨w3.heap.size, 0, none⟩) zlt).trans z0
  have y1 := (hb37.cell (p := ⟨w3.heap.size, 1, none⟩) zlt).trans z1
  have y2 := (hb37.cell (p := ⟨w3.heap.size, 2, none⟩) zlt).trans z2
  have y3 := (hb37.cell (p := ⟨w3.heap.size, 3, none⟩) zlt).trans z3
  have ylt : w3.heap.size < wc.heap.size := by have := hb37.size; omega
  have ylt2 : w3.heap.size < wc.heap.size + 2 := by omega
  have ylt3 : w3.heap.size < wc.heap.size + 3 := by omega
  have ylt4 : w3.heap.size < wc.heap.size + 4 := by omega
  have hx7 := HX3.out.up hb37
  have hb07 := bseq HB03.out hb37
  obtain ⟨V70, hV70⟩ : ∃ V70, V70 = (allocs wc [.cells #[.int .i64 10, .int .i64 n, .int .i64 0, .slice a3 1 1] 27, .cells #[.int .i64 11, .int .i64 n, .int .i64 0, .slice none 0 0] 27, .cells #[.slice (some ⟨wc.heap.size + 1, 0, none⟩) 1 1] 22, .cells #[.int .i64 9, .int .i64 0, .int .i64 0, .slice (some ⟨wc.heap.size + 2, 0, none⟩) 1 1] 27, .cells #[.int .i64 9, .int .i64 0, .int .i64 0, .slice (some ⟨wc.heap.size + 2, 0, none⟩) 1 1] 27]).drew := ⟨_, rfl⟩
  have hbV70 := bel_in hV70
  have cV70 := with_any l [ofF 9 [[jmpF 11 n]]] a cap (some ⟨wc.heap.size + 4, 0, none⟩) 1 V70 (HS.out.up (bseq hb07 hbV70)) (SL_in (i := 4) (bd := [[jmpF 11 n]]) hV70 rfl (SLL_in (i := 2) hV70 rfl (SL_in (i := 1) (bd := []) hV70 rfl SLL.nil))) (by simp) HMW.out
  rw [← HM1.out] at cV70
  have CV70 := Lib.hid cV70
  have HBV70 := Lib.hid hbV70
  have HXV70 := Lib.hid (SL_in (i := 0) (bd := [[expF]]) hV70 rfl (hx7.up hbV70))
  have HV70 := Lib.hid (show V70 = (((((wc.alloc (.cells #[.int .i64 10, .int .i64 n, .int .i64 0, .slice a3 1 1] 27)).alloc (.cells #[.int .i64 11, .int .i64 n, .int .i64 0, .slice none 0 0] 27)).alloc (.cells #[.slice (some ⟨wc.heap.size + 1, 0, none⟩) 1 1] 22)).alloc (.cells #[.int .i64 9, .int .i64 0, .int .i64 0, .slice (some ⟨wc.heap.size + 2, 0, none⟩) 1 1] 27)).alloc (.cells #[.int .i64 9, .int .i64 0, .int .i64 0, .slice (some ⟨wc.heap.size + 2, 0, none⟩) 1 1] 27)).drew from hV70)
  obtain ⟨V71, hV71⟩ : ∃ V71, V71 = (allocs wc [.cells #[.int .i64 11, .int .i64 n, .int .i64 0, .slice none 0 0] 27, .cells #[.int .i64 10, .int .i64 n, .int .i64 0, .slice a3 1 1] 27, .cells #[.slice (some ⟨wc.heap.size, 0, none⟩) 1 1] 22, .cells #[.int .i64 9, .int .i64 0, .int .i64 0, .slice (some ⟨wc.heap.size + 2, 0, none⟩) 1 1] 27, .cells #[.int .i64 9, .int .i64 0, .int .i64 0, .slice (some ⟨wc.heap.size + 2, 0, none⟩) 1 1] 27]).drew := ⟨_, rfl⟩
  have hbV71 := bel_in hV71
  have cV71 := with_any l [ofF 9 [[jmpF 11 n]]] a cap (some ⟨wc.heap.size + 4, 0, none⟩) 1 V71 (HS.out.up (bseq hb07 hbV71)) (SL_in (i := 4) (bd := [[jmpF 11 n]]) hV71 rfl (SLL_in (i := 2) hV71 rfl (SL_in (i := 0) (bd := []) hV71 rfl SLL.nil))) (by simp) HMW.out
  rw [← HM1.out] at cV71
  have CV71 := Lib.hid cV71
  have HBV71 := Lib.hid hbV71
  have HXV71 := Lib.hid (SL_in (i := 1) (bd := [[expF]]) hV71 rfl (hx7.up hbV71))
  have HV71 := Lib.hid (show V71 = (((((wc.alloc (.cells #[.int .i64 11, .int .i64 n, .int .i64 0, .slice none 0 0] 27)).alloc (.cells #[.int .i64 10, .int .i64 n, .int .i64 0, .slice a3 1 1] 27)).alloc (.cells #[.slice (some ⟨wc.heap.size, 0, none⟩) 1 1] 22)).alloc (.cells #[.int .i64 9, .int .i64 0, .int .i64 0, .slice (some ⟨wc.heap.size + 2, 0, none⟩) 1 1] 27)).alloc (.cells #[.int .i64 9, .int .i64 0, .int .i64 0, .slice (some ⟨wc.heap.size + 2, 0, none⟩) 1 1] 27)).drew from hV71)
  obtain ⟨V72, hV72⟩ : ∃ V72, V72 = (allocs wc [.cells #[.int .i64 11, .int .i64 n, .int .i64 0, .slice none 0 0] 27, .cells #[.slice (some ⟨wc.heap.size, 0, none⟩) 1 1] 22, .cells #[.int .i64 10, .int .i64 n, .int .i64 0, .slice a3 1 1] 27, .cells #[.int .i64 9, .int .i64 0, .int .i64 0, .slice (some ⟨wc.heap.size + 1, 0, none⟩) 1 1] 27, .cells #[.int .i64 9, .int .i64 0, .int .i64 0, .slice (some ⟨wc.heap.size + 1, 0, none⟩) 1 1] 27]).drew := ⟨_, rfl⟩
  have hbV72 := bel_in hV72
  have cV72 := with_any l [ofF 9 [[jmpF 11 n]]] a cap (some ⟨wc.heap.size + 4, 0, none⟩) 1 V72 (HS.out.up (bseq hb07 hbV72)) (SL_in (i := 4) (bd := [[jmpF 11 n]]) hV72 rfl (SLL_in (i := 1) hV72 rfl (SL_in (i := 0) (bd := []) hV72 rfl SLL.nil))) (by simp) HMW.out
  rw [← HM1.out] at cV72
  have CV72 := Lib.hid cV72
  have HBV72 := Lib.hid hbV72
  have HXV72 := Lib.hid (SL_in (i := 2) (bd := [[expF]]) hV72 rfl (hx7.up hbV72))
  have HV72 := Lib.hid (show V72 = (((((wc.alloc (.cells #[.int .i64 11, .int .i64 n, .int .i64 0, .slice none 0 0] 27)).alloc (.cells #[.slice (some ⟨wc.heap.size, 0, none⟩) 1 1] 22)).alloc (.cells #[.int .i64 10, .int .i64 n, .int .i64 0, .slice a3 1 1] 27)).alloc (.cells #[.int .i64 9, .int .i64 0, .int .i64 0, .slice (some ⟨wc.heap.size + 1, 0, none⟩) 1 1] 27)).alloc (.cells #[.int .i64 9, .int .i64 0, .int .i64 0, .slice (some ⟨wc.heap.size + 1, 0, none⟩) 1 1] 27)).drew from hV72)
  obtain ⟨V73, hV73⟩ : ∃ V73, V73 = (allocs wc [.cells #[.int .i64 11, .int .i64 n, .int .i64 0, .slice none 0 0] 27, .cells #[.slice (some ⟨wc.heap.size, 0, none⟩) 1 1] 22, .cells #[.int .i64 9, .int .i64 0, .int .i64 0, .slice (some ⟨wc.heap.size + 1, 0, none⟩) 1 1] 27, .cells #[.int .i64 10, .int .i64 n, .int .i64 0, .slice a3 1 1] 27, .cells #[.int .i64 9, .int .i64 0, .int .i64 0, .slice (some ⟨wc.heap.size + 1, 0, none⟩) 1 1] 27]).drew := ⟨_, rfl⟩
  have hbV73 := bel_in hV73
  have cV73 := with_any l [ofF 9 [[jmpF 11 n]]] a cap (some ⟨wc.heap.size + 4, 0, none⟩) 1 V73 (HS.out.up (bseq hb07 hbV73)) (SL_in (i := 4) (bd := [[jmpF 11 n]]) hV73 rfl (SLL_in (i := 1) hV73 rfl (SL_in (i := 0) (bd := []) hV73 rfl SLL.nil))) (by simp) HMW.out
  rw [← HM1.out] at cV73
  have CV73 := Lib.hid cV73
  have HBV73 := Lib.hid hbV73
  have HXV73 := Lib.hid (SL_in (i := 3) (bd := [[expF]]) hV73 rfl (hx7.up hbV73))
  have HV73 := Lib.hid (show V73 = (((((wc.alloc (.cells #[.int .i64 11, .int .i64 n, .int .i64 0, .slice none 0 0] 27)).alloc (.cells #[.slice (some ⟨wc.heap.size, 0, none⟩) 1 1] 22)).alloc (.cells #[.int .i64 9, .int .i64 0, .int .i64 0, .slice (some ⟨wc.heap.size + 1, 0, none⟩) 1 1] 27)).alloc (.cells #[.int .i64 10, .int .i64 n, .int .i64 0, .slice a3 1 1] 27)).alloc (.cells #[.int .i64 9, .int .i64 0, .int .i64 0, .slice (some ⟨wc.heap.size + 1, 0, none⟩) 1 1] 27)).drew from hV73)
  obtain ⟨V74, hV74⟩ : ∃ V74, V74 = (allocs wc [.cells #[.int .i64 11, .int .i64 n, .int .i64 0, .slice none 0 0] 27, .cells #[.slice (some ⟨wc.heap.size, 0, none⟩) 1 1] 22, .cells #[.int .i64 9, .int .i64 0, .int .i64 0, .slice (some ⟨wc.heap.size + 1, 0, none⟩) 1 1] 27, .cells #[.int .i64 9, .int .i64 0, .int .i64 0, .slice (some ⟨wc.heap.size + 1, 0, none⟩) 1 1] 27, .cells #[.int .i64 10, .int .i64 n, .int .i64 0, .slice a3 1 1] 27]).drew := ⟨_, rfl⟩
  have hbV74 := bel_in hV74
  have cV74 := with_any l [ofF 9 [[jmpF 11 n]]] a cap (some ⟨wc.heap.size + 3, 0, none⟩) 1 V74 (HS.out.up (bseq hb07 hbV74)) (SL_in (i := 3) (bd := [[jmpF 11 n]]) hV74 rfl (SLL_in (i := 1) hV74 rfl (SL_in (i := 0) (bd := []) hV74 rfl SLL.nil))) (by simp) HMW.out
  rw [← HM1.out] at cV74
  have CV74 := Lib.hid cV74
  have HBV74 := Lib.hid hbV74
  have HXV74 := Lib.hid (SL_in (i := 4) (bd := [[expF]]) hV74 rfl (hx7.up hbV74))
  have HV74 := Lib.hid (show V74 = (((((wc.alloc (.cells #[.int .i64 11, .int .i64 n, .int .i64 0, .slice none 0 0] 27)).alloc (.cells #[.slice (some ⟨wc.heap.size, 0, none⟩) 1 1] 22)).alloc (.cells #[.int .i64 9, .int .i64 0, .int .i64 0, .slice (some ⟨wc.heap.size + 1, 0, none⟩) 1 1] 27)).alloc (.cells #[.int .i64 9, .int .i64 0, .int .i64 0, .slice (some ⟨wc.heap.size + 1, 0, none⟩) 1 1] 27)).alloc (.cells #[.int .i64 10, .int .i64 n, .int .i64 0, .slice a3 1 1] 27)).drew from hV74)
  obtain ⟨V75, hV75⟩ : ∃ V75, V75 = (allocs wc [.cells #[.int .i64 11, .int .i64 n, .int .i64 0, .slice none 0 0] 27, .cells #[.slice (some ⟨wc.heap.size, 0, none⟩) 1 1] 22, .cells #[.int .i64 9, .int .i64 0, .int .i64 0, .slice (some ⟨wc.heap.size + 1, 0, none⟩) 1 1] 27, .cells #[.int .i64 9, .int .i64 0, .int .i64 0, .slice (some ⟨wc.heap.size + 1, 0, none⟩) 1 1] 27]).drew := ⟨_, rfl⟩
  have hbV75 := bel_in hV75
  have cV75 := with_any l [ofF 9 [[jmpF 11 n]]] a cap (some ⟨wc.heap.size + 3, 0, none⟩) 1 V75 (HS.out.up (bseq hb07 hbV75)) (SL_in (i := 3) (bd := [[jmpF 11 n]]) hV75 rfl (SLL_in (i := 1) hV75 rfl (SL_in (i := 0) (bd := []) hV75 rfl SLL.nil))) (by simp) HMW.out
  rw [← HM1.out] at cV75
  have CV75 := Lib.hid cV75
  have HBV75 := Lib.hid hbV75
  have HV75 := Lib.hid (show V75 = ((((wc.alloc (.cells #[.int .i64 11, .int .i64 n, .int .i64 0, .slice none 0 0] 27)).alloc (.cells #[.slice (some ⟨wc.heap.size, 0, none⟩) 1 1] 22)).alloc (.cells #[.int .i64 9, .int .i64 0, .int .i64 0, .slice (some ⟨wc.heap.size + 1, 0, none⟩) 1 1] 27)).alloc (.cells #[.int .i64 9, .int .i64 0, .int .i64 0, .slice (some ⟨wc.heap.size + 1, 0, none⟩) 1 1] 27)).drew from hV75)
  have HS7 := Lib.hid hs7
  have HX7 := Lib.hid hx7
  have HB07 := Lib.hid hb07
  clear hs7 hb37 hx7 hb07 z0 z1 z2 z3 CV60 HBV60 HV60 CV61 HBV61 HV61 CV62 HBV62 HV62 HXV60 HXV61 hV70 hbV70 cV70 hV71 hbV71 cV71 hV72 hbV72 cV72 hV73 hbV73 cV73 hV74 hbV74 cV74 hV75 hbV75 cV75
  go_upto_region 7 with fail
  go_cut [7] from 38 to 48 (fun s7 wx => ∃ g capx, s7 = .slice (some ⟨g, 0, none⟩) M.length capx ∧ SL wx wx.heap.size (some ⟨g, 0, none⟩) capx M ∧ Below wc.heap.size wc wx)
  case first =>
    go_region_law (first
      | (go_simp; go_at_call 25; refine (of_any 9 _ 1 1 _).mono ?_; rintro e _ ⟨rfl, rfl⟩)
      | (go_simp; go_at_call 24; rw [← HV70.out]; refine (CV70.out).mono ?_; rintro e w6 ⟨g6, cap6, rfl, hrw6, hb6⟩; have hs6 := hrw6.sl HML1.out hb6.size)
      | (go_simp; go_at_call 24; rw [← HV71.out]; refine (CV71.out).mono ?_; rintro e w6 ⟨g6, cap6, rfl, hrw6, hb6⟩; have hs6 := hrw6.sl HML1.out hb6.size)
      | (go_simp; go_at_call 24; rw [← HV72.out]; refine (CV72.out).mono ?_; rintro e w6 ⟨g6, cap6, rfl, hrw6, hb6⟩; have hs6 := hrw6.sl HML1.out hb6.size)
      | (go_simp; go_at_call 24; rw [← HV73.out]; refine (CV73.out).mono ?_; rintro e w6 ⟨g6, cap6, rfl, hrw6, hb6⟩; have hs6 := hrw6.sl HML1.out hb6.size)
      | (go_simp; go_at_call 24; rw [← HV74.out]; refine (CV74.out).mono ?_; rintro e w6 ⟨g6, cap6, rfl, hrw6, hb6⟩; have hs6 := hrw6.sl HML1.out hb6.size)
      | (go_simp; go_at_call 24; rw [← HV75.out]; refine (CV75.out).mono ?_; rintro e w6 ⟨g6, cap6, rfl, hrw6, hb6⟩; have hs6 := hrw6.sl HML1.out hb6.size; have hcx : Below wc.heap.size wc w6 := bseq HBV75.out hb6; have v0 := (hcx.cell (p := ⟨w3.heap.size, 0, none⟩) ylt).trans y0; have v1 := (hcx.cell (p := ⟨w3.heap.size, 1, none⟩) ylt).trans y1; have v2 := (hcx.cell (p := ⟨w3.heap.size, 2, none⟩) ylt).trans y2; have v3 := (hcx.cell (p := ⟨w3.heap.size, 3, none⟩) ylt).trans y3; have vlt : w3.heap.size < w6.heap.size := (by have := hcx.size; omega); have hx6 := HX7.out.up hcx)
      | (refine step_grow rfl _ _ rfl HM.out (by rfl) (by rfl) (HXV70.out.up hb6) hs6 (by simp) HNM.out HFM.out HML.out ?_; intro g7 cap7 w7 hs7 hb7; have hfin := bseq HBV70.out (bseq hb6 hb7))
      | (refine step_grow rfl _ _ rfl HM.out (by rfl) (by rfl) (HXV71.out.up hb6) hs6 (by simp) HNM.out HFM.out HML.out ?_; intro g7 cap7 w7 hs7 hb7; have hfin := bseq HBV71.out (bseq hb6 hb7))
      | (refine step_grow rfl _ _ rfl HM.out (by rfl) (by rfl) (HXV72.out.up hb6) hs6 (by simp) HNM.out HFM.out HML.out ?_; intro g7 cap7 w7 hs7 hb7; have hfin := bseq HBV72.out (bseq hb6 hb7))
      | (refine step_grow rfl _ _ rfl HM.out (by rfl) (by rfl) (HXV73.out.up hb6) hs6 (by simp) HNM.out HFM.out HML.out ?_; intro g7 cap7 w7 hs7 hb7; have hfin := bseq HBV73.out (bseq hb6 hb7))
      | (refine step_grow rfl _ _ rfl HM.out (by rfl) (by rfl) (HXV74.out.up hb6) hs6 (by simp) HNM.out HFM.out HML.out ?_; intro g7 cap7 w7 hs7 hb7; have hfin := bseq HBV74.out (bseq hb6 hb7))
      | (obtain ⟨W6, hW6⟩ : ∃ W6, W6 = w6.alloc (.cells #[.int .i64 10, .int .i64 n, .int .i64 0, .slice a3 1 1] 27) := ⟨_, rfl⟩; obtain ⟨hbx, hzx, hsx⟩ := one_full (a := a3) (cap := 1) (bd := [[expF]]) hx6 hW6; rw [← hW6]; refine step_grow rfl _ _ rfl HM.out (by rfl) (by rfl) hsx (hs6.up hbx) (by simp) HNM.out HFM.out HML.out ?_; intro g7 cap7 w7 hs7 hb7; have hfin := bseq hcx (bseq hbx hb7)))
    all_goals
      go_wp2_with fail
      go_meet
      exact ⟨g7, cap7, rfl, hs7, hfin⟩
  case rest =>
  obtain ⟨g12, cap12, rfl, hs12, hb712⟩ := hcut
  have HS12 := Lib.hid hs12
  have HS712 := Lib.hid (HS7.out.up hb712)
  have HB12 := Lib.hid (bseq HB07.out hb712)
  clear hs12 hb712 y0 y1 y2 y3 ylt ylt2 ylt3 ylt4 CV70 HBV70 HV70 CV71 HBV71 HV71 CV72 HBV72 HV72 CV73 HBV73 HV73 CV74 HBV74 HV74 CV75 HBV75 HV75 HXV70 HXV71 HXV72 HXV73 HXV74
  have cva := valid_any _ _ _ _ wc HS712.out (Nat.le_refl _)
  have CVA := Lib.hid cva
  clear cva
  go_wp2_with fail
  refine (CVA.out).mono ?_
  rintro e w13 ⟨rfl, hb13⟩
  have HB13 := Lib.hid (bseq HB12.out hb13)
  have HSA13 := Lib.hid (HS712.out.up hb13)
  have HSB13 := Lib.hid (HS12.out.up hb13)
  clear hb13
  cases hva : validL L with
  | false =>
    clear hva
    go_wp2_with fail
    (try simp only [Exit.inBlock, Exit.then])
    refine bodyPost_ret (results_tmp rfl _ _ _) rfl ?_
    exact ⟨rfl, HB13.out⟩
  | true =>
    have cvb := valid_any _ _ _ _ w13 HSB13.out (Nat.le_refl _)
    have CVB := Lib.hid cvb
    have HVA := Lib.hid hva
    clear cvb hva
    go_wp2_with fail
    refine (CVB.out).mono ?_
    rintro e w14 ⟨rfl, hb14⟩
    have HB14 := Lib.hid (bseq HB13.out hb14)
    have HSA14 := Lib.hid (HSA13.out.up hb14)
    have HSB14 := Lib.hid (HSB13.out.up hb14)
    clear hb14
    cases hvb : validL M with
    | false =>
      clear hvb
      go_wp2_with fail
      (try simp only [Exit.inBlock, Exit.then])
      refine bodyPost_ret (results_tmp rfl _ _ _) rfl ?_
      exact ⟨rfl, HB14.out⟩
    | true =>
      have cja := jumps_any _ _ _ w14 HSA14.out (HT.out.on HB14.out) HVA.out
      rw [LAWA.out] at cja
      have CJA := Lib.hid cja
      have HVB := Lib.hid hvb
      clear cja hvb
      go_wp2_with fail
      refine (CJA.out).mono ?_
      rintro e w15 ⟨rfl, hb15⟩
      have HB15 := Lib.hid (bseq HB14.out hb15)
      have HSB15 := Lib.hid (HSB14.out.up hb15)
      clear hb15
      have cjl := jumps_any _ _ _ w15 (HS.out.up HB15.out) (HT.out.on HB15.out) HVL.out
      have CJL := Lib.hid cjl
      clear cjl
      go_wp2_with fail
      refine (CJL.out).mono ?_
      rintro e w16 ⟨rfl, hb16⟩
      have HB16 := Lib.hid (bseq HB15.out hb16)
      have HSB16 := Lib.hid (HSB15.out.up hb16)
      have heq : (jumpsJ l == jumpsJ l) = true := by simp
      clear hb16
      have cjb := jumps_any _ _ _ w16 HSB16.out (HT.out.on HB16.out) HVB.out
      rw [LAWB.out] at cjb
      have CJB := Lib.hid cjb
      clear cjb
      go_wp2_with fail
      refine (CJB.out).mono ?_
      rintro e w17 ⟨rfl, hb17⟩
      have HB17 := Lib.hid (bseq HB16.out hb17)
      clear hb17
      have cjk := jumps_any _ _ _ w17 (HS.out.up HB17.out) (HT.out.on HB17.out) HVL.out
      have CJK := Lib.hid cjk
      clear cjk
      go_wp2_with fail
      refine (CJK.out).mono ?_
      rintro e w18 ⟨rfl, hb18⟩
      have HB18 := Lib.hid (bseq HB17.out hb18)
      clear hb18
      go_wp2_with fail
      refine (works_any w18 (HT.out.on HB18.out)).mono ?_
      rintro e w19 ⟨rfl, hb19⟩
      go_wp2_with fail
      go_ret
      exact ⟨rfl, bseq HB18.out hb19⟩
set_option maxHeartbeats 8000000 in
theorem fnBackward_any (l : List Fl) (n : Int) (a : Option Addr) (cap : Nat) (w : World) (hs : SL w w.heap.size a cap l) (ht : Tab w) : Calls Tryz.prog 3 #[.slice a l.length cap, .int .i64 n] w (RetB w true) := by
  by_cases hlen : (l.length : Int) > 2147483647
  · clear hs ht
    go_enter Tryz.func3, Tryz.ntmps3
    go_wp2_with fail
    (try simp only [Exit.inBlock, Exit.then])
    refine bodyPost_ret (results_tmp rfl _ _ _) rfl ?_
    exact ⟨rfl, Below.refl _ _⟩
  by_cases hn : n < 1
  · clear hs ht
    go_enter Tryz.func3, Tryz.ntmps3
    go_wp2_with fail
    (try simp only [Exit.inBlock, Exit.then])
    refine bodyPost_ret (results_tmp rfl _ _ _) rfl ?_
    exact ⟨rfl, Below.refl _ _⟩
  by_cases hn9 : 9 < n
  · clear hs ht
    go_enter Tryz.func3, Tryz.ntmps3
    go_wp2_with fail
    (try simp only [Exit.inBlock, Exit.then])
    refine bodyPost_ret (results_tmp rfl _ _ _) rfl ?_
    exact ⟨rfl, Below.refl _ _⟩
  cases hh : hasL n l with
  | true =>
    have ch := hasl_any n l a cap w hs
    rw [hh] at ch
    have CH := Lib.hid ch
    clear ch hs ht hh
    go_enter Tryz.func3, Tryz.ntmps3
    go_wp2_with fail
    refine (CH.out).mono ?_
    rintro e w1 ⟨rfl, hb1⟩
    go_wp2_with fail
    (try simp only [Exit.inBlock, Exit.then])
    refine bodyPost_ret (results_tmp rfl _ _ _) rfl ?_
    exact ⟨rfl, hb1⟩
  | false =>
    cases hv : validL l with
    | false =>
      have ch := hasl_any n l a cap w hs
      rw [hh] at ch
      have CH := Lib.hid ch
      have HV := Lib.hid hv
      have HS := Lib.hid hs
      clear ch hs ht hh hv
      go_enter Tryz.func3, Tryz.ntmps3
      go_wp2_with fail
      refine (CH.out).mono ?_
      rintro e w1 ⟨rfl, hb1⟩
      have cv := valid_any _ _ _ _ w1 (HS.out.up hb1) (Nat.le_refl _)
      rw [HV.out] at cv
      have CV := Lib.hid cv
      have HB1 := Lib.hid hb1
      clear cv hb1
      go_wp2_with fail
      refine (CV.out).mono ?_
      rintro e w2 ⟨rfl, hb2⟩
      go_wp2_with fail
      (try simp only [Exit.inBlock, Exit.then])
      refine bodyPost_ret (results_tmp rfl _ _ _) rfl ?_
      exact ⟨rfl, bseq HB1.out hb2⟩
    | true => exact fnBackward_main l n (by omega) (by omega) hlen hh hv a cap w hs ht
end Go.Proofs.YtpodifbgfcclbaaGreatDoor
