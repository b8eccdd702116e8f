/- FnLoop: what the law's function answers. -/
import Derived.Test.YtpodifbgfcclbaaGreatDoorLawLab
set_option linter.unusedVariables false
set_option linter.unusedSimpArgs false
namespace Go.Proofs.YtpodifbgfcclbaaGreatDoor
open Go.RowKit
attribute [local go_sem] Nat.lt_add_one_of_lt

set_option maxHeartbeats 8000000 in
theorem fnLoop_main3 (l : List Fl) (n : Int) (hn1 : 1 ≤ n) (hn2 : n ≤ 9) (hlen : ¬ (l.length : Int) > 2147483647) (hvl : validL l = true) (a : Option Addr) (cap : Nat) (w : World) (hs : SL w w.heap.size a cap l) (ht : Tab w) : Calls Tryz.prog 16 #[.slice a l.length cap, .int .i64 3, .int .i64 n] w (RetB w true) := by
  obtain ⟨L, hL⟩ : ∃ L, L = l ++ [jmpF 12 n] := ⟨_, rfl⟩
  have hLl : L.length * 48 ≤ 140737488355328 := by rw [hL, List.length_append, List.length_singleton]; omega
  have hll : (l.length + [jmpF 12 n].length) * 48 ≤ 140737488355328 := by rw [List.length_singleton]; omega
  have law1 : teL [labF n (ofF 3 [L])] = false := by rw [hL]; exact law_loop1 n 3 hn1 (by decide) l
  have cv := valid_any _ _ _ _ w hs (Nat.le_refl _)
  rw [hvl] at cv
  have CV := Lib.hid cv
  have HS := Lib.hid hs
  have HT := Lib.hid ht
  have LAW1 := Lib.hid law1
  have HL := Lib.hid hL
  have HLL := Lib.hid hLl
  have HLW := Lib.hid hll
  clear cv hs ht hvl law1 hL hLl hll
  go_enter Tryz.func16, Tryz.ntmps16
  go_wp2_with fail
  refine (CV.out).mono ?_
  rintro e w1 ⟨rfl, hb1⟩
  have s1 := HS.out.up hb1
  obtain ⟨W2, hW2⟩ : ∃ W2, W2 = (w1.alloc (.cells #[.slice a l.length cap] 22)).alloc (.cells #[.int .i64 3, .int .i64 0, .int .i64 0, .slice (some ⟨w1.heap.size, 0, none⟩) 1 1] 27) := ⟨_, rfl⟩
  obtain ⟨hb2, hz2, hs2⟩ := one_mk s1 hW2
  have c3 := labeled_any n 3 0 0 _ _ _ W2 hs2
  have hb02 := bseq hb1 hb2
  have C3 := Lib.hid c3
  have HB2 := Lib.hid hb02
  have HW2 := Lib.hid hW2
  clear hb1 s1 hb2 hz2 hs2 c3 hb02 hW2
  go_wp2_with fail
  refine (of_any 3 _ 1 1 _).mono ?_
  rintro e _ ⟨rfl, rfl⟩
  go_wp2_with fail
  rw [← HW2.out]
  refine (C3.out).mono ?_
  rintro e w3 ⟨a3, rfl, hs3, hb3⟩
  have hb03 := bseq HB2.out hb3
  obtain ⟨W4, hW4⟩ : ∃ W4, W4 = w3.alloc (.cells #[.int .i64 10, .int .i64 n, .int .i64 0, .slice a3 1 1] 27) := ⟨_, rfl⟩
  have hx4 := one_cells hW4
  have hb34 : Below w3.heap.size w3 W4 := by rw [hW4]; exact bal _ _
  have hz4 : W4.heap.size = w3.heap.size + 1 := by rw [hW4]; simp
  obtain ⟨W5, hW5⟩ : ∃ W5, W5 = W4.alloc (.cells #[.int .i64 12, .int .i64 n, .int .i64 0, .slice none 0 0] 27) := ⟨_, rfl⟩
  obtain ⟨hb45, hz5, hs5⟩ := one_full (w := W4) (SLL.nil) hW5
  rw [hz4] at hs5
  have hb05 := bseq (bseq hb03 hb34) hb45
  have c6 := with_any l [jmpF 12 n] a cap _ 1 W5 (HS.out.up hb05) hs5 (by simp) HLW.out
  rw [← HL.out] at c6
  have hs34 : SLL W4 W4.heap.size a3 1 [[.mk 3 0 0 [l]]] := hs3.up hb34
  have C6 := Lib.hid c6
  have HB5 := Lib.hid hb05
  have HX4 := Lib.hid hx4
  have HS34 := Lib.hid hs34
  have HB45 := Lib.hid hb45
  have HW5 := Lib.hid (hW5.trans (by rw [hW4]))
  clear hs3 hb3 hb03 hx4 hb34 hz5 hs5 hb05 c6 hs34 hb45 hW4 hW5 hz4
  go_wp2_with fail
  rw [← HW5.out]
  refine (C6.out).mono ?_
  rintro e w6 ⟨g6, cap6, rfl, hrw6, hb6⟩
  have hs6 := hrw6.sl HLL.out hb6.size
  have hb06 := bseq HB5.out hb6
  obtain ⟨W8, hW8⟩ : ∃ W8, W8 = (w6.alloc (.cells #[.slice (some ⟨g6, 0, none⟩) L.length cap6] 22)).alloc (.cells #[.int .i64 3, .int .i64 0, .int .i64 0, .slice (some ⟨w6.heap.size, 0, none⟩) 1 1] 27) := ⟨_, rfl⟩
  obtain ⟨hb8, hz8, hs8⟩ := one_mk hs6 hW8
  have c9 := labeled_any n 3 0 0 _ _ _ W8 hs8
  have hb48 := bseq (bseq HB45.out hb6) hb8
  have hb08 := bseq hb06 hb8
  have C9 := Lib.hid c9
  have HB8 := Lib.hid hb08
  have HB48 := Lib.hid hb48
  have HW8 := Lib.hid hW8
  clear hrw6 hs6 hb6 hb06 hb8 hz8 hs8 c9 hb48 hb08 hW8
  go_wp2_with fail
  refine (of_any 3 _ 1 1 _).mono ?_
  rintro e _ ⟨rfl, rfl⟩
  go_wp2_with fail
  rw [← HW8.out]
  refine (C9.out).mono ?_
  rintro e w9 ⟨a9, rfl, hs9, hb9⟩
  obtain ⟨W10, hW10⟩ : ∃ W10, W10 = w9.alloc (.cells #[.int .i64 10, .int .i64 n, .int .i64 0, .slice a9 1 1] 27) := ⟨_, rfl⟩
  have hy10 := one_cells hW10
  have hb910 : Below w9.heap.size w9 W10 := by rw [hW10]; exact bal _ _
  have hb410 := bseq (bseq HB48.out hb9) hb910
  have hb010 := bseq (bseq HB8.out hb9) hb910
  have hz10 : W10.heap.size = w9.heap.size + 1 := by rw [hW10]; simp
  obtain ⟨x0, x1, x2, x3, xl⟩ := HX4.out w9 (bseq HB48.out hb9)
  obtain ⟨W11, hW11⟩ : ∃ W11, W11 = W10.alloc (.cells #[.int .i64 10, .int .i64 n, .int .i64 0, .slice a3 1 1] 27) := ⟨_, rfl⟩
  obtain ⟨hb11, hz11, hs11⟩ := one_full (HS34.out.up hb410) hW11
  have c12 := valid_any _ _ _ _ W11 hs11 (Nat.le_refl _)
  have hs910 : SLL W10 W10.heap.size a9 1 [[.mk 3 0 0 [L]]] := hs9.up hb910
  have C12 := Lib.hid c12
  have HY10 := Lib.hid hy10
  have HS910 := Lib.hid hs910
  have HB410 := Lib.hid hb410
  have HB010 := Lib.hid hb010
  have HB11 := Lib.hid hb11
  have HW10 := Lib.hid hW10
  rw [hz10] at C12
  have HW11 := Lib.hid (hW11.trans (by rw [hW10]))
  clear hs9 hb9 hy10 hb910 hb410 hb010 hb11 hz11 hs11 c12 hs910 hW10 hW11 hz10
  go_wp2_with fail
  rw [← HW11.out]
  refine (C12.out).mono ?_
  rintro e w12 ⟨rfl, hb12⟩
  have hb012 := bseq (bseq HB010.out HB11.out) hb12
  have hb1012 := bseq HB11.out hb12
  have HB12 := Lib.hid hb012
  have HB1012 := Lib.hid hb1012
  clear hb12 hb012 hb1012 x0 x1 x2 x3 xl
  cases hvx : validL [.mk 10 n 0 [[.mk 3 0 0 [l]]]] with
  | false =>
    clear hvx
    go_wp2_with fail
    (try simp only [Exit.inBlock, Exit.then])
    refine bodyPost_ret (results_tmp rfl _ _ _) rfl ?_
    exact ⟨rfl, HB12.out⟩
  | true =>
    obtain ⟨y0, y1, y2, y3, yl⟩ := HY10.out w12 HB1012.out
    obtain ⟨W13, hW13⟩ : ∃ W13, W13 = w12.alloc (.cells #[.int .i64 10, .int .i64 n, .int .i64 0, .slice a9 1 1] 27) := ⟨_, rfl⟩
    obtain ⟨hb13, hz13, hs13⟩ := one_full (HS910.out.up HB1012.out) hW13
    have c14 := valid_any _ _ _ _ W13 hs13 (Nat.le_refl _)
    have C14 := Lib.hid c14
    have HB13 := Lib.hid hb13
    have HW13 := Lib.hid hW13
    have HVX := Lib.hid hvx
    clear hb13 hz13 hs13 c14 hW13 hvx
    go_wp2_with fail
    rw [← HW13.out]
    refine (C14.out).mono ?_
    rintro e w14 ⟨rfl, hb14⟩
    have hb014 := bseq (bseq HB12.out HB13.out) hb14
    have hb1014 := bseq (bseq HB1012.out HB13.out) hb14
    have HB14 := Lib.hid hb014
    have HB1014 := Lib.hid hb1014
    clear hb14 hb014 hb1014 y0 y1 y2 y3 yl
    cases hvy : validL [.mk 10 n 0 [[.mk 3 0 0 [L]]]] with
    | false =>
      clear hvy
      go_wp2_with fail
      (try simp only [Exit.inBlock, Exit.then])
      refine bodyPost_ret (results_tmp rfl _ _ _) rfl ?_
      exact ⟨rfl, HB14.out⟩
    | true =>
      obtain ⟨y0, y1, y2, y3, yl⟩ := HY10.out w14 HB1014.out
      obtain ⟨W15, hW15⟩ : ∃ W15, W15 = w14.alloc (.cells #[.int .i64 10, .int .i64 n, .int .i64 0, .slice a9 1 1] 27) := ⟨_, rfl⟩
      obtain ⟨hb15, hz15, hs15⟩ := one_full (HS910.out.up HB1014.out) hW15
      have hb015 := bseq HB14.out hb15
      have c16 := ends_any _ _ _ W15 hs15 (HT.out.on hb015) hvy
      rw [show teL [.mk 10 n 0 [[.mk 3 0 0 [L]]]] = false from LAW1.out] at c16
      have C16 := Lib.hid c16
      have HB15 := Lib.hid hb015
      have HB1015 := Lib.hid (bseq HB1014.out hb15)
      have HW15 := Lib.hid hW15
      clear hb15 hz15 hs15 c16 hW15 hvy hb015
      go_wp2_with fail
      rw [← HW15.out]
      refine (C16.out).mono ?_
      rintro e w16 ⟨rfl, hb16⟩
      have hb016 := bseq HB15.out hb16
      have hb1016 := bseq HB1015.out hb16
      have HB16 := Lib.hid hb016
      have HB1016 := Lib.hid hb1016
      clear hb16 hb016 hb1016 y0 y1 y2 y3 yl
      have cw := works_any w16 (HT.out.on HB16.out)
      have CW := Lib.hid cw
      clear cw
      go_wp2_with fail
      refine (CW.out).mono ?_
      rintro e w18 ⟨rfl, hb18⟩
      go_wp2_with fail
      go_ret
      exact ⟨rfl, bseq HB16.out hb18⟩
set_option maxHeartbeats 8000000 in
theorem fnLoop_main4 (l : List Fl) (n : Int) (hn1 : 1 ≤ n) (hn2 : n ≤ 9) (hlen : ¬ (l.length : Int) > 2147483647) (hvl : validL l = true) (a : Option Addr) (cap : Nat) (w : World) (hs : SL w w.heap.size a cap l) (ht : Tab w) : Calls Tryz.prog 16 #[.slice a l.length cap, .int .i64 4, .int .i64 n] w (RetB w true) := by
  obtain ⟨L, hL⟩ : ∃ L, L = l ++ [jmpF 12 n] := ⟨_, rfl⟩
  have hLl : L.length * 48 ≤ 140737488355328 := by rw [hL, List.length_append, List.length_singleton]; omega
  have hll : (l.length + [jmpF 12 n].length) * 48 ≤ 140737488355328 := by rw [List.length_singleton]; omega
  have law1 : teL [labF n (ofF 4 [L])] = false := by rw [hL]; exact law_loop1 n 4 hn1 (by decide) l
  have law2 : teL [labF n (ofF 4 [l])] = false := law_loop2 n 4 (by decide) l
  have LAW2 := Lib.hid law2
  clear law2
  have cv := valid_any _ _ _ _ w hs (Nat.le_refl _)
  rw [hvl] at cv
  have CV := Lib.hid cv
  have HS := Lib.hid hs
  have HT := Lib.hid ht
  have LAW1 := Lib.hid law1
  have HL := Lib.hid hL
  have HLL := Lib.hid hLl
  have HLW := Lib.hid hll
  clear cv hs ht hvl law1 hL hLl hll
  go_enter Tryz.func16, Tryz.ntmps16
  go_wp2_with fail
  refine (CV.out).mono ?_
  rintro e w1 ⟨rfl, hb1⟩
  have s1 := HS.out.up hb1
  obtain ⟨W2, hW2⟩ : ∃ W2, W2 = (w1.alloc (.cells #[.slice a l.length cap] 22)).alloc (.cells #[.int .i64 4, .int .i64 0, .int .i64 0, .slice (some ⟨w1.heap.size, 0, none⟩) 1 1] 27) := ⟨_, rfl⟩
  obtain ⟨hb2, hz2, hs2⟩ := one_mk s1 hW2
  have c3 := labeled_any n 4 0 0 _ _ _ W2 hs2
  have hb02 := bseq hb1 hb2
  have C3 := Lib.hid c3
  have HB2 := Lib.hid hb02
  have HW2 := Lib.hid hW2
  clear hb1 s1 hb2 hz2 hs2 c3 hb02 hW2
  go_wp2_with fail
  refine (of_any 4 _ 1 1 _).mono ?_
  rintro e _ ⟨rfl, rfl⟩
  go_wp2_with fail
  rw [← HW2.out]
  refine (C3.out).mono ?_
  rintro e w3 ⟨a3, rfl, hs3, hb3⟩
  have hb03 := bseq HB2.out hb3
  obtain ⟨W4, hW4⟩ : ∃ W4, W4 = w3.alloc (.cells #[.int .i64 10, .int .i64 n, .int .i64 0, .slice a3 1 1] 27) := ⟨_, rfl⟩
  have hx4 := one_cells hW4
  have hb34 : Below w3.heap.size w3 W4 := by rw [hW4]; exact bal _ _
  have hz4 : W4.heap.size = w3.heap.size + 1 := by rw [hW4]; simp
  obtain ⟨W5, hW5⟩ : ∃ W5, W5 = W4.alloc (.cells #[.int .i64 12, .int .i64 n, .int .i64 0, .slice none 0 0] 27) := ⟨_, rfl⟩
  obtain ⟨hb45, hz5, hs5⟩ := one_full (w := W4) (SLL.nil) hW5
  rw [hz4] at hs5
  have hb05 := bseq (bseq hb03 hb34) hb45
  have c6 := with_any l [jmpF 12 n] a cap _ 1 W5 (HS.out.up hb05) hs5 (by simp) HLW.out
  rw [← HL.out] at c6
  have hs34 : SLL W4 W4.heap.size a3 1 [[.mk 4 0 0 [l]]] := hs3.up hb34
  have C6 := Lib.hid c6
  have HB5 := Lib.hid hb05
  have HX4 := Lib.hid hx4
  have HS34 := Lib.hid hs34
  have HB45 := Lib.hid hb45
  have HW5 := Lib.hid (hW5.trans (by rw [hW4]))
  clear hs3 hb3 hb03 hx4 hb34 hz5 hs5 hb05 c6 hs34 hb45 hW4 hW5 hz4
  go_wp2_with fail
  rw [← HW5.out]
  refine (C6.out).mono ?_
  rintro e w6 ⟨g6, cap6, rfl, hrw6, hb6⟩
  have hs6 := hrw6.sl HLL.out hb6.size
  have hb06 := bseq HB5.out hb6
  obtain ⟨W8, hW8⟩ : ∃ W8, W8 = (w6.alloc (.cells #[.slice (some ⟨g6, 0, none⟩) L.length cap6] 22)).alloc (.cells #[.int .i64 4, .int .i64 0, .int .i64 0, .slice (some ⟨w6.heap.size, 0, none⟩) 1 1] 27) := ⟨_, rfl⟩
  obtain ⟨hb8, hz8, hs8⟩ := one_mk hs6 hW8
  have c9 := labeled_any n 4 0 0 _ _ _ W8 hs8
  have hb48 := bseq (bseq HB45.out hb6) hb8
  have hb08 := bseq hb06 hb8
  have C9 := Lib.hid c9
  have HB8 := Lib.hid hb08
  have HB48 := Lib.hid hb48
  have HW8 := Lib.hid hW8
  clear hrw6 hs6 hb6 hb06 hb8 hz8 hs8 c9 hb48 hb08 hW8
  go_wp2_with fail
  refine (of_any 4 _ 1 1 _).mono ?_
  rintro e _ ⟨rfl, rfl⟩
  go_wp2_with fail
  rw [← HW8.out]
  refine (C9.out).mono ?_
  rintro e w9 ⟨a9, rfl, hs9, hb9⟩
  obtain ⟨W10, hW10⟩ : ∃ W10, W10 = w9.alloc (.cells #[.int .i64 10, .int .i64 n, .int .i64 0, .slice a9 1 1] 27) := ⟨_, rfl⟩
  have hy10 := one_cells hW10
  have hb910 : Below w9.heap.size w9 W10 := by rw [hW10]; exact bal _ _
  have hb410 := bseq (bseq HB48.out hb9) hb910
  have hb010 := bseq (bseq HB8.out hb9) hb910
  have hz10 : W10.heap.size = w9.heap.size + 1 := by rw [hW10]; simp
  obtain ⟨x0, x1, x2, x3, xl⟩ := HX4.out w9 (bseq HB48.out hb9)
  obtain ⟨W11, hW11⟩ : ∃ W11, W11 = W10.alloc (.cells #[.int .i64 10, .int .i64 n, .int .i64 0, .slice a3 1 1] 27) := ⟨_, rfl⟩
  obtain ⟨hb11, hz11, hs11⟩ := one_full (HS34.out.up hb410) hW11
  have c12 := valid_any _ _ _ _ W11 hs11 (Nat.le_refl _)
  have hs910 : SLL W10 W10.heap.size a9 1 [[.mk 4 0 0 [L]]] := hs9.up hb910
  have C12 := Lib.hid c12
  have HY10 := Lib.hid hy10
  have HS910 := Lib.hid hs910
  have HB410 := Lib.hid hb410
  have HB010 := Lib.hid hb010
  have HB11 := Lib.hid hb11
  have HW10 := Lib.hid hW10
  rw [hz10] at C12
  have HW11 := Lib.hid (hW11.trans (by rw [hW10]))
  clear hs9 hb9 hy10 hb910 hb410 hb010 hb11 hz11 hs11 c12 hs910 hW10 hW11 hz10
  go_wp2_with fail
  rw [← HW11.out]
  refine (C12.out).mono ?_
  rintro e w12 ⟨rfl, hb12⟩
  have hb012 := bseq (bseq HB010.out HB11.out) hb12
  have hb1012 := bseq HB11.out hb12
  have HB12 := Lib.hid hb012
  have HB1012 := Lib.hid hb1012
  clear hb12 hb012 hb1012 x0 x1 x2 x3 xl
  cases hvx : validL [.mk 10 n 0 [[.mk 4 0 0 [l]]]] with
  | false =>
    clear hvx
    go_wp2_with fail
    (try simp only [Exit.inBlock, Exit.then])
    refine bodyPost_ret (results_tmp rfl _ _ _) rfl ?_
    exact ⟨rfl, HB12.out⟩
  | true =>
    obtain ⟨y0, y1, y2, y3, yl⟩ := HY10.out w12 HB1012.out
    obtain ⟨W13, hW13⟩ : ∃ W13, W13 = w12.alloc (.cells #[.int .i64 10, .int .i64 n, .int .i64 0, .slice a9 1 1] 27) := ⟨_, rfl⟩
    obtain ⟨hb13, hz13, hs13⟩ := one_full (HS910.out.up HB1012.out) hW13
    have c14 := valid_any _ _ _ _ W13 hs13 (Nat.le_refl _)
    have C14 := Lib.hid c14
    have HB13 := Lib.hid hb13
    have HW13 := Lib.hid hW13
    have HVX := Lib.hid hvx
    clear hb13 hz13 hs13 c14 hW13 hvx
    go_wp2_with fail
    rw [← HW13.out]
    refine (C14.out).mono ?_
    rintro e w14 ⟨rfl, hb14⟩
    have hb014 := bseq (bseq HB12.out HB13.out) hb14
    have hb1014 := bseq (bseq HB1012.out HB13.out) hb14
    have HB14 := Lib.hid hb014
    have HB1014 := Lib.hid hb1014
    clear hb14 hb014 hb1014 y0 y1 y2 y3 yl
    cases hvy : validL [.mk 10 n 0 [[.mk 4 0 0 [L]]]] with
    | false =>
      clear hvy
      go_wp2_with fail
      (try simp only [Exit.inBlock, Exit.then])
      refine bodyPost_ret (results_tmp rfl _ _ _) rfl ?_
      exact ⟨rfl, HB14.out⟩
    | true =>
      obtain ⟨y0, y1, y2, y3, yl⟩ := HY10.out w14 HB1014.out
      obtain ⟨W15, hW15⟩ : ∃ W15, W15 = w14.alloc (.cells #[.int .i64 10, .int .i64 n, .int .i64 0, .slice a9 1 1] 27) := ⟨_, rfl⟩
      obtain ⟨hb15, hz15, hs15⟩ := one_full (HS910.out.up HB1014.out) hW15
      have hb015 := bseq HB14.out hb15
      have c16 := ends_any _ _ _ W15 hs15 (HT.out.on hb015) hvy
      rw [show teL [.mk 10 n 0 [[.mk 4 0 0 [L]]]] = false from LAW1.out] at c16
      have C16 := Lib.hid c16
      have HB15 := Lib.hid hb015
      have HB1015 := Lib.hid (bseq HB1014.out hb15)
      have HW15 := Lib.hid hW15
      clear hb15 hz15 hs15 c16 hW15 hvy hb015
      go_wp2_with fail
      rw [← HW15.out]
      refine (C16.out).mono ?_
      rintro e w16 ⟨rfl, hb16⟩
      have hb016 := bseq HB15.out hb16
      have hb1016 := bseq HB1015.out hb16
      have HB16 := Lib.hid hb016
      have HB1016 := Lib.hid hb1016
      clear hb16 hb016 hb1016 y0 y1 y2 y3 yl
      have hb416 := bseq HB410.out HB1016.out
      obtain ⟨x0, x1, x2, x3, xl⟩ := HX4.out w16 hb416
      obtain ⟨W17, hW17⟩ : ∃ W17, W17 = w16.alloc (.cells #[.int .i64 10, .int .i64 n, .int .i64 0, .slice a3 1 1] 27) := ⟨_, rfl⟩
      obtain ⟨hb17, hz17, hs17⟩ := one_full (HS34.out.up hb416) hW17
      have hb017 := bseq HB16.out hb17
      have c18 := ends_any _ _ _ W17 hs17 (HT.out.on hb017) HVX.out
      rw [show teL [.mk 10 n 0 [[.mk 4 0 0 [l]]]] = false from LAW2.out] at c18
      have C18 := Lib.hid c18
      have HB17 := Lib.hid hb017
      have HW17 := Lib.hid hW17
      clear hb17 hz17 hs17 c18 hW17 hb017 hb416
      go_wp2_with fail
      rw [← HW17.out]
      refine (C18.out).mono ?_
      rintro e w18 ⟨rfl, hb18⟩
      have cw := works_any w18 (HT.out.on (bseq HB17.out hb18))
      have CW := Lib.hid cw
      have HB18 := Lib.hid (bseq HB17.out hb18)
      clear cw hb18 x0 x1 x2 x3 xl
      go_wp2_with fail
      refine (CW.out).mono ?_
      rintro e w19 ⟨rfl, hb19⟩
      go_wp2_with fail
      go_ret
      exact ⟨rfl, bseq HB18.out hb19⟩
set_option maxHeartbeats 8000000 in
theorem fnLoop_main5 (l : List Fl) (n : Int) (hn1 : 1 ≤ n) (hn2 : n ≤ 9) (hlen : ¬ (l.length : Int) > 2147483647) (hvl : validL l = true) (a : Option Addr) (cap : Nat) (w : World) (hs : SL w w.heap.size a cap l) (ht : Tab w) : Calls Tryz.prog 16 #[.slice a l.length cap, .int .i64 5, .int .i64 n] w (RetB w true) := by
  obtain ⟨L, hL⟩ : ∃ L, L = l ++ [jmpF 12 n] := ⟨_, rfl⟩
  have hLl : L.length * 48 ≤ 140737488355328 := by rw [hL, List.length_append, List.length_singleton]; omega
  have hll : (l.length + [jmpF 12 n].length) * 48 ≤ 140737488355328 := by rw [List.length_singleton]; omega
  have law1 : teL [labF n (ofF 5 [L])] = false := by rw [hL]; exact law_loop1 n 5 hn1 (by decide) l
  have law2 : teL [labF n (ofF 5 [l])] = false := law_loop2 n 5 (by decide) l
  have LAW2 := Lib.hid law2
  clear law2
  have cv := valid_any _ _ _ _ w hs (Nat.le_refl _)
  rw [hvl] at cv
  have CV := Lib.hid cv
  have HS := Lib.hid hs
  have HT := Lib.hid ht
  have LAW1 := Lib.hid law1
  have HL := Lib.hid hL
  have HLL := Lib.hid hLl
  have HLW := Lib.hid hll
  clear cv hs ht hvl law1 hL hLl hll
  go_enter Tryz.func16, Tryz.ntmps16
  go_wp2_with fail
  refine (CV.out).mono ?_
  rintro e w1 ⟨rfl, hb1⟩
  have s1 := HS.out.up hb1
  obtain ⟨W2, hW2⟩ : ∃ W2, W2 = (w1.alloc (.cells #[.slice a l.length cap] 22)).alloc (.cells #[.int .i64 5, .int .i64 0, .int .i64 0, .slice (some ⟨w1.heap.size, 0, none⟩) 1 1] 27) := ⟨_, rfl⟩
  obtain ⟨hb2, hz2, hs2⟩ := one_mk s1 hW2
  have c3 := labeled_any n 5 0 0 _ _ _ W2 hs2
  have hb02 := bseq hb1 hb2
  have C3 := Lib.hid c3
  have HB2 := Lib.hid hb02
  have HW2 := Lib.hid hW2
  clear hb1 s1 hb2 hz2 hs2 c3 hb02 hW2
  go_wp2_with fail
  refine (of_any 5 _ 1 1 _).mono ?_
  rintro e _ ⟨rfl, rfl⟩
  go_wp2_with fail
  rw [← HW2.out]
  refine (C3.out).mono ?_
  rintro e w3 ⟨a3, rfl, hs3, hb3⟩
  have hb03 := bseq HB2.out hb3
  obtain ⟨W4, hW4⟩ : ∃ W4, W4 = w3.alloc (.cells #[.int .i64 10, .int .i64 n, .int .i64 0, .slice a3 1 1] 27) := ⟨_, rfl⟩
  have hx4 := one_cells hW4
  have hb34 : Below w3.heap.size w3 W4 := by rw [hW4]; exact bal _ _
  have hz4 : W4.heap.size = w3.heap.size + 1 := by rw [hW4]; simp
  obtain ⟨W5, hW5⟩ : ∃ W5, W5 = W4.alloc (.cells #[.int .i64 12, .int .i64 n, .int .i64 0, .slice none 0 0] 27) := ⟨_, rfl⟩
  obtain ⟨hb45, hz5, hs5⟩ := one_full (w := W4) (SLL.nil) hW5
  rw [hz4] at hs5
  have hb05 := bseq (bseq hb03 hb34) hb45
  have c6 := with_any l [jmpF 12 n] a cap _ 1 W5 (HS.out.up hb05) hs5 (by simp) HLW.out
  rw [← HL.out] at c6
  have hs34 : SLL W4 W4.heap.size a3 1 [[.mk 5 0 0 [l]]] := hs3.up hb34
  have C6 := Lib.hid c6
  have HB5 := Lib.hid hb05
  have HX4 := Lib.hid hx4
  have HS34 := Lib.hid hs34
  have HB45 := Lib.hid hb45
  have HW5 := Lib.hid (hW5.trans (by rw [hW4]))
  clear hs3 hb3 hb03 hx4 hb34 hz5 hs5 hb05 c6 hs34 hb45 hW4 hW5 hz4
  go_wp2_with fail
  rw [← HW5.out]
  refine (C6.out).mono ?_
  rintro e w6 ⟨g6, cap6, rfl, hrw6, hb6⟩
  have hs6 := hrw6.sl HLL.out hb6.size
  have hb06 := bseq HB5.out hb6
  obtain ⟨W8, hW8⟩ : ∃ W8, W8 = (w6.alloc (.cells #[.slice (some ⟨g6, 0, none⟩) L.length cap6] 22)).alloc (.cells #[.int .i64 5, .int .i64 0, .int .i64 0, .slice (some ⟨w6.heap.size, 0, none⟩) 1 1] 27) := ⟨_, rfl⟩
  obtain ⟨hb8, hz8, hs8⟩ := one_mk hs6 hW8
  have c9 := labeled_any n 5 0 0 _ _ _ W8 hs8
  have hb48 := bseq (bseq HB45.out hb6) hb8
  have hb08 := bseq hb06 hb8
  have C9 := Lib.hid c9
  have HB8 := Lib.hid hb08
  have HB48 := Lib.hid hb48
  have HW8 := Lib.hid hW8
  clear hrw6 hs6 hb6 hb06 hb8 hz8 hs8 c9 hb48 hb08 hW8
  go_wp2_with fail
  refine (of_any 5 _ 1 1 _).mono ?_
  rintro e _ ⟨rfl, rfl⟩
  go_wp2_with fail
  rw [← HW8.out]
  refine (C9.out).mono ?_
  rintro e w9 ⟨a9, rfl, hs9, hb9⟩
  obtain ⟨W10, hW10⟩ : ∃ W10, W10 = w9.alloc (.cells #[.int .i64 10, .int .i64 n, .int .i64 0, .slice a9 1 1] 27) := ⟨_, rfl⟩
  have hy10 := one_cells hW10
  have hb910 : Below w9.heap.size w9 W10 := by rw [hW10]; exact bal _ _
  have hb410 := bseq (bseq HB48.out hb9) hb910
  have hb010 := bseq (bseq HB8.out hb9) hb910
  have hz10 : W10.heap.size = w9.heap.size + 1 := by rw [hW10]; simp
  obtain ⟨x0, x1, x2, x3, xl⟩ := HX4.out w9 (bseq HB48.out hb9)
  obtain ⟨W11, hW11⟩ : ∃ W11, W11 = W10.alloc (.cells #[.int .i64 10, .int .i64 n, .int .i64 0, .slice a3 1 1] 27) := ⟨_, rfl⟩
  obtain ⟨hb11, hz11, hs11⟩ := one_full (HS34.out.up hb410) hW11
  have c12 := valid_any _ _ _ _ W11 hs11 (Nat.le_refl _)
  have hs910 : SLL W10 W10.heap.size a9 1 [[.mk 5 0 0 [L]]] := hs9.up hb910
  have C12 := Lib.hid c12
  have HY10 := Lib.hid hy10
  have HS910 := Lib.hid hs910
  have HB410 := Lib.hid hb410
  have HB010 := Lib.hid hb010
  have HB11 := Lib.hid hb11
  have HW10 := Lib.hid hW10
  rw [hz10] at C12
  have HW11 := Lib.hid (hW11.trans (by rw [hW10]))
  clear hs9 hb9 hy10 hb910 hb410 hb010 hb11 hz11 hs11 c12 hs910 hW10 hW11 hz10
  go_wp2_with fail
  rw [← HW11.out]
  refine (C12.out).mono ?_
  rintro e w12 ⟨rfl, hb12⟩
  have hb012 := bseq (bseq HB010.out HB11.out) hb12
  have hb1012 := bseq HB11.out hb12
  have HB12 := Lib.hid hb012
  have HB1012 := Lib.hid hb1012
  clear hb12 hb012 hb1012 x0 x1 x2 x3 xl
  cases hvx : validL [.mk 10 n 0 [[.mk 5 0 0 [l]]]] with
  | false =>
    clear hvx
    go_wp2_with fail
    (try simp only [Exit.inBlock, Exit.then])
    refine bodyPost_ret (results_tmp rfl _ _ _) rfl ?_
    exact ⟨rfl, HB12.out⟩
  | true =>
    obtain ⟨y0, y1, y2, y3, yl⟩ := HY10.out w12 HB1012.out
    obtain ⟨W13, hW13⟩ : ∃ W13, W13 = w12.alloc (.cells #[.int .i64 10, .int .i64 n, .int .i64 0, .slice a9 1 1] 27) := ⟨_, rfl⟩
    obtain ⟨hb13, hz13, hs13⟩ := one_full (HS910.out.up HB1012.out) hW13
    have c14 := valid_any _ _ _ _ W13 hs13 (Nat.le_refl _)
    have C14 := Lib.hid c14
    have HB13 := Lib.hid hb13
    have HW13 := Lib.hid hW13
    have HVX := Lib.hid hvx
    clear hb13 hz13 hs13 c14 hW13 hvx
    go_wp2_with fail
    rw [← HW13.out]
    refine (C14.out).mono ?_
    rintro e w14 ⟨rfl, hb14⟩
    have hb014 := bseq (bseq HB12.out HB13.out) hb14
    have hb1014 := bseq (bseq HB1012.out HB13.out) hb14
    have HB14 := Lib.hid hb014
    have HB1014 := Lib.hid hb1014
    clear hb14 hb014 hb1014 y0 y1 y2 y3 yl
    cases hvy : validL [.mk 10 n 0 [[.mk 5 0 0 [L]]]] with
    | false =>
      clear hvy
      go_wp2_with fail
      (try simp only [Exit.inBlock, Exit.then])
      refine bodyPost_ret (results_tmp rfl _ _ _) rfl ?_
      exact ⟨rfl, HB14.out⟩
    | true =>
      obtain ⟨y0, y1, y2, y3, yl⟩ := HY10.out w14 HB1014.out
      obtain ⟨W15, hW15⟩ : ∃ W15, W15 = w14.alloc (.cells #[.int .i64 10, .int .i64 n, .int .i64 0, .slice a9 1 1] 27) := ⟨_, rfl⟩
      obtain ⟨hb15, hz15, hs15⟩ := one_full (HS910.out.up HB1014.out) hW15
      have hb015 := bseq HB14.out hb15
      have c16 := ends_any _ _ _ W15 hs15 (HT.out.on hb015) hvy
      rw [show teL [.mk 10 n 0 [[.mk 5 0 0 [L]]]] = false from LAW1.out] at c16
      have C16 := Lib.hid c16
      have HB15 := Lib.hid hb015
      have HB1015 := Lib.hid (bseq HB1014.out hb15)
      have HW15 := Lib.hid hW15
      clear hb15 hz15 hs15 c16 hW15 hvy hb015
      go_wp2_with fail
      rw [← HW15.out]
      refine (C16.out).mono ?_
      rintro e w16 ⟨rfl, hb16⟩
      have hb016 := bseq HB15.out hb16
      have hb1016 := bseq HB1015.out hb16
      have HB16 := Lib.hid hb016
      have HB1016 := Lib.hid hb1016
      clear hb16 hb016 hb1016 y0 y1 y2 y3 yl
      have hb416 := bseq HB410.out HB1016.out
      obtain ⟨x0, x1, x2, x3, xl⟩ := HX4.out w16 hb416
      obtain ⟨W17, hW17⟩ : ∃ W17, W17 = w16.alloc (.cells #[.int .i64 10, .int .i64 n, .int .i64 0, .slice a3 1 1] 27) := ⟨_, rfl⟩
      obtain ⟨hb17, hz17, hs17⟩ := one_full (HS34.out.up hb416) hW17
      have hb017 := bseq HB16.out hb17
      have c18 := ends_any _ _ _ W17 hs17 (HT.out.on hb017) HVX.out
      rw [show teL [.mk 10 n 0 [[.mk 5 0 0 [l]]]] = false from LAW2.out] at c18
      have C18 := Lib.hid c18
      have HB17 := Lib.hid hb017
      have HW17 := Lib.hid hW17
      clear hb17 hz17 hs17 c18 hW17 hb017 hb416
      go_wp2_with fail
      rw [← HW17.out]
      refine (C18.out).mono ?_
      rintro e w18 ⟨rfl, hb18⟩
      have cw := works_any w18 (HT.out.on (bseq HB17.out hb18))
      have CW := Lib.hid cw
      have HB18 := Lib.hid (bseq HB17.out hb18)
      clear cw hb18 x0 x1 x2 x3 xl
      go_wp2_with fail
      refine (CW.out).mono ?_
      rintro e w19 ⟨rfl, hb19⟩
      go_wp2_with fail
      go_ret
      exact ⟨rfl, bseq HB18.out hb19⟩
set_option maxHeartbeats 8000000 in
theorem fnLoop_any (l : List Fl) (k n : Int) (a : Option Addr) (cap : Nat) (w : World) (hs : SL w w.heap.size a cap l) (ht : Tab w) : Calls Tryz.prog 16 #[.slice a l.length cap, .int .i64 k, .int .i64 n] w (RetB w true) := by
  by_cases hlen : (l.length : Int) > 2147483647
  · clear hs ht
    go_enter Tryz.func16, Tryz.ntmps16
    go_wp2_with fail
    (try simp only [Exit.inBlock, Exit.then])
    refine bodyPost_ret (results_tmp rfl _ _ _) rfl ?_
    exact ⟨rfl, Below.refl _ _⟩
  by_cases hk : k = 3 ∨ k = 4 ∨ k = 5
  · by_cases hn : 1 ≤ n ∧ n ≤ 9
    · obtain ⟨hn1, hn2⟩ := hn
      have cv := valid_any _ _ _ _ w hs (Nat.le_refl _)
      have CV := Lib.hid cv
      have HS := Lib.hid hs
      have HT := Lib.hid ht
      clear cv hs ht
      cases hvl : validL l with
      | false =>
        rw [hvl] at CV
        rcases hk with rfl | rfl | rfl
        all_goals
          go_enter Tryz.func16, Tryz.ntmps16
          go_wp2_with fail
          refine (CV.out).mono ?_
          rintro e w4 ⟨rfl, hb4⟩
          go_wp2_with fail
          (try simp only [Exit.inBlock, Exit.then])
          refine bodyPost_ret (results_tmp rfl _ _ _) rfl ?_
          exact ⟨rfl, hb4⟩
      | true =>
        rw [hvl] at CV
        have hvl' := hvl
        clear CV hvl
        rcases hk with rfl | rfl | rfl
        · exact fnLoop_main3 l n hn1 hn2 hlen hvl' a cap w HS.out HT.out
        · exact fnLoop_main4 l n hn1 hn2 hlen hvl' a cap w HS.out HT.out
        · exact fnLoop_main5 l n hn1 hn2 hlen hvl' a cap w HS.out HT.out
    · have hn' : n < 1 ∨ (1 ≤ n ∧ 9 < n) := by omega
      clear hs ht hn
      rcases hk with rfl | rfl | rfl
      all_goals
        rcases hn' with hc | ⟨hc1, hc2⟩
        all_goals
          go_enter Tryz.func16, Tryz.ntmps16
          go_wp2_with fail
          (try simp only [Exit.inBlock, Exit.then])
          refine bodyPost_ret (results_tmp rfl _ _ _) rfl ?_
          exact ⟨rfl, Below.refl _ _⟩
  · have h3 : ¬ k = 3 := fun h => hk (.inl h)
    have h4 : ¬ k = 4 := fun h => hk (.inr (.inl h))
    have h5 : ¬ k = 5 := fun h => hk (.inr (.inr h))
    clear hk hs ht
    go_enter Tryz.func16, Tryz.ntmps16
    go_wp2_with fail
    (try simp only [Exit.inBlock, Exit.then])
    refine bodyPost_ret (results_tmp rfl _ _ _) rfl ?_
    exact ⟨rfl, Below.refl _ _⟩
end Go.Proofs.YtpodifbgfcclbaaGreatDoor
