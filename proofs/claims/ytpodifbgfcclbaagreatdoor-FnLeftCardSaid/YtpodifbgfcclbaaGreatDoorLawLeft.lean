/- FnLeft: what the law's function answers. -/
import Derived.Test.YtpodifbgfcclbaaGreatDoorLawApp
import Derived.Test.YtpodifbgfcclbaaGreatDoorLawBlk
set_option linter.unusedVariables false
set_option linter.unusedSimpArgs false
namespace Go.Proofs.YtpodifbgfcclbaaGreatDoor
open Go.RowKit
attribute [local go_sem] Nat.lt_add_one_of_lt

set_option maxHeartbeats 8000000 in
theorem fnLeft_main0 (l : List Fl) (n : Int) (hn1 : 1 ≤ n) (hn2 : n ≤ 9) (hlen : ¬ (l.length : Int) > 2147483647) (hh : hasL n l = false) (hvl : validL l = true) (a : Option Addr) (cap : Nat) (w : World) (hs : SL w w.heap.size a cap l) (ht : Tab w) : Calls Tryz.prog 14 #[.slice a l.length cap, .int .i64 2, .int .i64 n, .bool false] w (RetB w true) := by
  obtain ⟨L, hL⟩ : ∃ L, L = l ++ [jmpF 12 n] := ⟨_, rfl⟩
  have hLl : L.length * 48 ≤ 140737488355328 := by rw [hL, List.length_append, List.length_singleton]; omega
  have hll : (l.length + [jmpF 12 n].length) * 48 ≤ 140737488355328 := by rw [List.length_singleton]; omega
  have hj : jumpsJ [labF n (ofF 2 [l ++ [jmpF (if false then 13 else 12) n]])] = jumpsJ [labF n (ofF 2 [L])] := by rw [hL]; rfl
  have law : jumpsJ [labF n (ofF 2 [L])] = false := by
    rw [← hj]
    rw [law_left n 2 hn1 (by decide) (by decide) false l hh]
    simp [contK, breakK]
  have ch := hasl_any n l a cap w hs
  rw [hh] at ch
  have CH := Lib.hid ch
  have HS := Lib.hid hs
  have HT := Lib.hid ht
  have LAW := Lib.hid law
  have HL := Lib.hid hL
  have HLL := Lib.hid hLl
  have HLW := Lib.hid hll
  have HVL := Lib.hid hvl
  clear ch hs ht hh law hL hLl hll hvl hj
  go_enter Tryz.func14, Tryz.ntmps14
  go_wp2_with fail
  refine (CH.out).mono ?_
  rintro e w1 ⟨rfl, hb1⟩
  have cv := valid_any _ _ _ _ w1 (HS.out.up hb1) (Nat.le_refl _)
  rw [HVL.out] at cv
  have CV := Lib.hid cv
  have HB1 := Lib.hid hb1
  clear cv hb1
  go_wp2_with fail
  refine (CV.out).mono ?_
  rintro e w2 ⟨rfl, hb2⟩
  have hb02 := bseq HB1.out hb2
  obtain ⟨W3, hW3⟩ : ∃ W3, W3 = (w2.alloc (.cells #[.int .i64 12, .int .i64 n, .int .i64 0, .slice none 0 0] 27)).alloc (.cells #[.int .i64 12, .int .i64 n, .int .i64 0, .slice none 0 0] 27) := ⟨_, rfl⟩
  obtain ⟨W30, hW30⟩ : ∃ W30, W30 = w2.alloc (.cells #[.int .i64 12, .int .i64 n, .int .i64 0, .slice none 0 0] 27) := ⟨_, rfl⟩
  have hb30 : Below w2.heap.size w2 W30 := by rw [hW30]; exact bal _ _
  have hz30 : W30.heap.size = w2.heap.size + 1 := by rw [hW30]; simp
  obtain ⟨hb33, hz3, hs3⟩ := one_full (w := W30) SLL.nil (show W3 = W30.alloc (.cells #[.int .i64 12, .int .i64 n, .int .i64 0, .slice none ([] : List (List Fl)).length 0] 27) by rw [hW3, hW30]; rfl)
  rw [hz30] at hs3
  have hb03 := bseq (bseq hb02 hb30) hb33
  have c4 := with_any l [jmpF 12 n] a cap _ 1 W3 (HS.out.up hb03) hs3 (by simp) HLW.out
  rw [← HL.out] at c4
  have C4 := Lib.hid c4
  have HB3 := Lib.hid hb03
  have HW3 := Lib.hid hW3
  clear hb2 hb02 hW30 hb30 hz30 hb33 hz3 hs3 hb03 c4 hW3
  go_wp2_with fail
  rw [← HW3.out]
  refine (C4.out).mono ?_
  rintro e w4 ⟨g4, cap4, rfl, hrw4, hb4⟩
  have hs4 := hrw4.sl HLL.out hb4.size
  have hb04 := bseq HB3.out hb4
  obtain ⟨W6, hW6⟩ : ∃ W6, W6 = (w4.alloc (.cells #[.slice (some ⟨g4, 0, none⟩) L.length cap4] 22)).alloc (.cells #[.int .i64 2, .int .i64 0, .int .i64 0, .slice (some ⟨w4.heap.size, 0, none⟩) 1 1] 27) := ⟨_, rfl⟩
  obtain ⟨hb6, hz6, hs6⟩ := one_mk hs4 hW6
  have c7 := labeled_any n 2 0 0 _ _ _ W6 hs6
  have HB6 := Lib.hid (bseq hb04 hb6)
  have C7 := Lib.hid c7
  have HW6 := Lib.hid hW6
  clear hrw4 hs4 hb4 hb04 hW6 hb6 hz6 hs6 c7
  go_wp2_with fail
  refine (of_any 2 _ 1 1 _).mono ?_
  rintro e _ ⟨rfl, rfl⟩
  go_wp2_with fail
  rw [← HW6.out]
  refine (C7.out).mono ?_
  rintro e w7 ⟨a7, rfl, hs7, hb7⟩
  have hb07 := bseq HB6.out hb7
  obtain ⟨W8, hW8⟩ : ∃ W8, W8 = w7.alloc (.cells #[.int .i64 10, .int .i64 n, .int .i64 0, .slice a7 1 1] 27) := ⟨_, rfl⟩
  obtain ⟨hb8, hz8, hs8⟩ := one_full hs7 hW8
  have hb08 := bseq hb07 hb8
  obtain ⟨W11, hW11⟩ : ∃ W11, W11 = ((W8.alloc (.cells #[.slice a l.length cap] 22)).alloc (.cells #[.int .i64 2, .int .i64 0, .int .i64 0, .slice (some ⟨W8.heap.size, 0, none⟩) 1 1] 27)).alloc (.cells #[.int .i64 2, .int .i64 0, .int .i64 0, .slice (some ⟨W8.heap.size, 0, none⟩) 1 1] 27) := ⟨_, rfl⟩
  obtain ⟨hb11, hz11, hs11⟩ := one_list (HS.out.up hb08) hW11
  rw [hz8] at hs11
  have hsb : SL W11 W11.heap.size (some ⟨w7.heap.size + 3, 0, none⟩) 1 [ofF 2 [l]] := hs11
  have hsa : SL W11 W11.heap.size (some ⟨w7.heap.size, 0, none⟩) 1 [labF n (ofF 2 [L])] := hs8.up hb11
  rw [hz8, hW8] at hW11
  have cva := valid_any _ _ _ _ W11 hsa (Nat.le_refl _)
  have CVA := Lib.hid cva
  have HB11 := Lib.hid (bseq hb08 hb11)
  have HSA := Lib.hid hsa
  have HSB := Lib.hid hsb
  have HW11 := Lib.hid hW11
  clear hs7 hb7 hb07 hW8 hb8 hz8 hs8 hb08 hb11 hz11 hs11 hsb hsa hW11 cva
  go_wp2_with fail
  refine (of_any 2 _ 1 1 _).mono ?_
  rintro e _ ⟨rfl, rfl⟩
  go_wp2_with fail
  rw [← HW11.out]
  refine (CVA.out).mono ?_
  rintro e w12 ⟨rfl, hb12⟩
  have HB12 := Lib.hid (bseq HB11.out hb12)
  have HSA12 := Lib.hid (HSA.out.up hb12)
  have HSB12 := Lib.hid (HSB.out.up hb12)
  clear hb12
  cases hva : validL [labF n (ofF 2 [L])] with
  | false =>
    clear hva
    go_wp2_with fail
    (try simp only [Exit.inBlock, Exit.then])
    refine bodyPost_ret (results_tmp rfl _ _ _) rfl ?_
    exact ⟨rfl, HB12.out⟩
  | true =>
    have cvb := valid_any _ _ _ _ w12 HSB12.out (Nat.le_refl _)
    have CVB := Lib.hid cvb
    have HVA := Lib.hid hva
    clear cvb hva
    go_wp2_with fail
    refine (CVB.out).mono ?_
    rintro e w13 ⟨rfl, hb13⟩
    have HB13 := Lib.hid (bseq HB12.out hb13)
    have HSA13 := Lib.hid (HSA12.out.up hb13)
    have HSB13 := Lib.hid (HSB12.out.up hb13)
    clear hb13
    cases hvb : validL [ofF 2 [l]] with
    | false =>
      clear hvb
      go_wp2_with fail
      (try simp only [Exit.inBlock, Exit.then])
      refine bodyPost_ret (results_tmp rfl _ _ _) rfl ?_
      exact ⟨rfl, HB13.out⟩
    | true =>
      have cja := jumps_any _ _ _ w13 HSA13.out (HT.out.on HB13.out) HVA.out
      rw [LAW.out] at cja
      have CJA := Lib.hid cja
      have HVB := Lib.hid hvb
      clear cja hvb
      go_wp2_with fail
      refine (CJA.out).mono ?_
      rintro e w14 ⟨rfl, hb14⟩
      have HB14 := Lib.hid (bseq HB13.out hb14)
      have HSB14 := Lib.hid (HSB13.out.up hb14)
      clear hb14
      obtain ⟨w15, hw15⟩ : ∃ w15, w15 = w14 := ⟨_, rfl⟩
      obtain rfl := hw15
      have HB15 := HB14
      have cw := works_any w15 (HT.out.on HB15.out)
      have CW := Lib.hid cw
      clear cw
      go_wp2_with fail
      refine (CW.out).mono ?_
      rintro e w16 ⟨rfl, hb16⟩
      go_wp2_with fail
      go_ret
      refine ⟨?_, bseq HB15.out hb16⟩
      first | rfl | (simp [h2, h9, h3, h4, h5]; done) | (simp [h2, h9]; done)
set_option maxHeartbeats 8000000 in
theorem fnLeft_main1 (l : List Fl) (n : Int) (hn1 : 1 ≤ n) (hn2 : n ≤ 9) (hlen : ¬ (l.length : Int) > 2147483647) (hh : hasL n l = false) (hvl : validL l = true) (a : Option Addr) (cap : Nat) (w : World) (hs : SL w w.heap.size a cap l) (ht : Tab w) : Calls Tryz.prog 14 #[.slice a l.length cap, .int .i64 9, .int .i64 n, .bool false] w (RetB w true) := by
  obtain ⟨L, hL⟩ : ∃ L, L = l ++ [jmpF 12 n] := ⟨_, rfl⟩
  have hLl : L.length * 48 ≤ 140737488355328 := by rw [hL, List.length_append, List.length_singleton]; omega
  have hll : (l.length + [jmpF 12 n].length) * 48 ≤ 140737488355328 := by rw [List.length_singleton]; omega
  have hj : jumpsJ [labF n (ofF 9 [l ++ [jmpF (if false then 13 else 12) n]])] = jumpsJ [labF n (ofF 9 [L])] := by rw [hL]; rfl
  have law : jumpsJ [labF n (ofF 9 [L])] = false := by
    rw [← hj]
    rw [law_left n 9 hn1 (by decide) (by decide) false l hh]
    simp [contK, breakK]
  have ch := hasl_any n l a cap w hs
  rw [hh] at ch
  have CH := Lib.hid ch
  have HS := Lib.hid hs
  have HT := Lib.hid ht
  have LAW := Lib.hid law
  have HL := Lib.hid hL
  have HLL := Lib.hid hLl
  have HLW := Lib.hid hll
  have HVL := Lib.hid hvl
  clear ch hs ht hh law hL hLl hll hvl hj
  go_enter Tryz.func14, Tryz.ntmps14
  go_wp2_with fail
  refine (CH.out).mono ?_
  rintro e w1 ⟨rfl, hb1⟩
  have cv := valid_any _ _ _ _ w1 (HS.out.up hb1) (Nat.le_refl _)
  rw [HVL.out] at cv
  have CV := Lib.hid cv
  have HB1 := Lib.hid hb1
  clear cv hb1
  go_wp2_with fail
  refine (CV.out).mono ?_
  rintro e w2 ⟨rfl, hb2⟩
  have hb02 := bseq HB1.out hb2
  obtain ⟨W3, hW3⟩ : ∃ W3, W3 = (w2.alloc (.cells #[.int .i64 12, .int .i64 n, .int .i64 0, .slice none 0 0] 27)).alloc (.cells #[.int .i64 12, .int .i64 n, .int .i64 0, .slice none 0 0] 27) := ⟨_, rfl⟩
  obtain ⟨W30, hW30⟩ : ∃ W30, W30 = w2.alloc (.cells #[.int .i64 12, .int .i64 n, .int .i64 0, .slice none 0 0] 27) := ⟨_, rfl⟩
  have hb30 : Below w2.heap.size w2 W30 := by rw [hW30]; exact bal _ _
  have hz30 : W30.heap.size = w2.heap.size + 1 := by rw [hW30]; simp
  obtain ⟨hb33, hz3, hs3⟩ := one_full (w := W30) SLL.nil (show W3 = W30.alloc (.cells #[.int .i64 12, .int .i64 n, .int .i64 0, .slice none ([] : List (List Fl)).length 0] 27) by rw [hW3, hW30]; rfl)
  rw [hz30] at hs3
  have hb03 := bseq (bseq hb02 hb30) hb33
  have c4 := with_any l [jmpF 12 n] a cap _ 1 W3 (HS.out.up hb03) hs3 (by simp) HLW.out
  rw [← HL.out] at c4
  have C4 := Lib.hid c4
  have HB3 := Lib.hid hb03
  have HW3 := Lib.hid hW3
  clear hb2 hb02 hW30 hb30 hz30 hb33 hz3 hs3 hb03 c4 hW3
  go_wp2_with fail
  rw [← HW3.out]
  refine (C4.out).mono ?_
  rintro e w4 ⟨g4, cap4, rfl, hrw4, hb4⟩
  have hs4 := hrw4.sl HLL.out hb4.size
  have hb04 := bseq HB3.out hb4
  obtain ⟨W6, hW6⟩ : ∃ W6, W6 = (w4.alloc (.cells #[.slice (some ⟨g4, 0, none⟩) L.length cap4] 22)).alloc (.cells #[.int .i64 9, .int .i64 0, .int .i64 0, .slice (some ⟨w4.heap.size, 0, none⟩) 1 1] 27) := ⟨_, rfl⟩
  obtain ⟨hb6, hz6, hs6⟩ := one_mk hs4 hW6
  have c7 := labeled_any n 9 0 0 _ _ _ W6 hs6
  have HB6 := Lib.hid (bseq hb04 hb6)
  have C7 := Lib.hid c7
  have HW6 := Lib.hid hW6
  clear hrw4 hs4 hb4 hb04 hW6 hb6 hz6 hs6 c7
  go_wp2_with fail
  refine (of_any 9 _ 1 1 _).mono ?_
  rintro e _ ⟨rfl, rfl⟩
  go_wp2_with fail
  rw [← HW6.out]
  refine (C7.out).mono ?_
  rintro e w7 ⟨a7, rfl, hs7, hb7⟩
  have hb07 := bseq HB6.out hb7
  obtain ⟨W8, hW8⟩ : ∃ W8, W8 = w7.alloc (.cells #[.int .i64 10, .int .i64 n, .int .i64 0, .slice a7 1 1] 27) := ⟨_, rfl⟩
  obtain ⟨hb8, hz8, hs8⟩ := one_full hs7 hW8
  have hb08 := bseq hb07 hb8
  obtain ⟨W11, hW11⟩ : ∃ W11, W11 = ((W8.alloc (.cells #[.slice a l.length cap] 22)).alloc (.cells #[.int .i64 9, .int .i64 0, .int .i64 0, .slice (some ⟨W8.heap.size, 0, none⟩) 1 1] 27)).alloc (.cells #[.int .i64 9, .int .i64 0, .int .i64 0, .slice (some ⟨W8.heap.size, 0, none⟩) 1 1] 27) := ⟨_, rfl⟩
  obtain ⟨hb11, hz11, hs11⟩ := one_list (HS.out.up hb08) hW11
  rw [hz8] at hs11
  have hsb : SL W11 W11.heap.size (some ⟨w7.heap.size + 3, 0, none⟩) 1 [ofF 9 [l]] := hs11
  have hsa : SL W11 W11.heap.size (some ⟨w7.heap.size, 0, none⟩) 1 [labF n (ofF 9 [L])] := hs8.up hb11
  rw [hz8, hW8] at hW11
  have cva := valid_any _ _ _ _ W11 hsa (Nat.le_refl _)
  have CVA := Lib.hid cva
  have HB11 := Lib.hid (bseq hb08 hb11)
  have HSA := Lib.hid hsa
  have HSB := Lib.hid hsb
  have HW11 := Lib.hid hW11
  clear hs7 hb7 hb07 hW8 hb8 hz8 hs8 hb08 hb11 hz11 hs11 hsb hsa hW11 cva
  go_wp2_with fail
  refine (of_any 9 _ 1 1 _).mono ?_
  rintro e _ ⟨rfl, rfl⟩
  go_wp2_with fail
  rw [← HW11.out]
  refine (CVA.out).mono ?_
  rintro e w12 ⟨rfl, hb12⟩
  have HB12 := Lib.hid (bseq HB11.out hb12)
  have HSA12 := Lib.hid (HSA.out.up hb12)
  have HSB12 := Lib.hid (HSB.out.up hb12)
  clear hb12
  cases hva : validL [labF n (ofF 9 [L])] with
  | false =>
    clear hva
    go_wp2_with fail
    (try simp only [Exit.inBlock, Exit.then])
    refine bodyPost_ret (results_tmp rfl _ _ _) rfl ?_
    exact ⟨rfl, HB12.out⟩
  | true =>
    have cvb := valid_any _ _ _ _ w12 HSB12.out (Nat.le_refl _)
    have CVB := Lib.hid cvb
    have HVA := Lib.hid hva
    clear cvb hva
    go_wp2_with fail
    refine (CVB.out).mono ?_
    rintro e w13 ⟨rfl, hb13⟩
    have HB13 := Lib.hid (bseq HB12.out hb13)
    have HSA13 := Lib.hid (HSA12.out.up hb13)
    have HSB13 := Lib.hid (HSB12.out.up hb13)
    clear hb13
    cases hvb : validL [ofF 9 [l]] with
    | false =>
      clear hvb
      go_wp2_with fail
      (try simp only [Exit.inBlock, Exit.then])
      refine bodyPost_ret (results_tmp rfl _ _ _) rfl ?_
      exact ⟨rfl, HB13.out⟩
    | true =>
      have cja := jumps_any _ _ _ w13 HSA13.out (HT.out.on HB13.out) HVA.out
      rw [LAW.out] at cja
      have CJA := Lib.hid cja
      have HVB := Lib.hid hvb
      clear cja hvb
      go_wp2_with fail
      refine (CJA.out).mono ?_
      rintro e w14 ⟨rfl, hb14⟩
      have HB14 := Lib.hid (bseq HB13.out hb14)
      have HSB14 := Lib.hid (HSB13.out.up hb14)
      clear hb14
      obtain ⟨w15, hw15⟩ : ∃ w15, w15 = w14 := ⟨_, rfl⟩
      obtain rfl := hw15
      have HB15 := HB14
      have cw := works_any w15 (HT.out.on HB15.out)
      have CW := Lib.hid cw
      clear cw
      go_wp2_with fail
      refine (CW.out).mono ?_
      rintro e w16 ⟨rfl, hb16⟩
      go_wp2_with fail
      go_ret
      refine ⟨?_, bseq HB15.out hb16⟩
      first | rfl | (simp [h2, h9, h3, h4, h5]; done) | (simp [h2, h9]; done)
set_option maxHeartbeats 8000000 in
theorem fnLeft_main2 (l : List Fl) (k : Int) (n : Int) (hn1 : 1 ≤ n) (hn2 : n ≤ 9) (hk1 : 2 ≤ k) (hk2 : k ≤ 9) (h2 : ¬ k = 2) (h9 : ¬ k = 9) (hlen : ¬ (l.length : Int) > 2147483647) (hh : hasL n l = false) (hvl : validL l = true) (a : Option Addr) (cap : Nat) (w : World) (hs : SL w w.heap.size a cap l) (ht : Tab w) : Calls Tryz.prog 14 #[.slice a l.length cap, .int .i64 k, .int .i64 n, .bool false] w (RetB w true) := by
  obtain ⟨L, hL⟩ : ∃ L, L = l ++ [jmpF 12 n] := ⟨_, rfl⟩
  have hLl : L.length * 48 ≤ 140737488355328 := by rw [hL, List.length_append, List.length_singleton]; omega
  have hll : (l.length + [jmpF 12 n].length) * 48 ≤ 140737488355328 := by rw [List.length_singleton]; omega
  have hj : jumpsJ [labF n (ofF k [l ++ [jmpF (if false then 13 else 12) n]])] = jumpsJ [labF n (ofF k [L])] := by rw [hL]; rfl
  have law : jumpsJ [labF n (ofF k [L])] = jumpsJ [ofF k [l]] := by
    rw [← hj]
    rw [law_left n k hn1 hk1 hk2 false l hh]
    have : breakK k = true := by simp [breakK]; omega
    simp [this]
  have ch := hasl_any n l a cap w hs
  rw [hh] at ch
  have CH := Lib.hid ch
  have HS := Lib.hid hs
  have HT := Lib.hid ht
  have LAW := Lib.hid law
  have HL := Lib.hid hL
  have HLL := Lib.hid hLl
  have HLW := Lib.hid hll
  have HVL := Lib.hid hvl
  clear ch hs ht hh law hL hLl hll hvl hj
  go_enter Tryz.func14, Tryz.ntmps14
  go_wp2_with fail
  refine (CH.out).mono ?_
  rintro e w1 ⟨rfl, hb1⟩
  have cv := valid_any _ _ _ _ w1 (HS.out.up hb1) (Nat.le_refl _)
  rw [HVL.out] at cv
  have CV := Lib.hid cv
  have HB1 := Lib.hid hb1
  clear cv hb1
  go_wp2_with fail
  refine (CV.out).mono ?_
  rintro e w2 ⟨rfl, hb2⟩
  have hb02 := bseq HB1.out hb2
  obtain ⟨W3, hW3⟩ : ∃ W3, W3 = (w2.alloc (.cells #[.int .i64 12, .int .i64 n, .int .i64 0, .slice none 0 0] 27)).alloc (.cells #[.int .i64 12, .int .i64 n, .int .i64 0, .slice none 0 0] 27) := ⟨_, rfl⟩
  obtain ⟨W30, hW30⟩ : ∃ W30, W30 = w2.alloc (.cells #[.int .i64 12, .int .i64 n, .int .i64 0, .slice none 0 0] 27) := ⟨_, rfl⟩
  have hb30 : Below w2.heap.size w2 W30 := by rw [hW30]; exact bal _ _
  have hz30 : W30.heap.size = w2.heap.size + 1 := by rw [hW30]; simp
  obtain ⟨hb33, hz3, hs3⟩ := one_full (w := W30) SLL.nil (show W3 = W30.alloc (.cells #[.int .i64 12, .int .i64 n, .int .i64 0, .slice none ([] : List (List Fl)).length 0] 27) by rw [hW3, hW30]; rfl)
  rw [hz30] at hs3
  have hb03 := bseq (bseq hb02 hb30) hb33
  have c4 := with_any l [jmpF 12 n] a cap _ 1 W3 (HS.out.up hb03) hs3 (by simp) HLW.out
  rw [← HL.out] at c4
  have C4 := Lib.hid c4
  have HB3 := Lib.hid hb03
  have HW3 := Lib.hid hW3
  clear hb2 hb02 hW30 hb30 hz30 hb33 hz3 hs3 hb03 c4 hW3
  go_wp2_with fail
  rw [← HW3.out]
  refine (C4.out).mono ?_
  rintro e w4 ⟨g4, cap4, rfl, hrw4, hb4⟩
  have hs4 := hrw4.sl HLL.out hb4.size
  have hb04 := bseq HB3.out hb4
  obtain ⟨W6, hW6⟩ : ∃ W6, W6 = (w4.alloc (.cells #[.slice (some ⟨g4, 0, none⟩) L.length cap4] 22)).alloc (.cells #[.int .i64 k, .int .i64 0, .int .i64 0, .slice (some ⟨w4.heap.size, 0, none⟩) 1 1] 27) := ⟨_, rfl⟩
  obtain ⟨hb6, hz6, hs6⟩ := one_mk hs4 hW6
  have c7 := labeled_any n k 0 0 _ _ _ W6 hs6
  have HB6 := Lib.hid (bseq hb04 hb6)
  have C7 := Lib.hid c7
  have HW6 := Lib.hid hW6
  clear hrw4 hs4 hb4 hb04 hW6 hb6 hz6 hs6 c7
  go_wp2_with fail
  refine (of_any k _ 1 1 _).mono ?_
  rintro e _ ⟨rfl, rfl⟩
  go_wp2_with fail
  rw [← HW6.out]
  refine (C7.out).mono ?_
  rintro e w7 ⟨a7, rfl, hs7, hb7⟩
  have hb07 := bseq HB6.out hb7
  obtain ⟨W8, hW8⟩ : ∃ W8, W8 = w7.alloc (.cells #[.int .i64 10, .int .i64 n, .int .i64 0, .slice a7 1 1] 27) := ⟨_, rfl⟩
  obtain ⟨hb8, hz8, hs8⟩ := one_full hs7 hW8
  have hb08 := bseq hb07 hb8
  obtain ⟨W11, hW11⟩ : ∃ W11, W11 = ((W8.alloc (.cells #[.slice a l.length cap] 22)).alloc (.cells #[.int .i64 k, .int .i64 0, .int .i64 0, .slice (some ⟨W8.heap.size, 0, none⟩) 1 1] 27)).alloc (.cells #[.int .i64 k, .int .i64 0, .int .i64 0, .slice (some ⟨W8.heap.size, 0, none⟩) 1 1] 27) := ⟨_, rfl⟩
  obtain ⟨hb11, hz11, hs11⟩ := one_list (HS.out.up hb08) hW11
  rw [hz8] at hs11
  have hsb : SL W11 W11.heap.size (some ⟨w7.heap.size + 3, 0, none⟩) 1 [ofF k [l]] := hs11
  have hsa : SL W11 W11.heap.size (some ⟨w7.heap.size, 0, none⟩) 1 [labF n (ofF k [L])] := hs8.up hb11
  rw [hz8, hW8] at hW11
  have cva := valid_any _ _ _ _ W11 hsa (Nat.le_refl _)
  have CVA := Lib.hid cva
  have HB11 := Lib.hid (bseq hb08 hb11)
  have HSA := Lib.hid hsa
  have HSB := Lib.hid hsb
  have HW11 := Lib.hid hW11
  clear hs7 hb7 hb07 hW8 hb8 hz8 hs8 hb08 hb11 hz11 hs11 hsb hsa hW11 cva
  go_wp2_with fail
  refine (of_any k _ 1 1 _).mono ?_
  rintro e _ ⟨rfl, rfl⟩
  go_wp2_with fail
  rw [← HW11.out]
  refine (CVA.out).mono ?_
  rintro e w12 ⟨rfl, hb12⟩
  have HB12 := Lib.hid (bseq HB11.out hb12)
  have HSA12 := Lib.hid (HSA.out.up hb12)
  have HSB12 := Lib.hid (HSB.out.up hb12)
  clear hb12
  cases hva : validL [labF n (ofF k [L])] with
  | false =>
    clear hva
    go_wp2_with fail
    (try simp only [Exit.inBlock, Exit.then])
    refine bodyPost_ret (results_tmp rfl _ _ _) rfl ?_
    exact ⟨rfl, HB12.out⟩
  | true =>
    have cvb := valid_any _ _ _ _ w12 HSB12.out (Nat.le_refl _)
    have CVB := Lib.hid cvb
    have HVA := Lib.hid hva
    clear cvb hva
    go_wp2_with fail
    refine (CVB.out).mono ?_
    rintro e w13 ⟨rfl, hb13⟩
    have HB13 := Lib.hid (bseq HB12.out hb13)
    have HSA13 := Lib.hid (HSA12.out.up hb13)
    have HSB13 := Lib.hid (HSB12.out.up hb13)
    clear hb13
    cases hvb : validL [ofF k [l]] with
    | false =>
      clear hvb
      go_wp2_with fail
      (try simp only [Exit.inBlock, Exit.then])
      refine bodyPost_ret (results_tmp rfl _ _ _) rfl ?_
      exact ⟨rfl, HB13.out⟩
    | true =>
      have cja := jumps_any _ _ _ w13 HSA13.out (HT.out.on HB13.out) HVA.out
      rw [LAW.out] at cja
      have CJA := Lib.hid cja
      have HVB := Lib.hid hvb
      clear cja hvb
      go_wp2_with fail
      refine (CJA.out).mono ?_
      rintro e w14 ⟨rfl, hb14⟩
      have HB14 := Lib.hid (bseq HB13.out hb14)
      have HSB14 := Lib.hid (HSB13.out.up hb14)
      clear hb14
      have cjb := jumps_any _ _ _ w14 HSB14.out (HT.out.on HB14.out) HVB.out
      have CJB := Lib.hid cjb
      clear cjb
      go_wp2_with fail
      refine (CJB.out).mono ?_
      rintro e w15 ⟨rfl, hb15⟩
      have HB15 := Lib.hid (bseq HB14.out hb15)
      have heq : (jumpsJ [ofF k [l]] == jumpsJ [ofF k [l]]) = true := by simp
      clear hb15
      have cw := works_any w15 (HT.out.on HB15.out)
      have CW := Lib.hid cw
      clear cw
      go_wp2_with fail
      refine (CW.out).mono ?_
      rintro e w16 ⟨rfl, hb16⟩
      go_wp2_with fail
      go_ret
      refine ⟨?_, bseq HB15.out hb16⟩
      first | rfl | (simp [h2, h9, h3, h4, h5]; done) | (simp [h2, h9]; done)
set_option maxHeartbeats 8000000 in
theorem fnLeft_main3 (l : List Fl) (n : Int) (hn1 : 1 ≤ n) (hn2 : n ≤ 9) (hlen : ¬ (l.length : Int) > 2147483647) (hh : hasL n l = false) (hvl : validL l = true) (a : Option Addr) (cap : Nat) (w : World) (hs : SL w w.heap.size a cap l) (ht : Tab w) : Calls Tryz.prog 14 #[.slice a l.length cap, .int .i64 2, .int .i64 n, .bool true] w (RetB w true) := by
  obtain ⟨L, hL⟩ : ∃ L, L = l ++ [jmpF 13 n] := ⟨_, rfl⟩
  have hLl : L.length * 48 ≤ 140737488355328 := by rw [hL, List.length_append, List.length_singleton]; omega
  have hll : (l.length + [jmpF 13 n].length) * 48 ≤ 140737488355328 := by rw [List.length_singleton]; omega
  have hj : jumpsJ [labF n (ofF 2 [l ++ [jmpF (if true then 13 else 12) n]])] = jumpsJ [labF n (ofF 2 [L])] := by rw [hL]; rfl
  have law : jumpsJ [labF n (ofF 2 [L])] = false := by
    rw [← hj]
    rw [law_left n 2 hn1 (by decide) (by decide) true l hh]
    simp [contK, breakK]
  have ch := hasl_any n l a cap w hs
  rw [hh] at ch
  have CH := Lib.hid ch
  have HS := Lib.hid hs
  have HT := Lib.hid ht
  have LAW := Lib.hid law
  have HL := Lib.hid hL
  have HLL := Lib.hid hLl
  have HLW := Lib.hid hll
  have HVL := Lib.hid hvl
  clear ch hs ht hh law hL hLl hll hvl hj
  go_enter Tryz.func14, Tryz.ntmps14
  go_wp2_with fail
  refine (CH.out).mono ?_
  rintro e w1 ⟨rfl, hb1⟩
  have cv := valid_any _ _ _ _ w1 (HS.out.up hb1) (Nat.le_refl _)
  rw [HVL.out] at cv
  have CV := Lib.hid cv
  have HB1 := Lib.hid hb1
  clear cv hb1
  go_wp2_with fail
  refine (CV.out).mono ?_
  rintro e w2 ⟨rfl, hb2⟩
  have hb02 := bseq HB1.out hb2
  obtain ⟨W3, hW3⟩ : ∃ W3, W3 = (w2.alloc (.cells #[.int .i64 13, .int .i64 n, .int .i64 0, .slice none 0 0] 27)).alloc (.cells #[.int .i64 13, .int .i64 n, .int .i64 0, .slice none 0 0] 27) := ⟨_, rfl⟩
  obtain ⟨W30, hW30⟩ : ∃ W30, W30 = w2.alloc (.cells #[.int .i64 13, .int .i64 n, .int .i64 0, .slice none 0 0] 27) := ⟨_, rfl⟩
  have hb30 : Below w2.heap.size w2 W30 := by rw [hW30]; exact bal _ _
  have hz30 : W30.heap.size = w2.heap.size + 1 := by rw [hW30]; simp
  obtain ⟨hb33, hz3, hs3⟩ := one_full (w := W30) SLL.nil (show W3 = W30.alloc (.cells #[.int .i64 13, .int .i64 n, .int .i64 0, .slice none ([] : List (List Fl)).length 0] 27) by rw [hW3, hW30]; rfl)
  rw [hz30] at hs3
  have hb03 := bseq (bseq hb02 hb30) hb33
  have c4 := with_any l [jmpF 13 n] a cap _ 1 W3 (HS.out.up hb03) hs3 (by simp) HLW.out
  rw [← HL.out] at c4
  have C4 := Lib.hid c4
  have HB3 := Lib.hid hb03
  have HW3 := Lib.hid hW3
  clear hb2 hb02 hW30 hb30 hz30 hb33 hz3 hs3 hb03 c4 hW3
  go_wp2_with fail
  rw [← HW3.out]
  refine (C4.out).mono ?_
  rintro e w4 ⟨g4, cap4, rfl, hrw4, hb4⟩
  have hs4 := hrw4.sl HLL.out hb4.size
  have hb04 := bseq HB3.out hb4
  obtain ⟨W6, hW6⟩ : ∃ W6, W6 = (w4.alloc (.cells #[.slice (some ⟨g4, 0, none⟩) L.length cap4] 22)).alloc (.cells #[.int .i64 2, .int .i64 0, .int .i64 0, .slice (some ⟨w4.heap.size, 0, none⟩) 1 1] 27) := ⟨_, rfl⟩
  obtain ⟨hb6, hz6, hs6⟩ := one_mk hs4 hW6
  have c7 := labeled_any n 2 0 0 _ _ _ W6 hs6
  have HB6 := Lib.hid (bseq hb04 hb6)
  have C7 := Lib.hid c7
  have HW6 := Lib.hid hW6
  clear hrw4 hs4 hb4 hb04 hW6 hb6 hz6 hs6 c7
  go_wp2_with fail
  refine (of_any 2 _ 1 1 _).mono ?_
  rintro e _ ⟨rfl, rfl⟩
  go_wp2_with fail
  rw [← HW6.out]
  refine (C7.out).mono ?_
  rintro e w7 ⟨a7, rfl, hs7, hb7⟩
  have hb07 := bseq HB6.out hb7
  obtain ⟨W8, hW8⟩ : ∃ W8, W8 = w7.alloc (.cells #[.int .i64 10, .int .i64 n, .int .i64 0, .slice a7 1 1] 27) := ⟨_, rfl⟩
  obtain ⟨hb8, hz8, hs8⟩ := one_full hs7 hW8
  have hb08 := bseq hb07 hb8
  obtain ⟨W11, hW11⟩ : ∃ W11, W11 = ((W8.alloc (.cells #[.slice a l.length cap] 22)).alloc (.cells #[.int .i64 2, .int .i64 0, .int .i64 0, .slice (some ⟨W8.heap.size, 0, none⟩) 1 1] 27)).alloc (.cells #[.int .i64 2, .int .i64 0, .int .i64 0, .slice (some ⟨W8.heap.size, 0, none⟩) 1 1] 27) := ⟨_, rfl⟩
  obtain ⟨hb11, hz11, hs11⟩ := one_list (HS.out.up hb08) hW11
  rw [hz8] at hs11
  have hsb : SL W11 W11.heap.size (some ⟨w7.heap.size + 3, 0, none⟩) 1 [ofF 2 [l]] := hs11
  have hsa : SL W11 W11.heap.size (some ⟨w7.heap.size, 0, none⟩) 1 [labF n (ofF 2 [L])] := hs8.up hb11
  rw [hz8, hW8] at hW11
  have cva := valid_any _ _ _ _ W11 hsa (Nat.le_refl _)
  have CVA := Lib.hid cva
  have HB11 := Lib.hid (bseq hb08 hb11)
  have HSA := Lib.hid hsa
  have HSB := Lib.hid hsb
  have HW11 := Lib.hid hW11
  clear hs7 hb7 hb07 hW8 hb8 hz8 hs8 hb08 hb11 hz11 hs11 hsb hsa hW11 cva
  go_wp2_with fail
  refine (of_any 2 _ 1 1 _).mono ?_
  rintro e _ ⟨rfl, rfl⟩
  go_wp2_with fail
  rw [← HW11.out]
  refine (CVA.out).mono ?_
  rintro e w12 ⟨rfl, hb12⟩
  have HB12 := Lib.hid (bseq HB11.out hb12)
  have HSA12 := Lib.hid (HSA.out.up hb12)
  have HSB12 := Lib.hid (HSB.out.up hb12)
  clear hb12
  cases hva : validL [labF n (ofF 2 [L])] with
  | false =>
    clear hva
    go_wp2_with fail
    (try simp only [Exit.inBlock, Exit.then])
    refine bodyPost_ret (results_tmp rfl _ _ _) rfl ?_
    exact ⟨rfl, HB12.out⟩
  | true =>
    have cvb := valid_any _ _ _ _ w12 HSB12.out (Nat.le_refl _)
    have CVB := Lib.hid cvb
    have HVA := Lib.hid hva
    clear cvb hva
    go_wp2_with fail
    refine (CVB.out).mono ?_
    rintro e w13 ⟨rfl, hb13⟩
    have HB13 := Lib.hid (bseq HB12.out hb13)
    have HSA13 := Lib.hid (HSA12.out.up hb13)
    have HSB13 := Lib.hid (HSB12.out.up hb13)
    clear hb13
    cases hvb : validL [ofF 2 [l]] with
    | false =>
      clear hvb
      go_wp2_with fail
      (try simp only [Exit.inBlock, Exit.then])
      refine bodyPost_ret (results_tmp rfl _ _ _) rfl ?_
      exact ⟨rfl, HB13.out⟩
    | true =>
      have cja := jumps_any _ _ _ w13 HSA13.out (HT.out.on HB13.out) HVA.out
      rw [LAW.out] at cja
      have CJA := Lib.hid cja
      have HVB := Lib.hid hvb
      clear cja hvb
      go_wp2_with fail
      refine (CJA.out).mono ?_
      rintro e w14 ⟨rfl, hb14⟩
      have HB14 := Lib.hid (bseq HB13.out hb14)
      have HSB14 := Lib.hid (HSB13.out.up hb14)
      clear hb14
      obtain ⟨w15, hw15⟩ : ∃ w15, w15 = w14 := ⟨_, rfl⟩
      obtain rfl := hw15
      have HB15 := HB14
      have cw := works_any w15 (HT.out.on HB15.out)
      have CW := Lib.hid cw
      clear cw
      go_wp2_with fail
      refine (CW.out).mono ?_
      rintro e w16 ⟨rfl, hb16⟩
      go_wp2_with fail
      go_ret
      refine ⟨?_, bseq HB15.out hb16⟩
      first | rfl | (simp [h2, h9, h3, h4, h5]; done) | (simp [h2, h9]; done)
set_option maxHeartbeats 8000000 in
theorem fnLeft_main4 (l : List Fl) (n : Int) (hn1 : 1 ≤ n) (hn2 : n ≤ 9) (hlen : ¬ (l.length : Int) > 2147483647) (hh : hasL n l = false) (hvl : validL l = true) (a : Option Addr) (cap : Nat) (w : World) (hs : SL w w.heap.size a cap l) (ht : Tab w) : Calls Tryz.prog 14 #[.slice a l.length cap, .int .i64 9, .int .i64 n, .bool true] w (RetB w true) := by
  obtain ⟨L, hL⟩ : ∃ L, L = l ++ [jmpF 13 n] := ⟨_, rfl⟩
  have hLl : L.length * 48 ≤ 140737488355328 := by rw [hL, List.length_append, List.length_singleton]; omega
  have hll : (l.length + [jmpF 13 n].length) * 48 ≤ 140737488355328 := by rw [List.length_singleton]; omega
  have hj : jumpsJ [labF n (ofF 9 [l ++ [jmpF (if true then 13 else 12) n]])] = jumpsJ [labF n (ofF 9 [L])] := by rw [hL]; rfl
  have law : jumpsJ [labF n (ofF 9 [L])] = false := by
    rw [← hj]
    rw [law_left n 9 hn1 (by decide) (by decide) true l hh]
    simp [contK, breakK]
  have ch := hasl_any n l a cap w hs
  rw [hh] at ch
  have CH := Lib.hid ch
  have HS := Lib.hid hs
  have HT := Lib.hid ht
  have LAW := Lib.hid law
  have HL := Lib.hid hL
  have HLL := Lib.hid hLl
  have HLW := Lib.hid hll
  have HVL := Lib.hid hvl
  clear ch hs ht hh law hL hLl hll hvl hj
  go_enter Tryz.func14, Tryz.ntmps14
  go_wp2_with fail
  refine (CH.out).mono ?_
  rintro e w1 ⟨rfl, hb1⟩
  have cv := valid_any _ _ _ _ w1 (HS.out.up hb1) (Nat.le_refl _)
  rw [HVL.out] at cv
  have CV := Lib.hid cv
  have HB1 := Lib.hid hb1
  clear cv hb1
  go_wp2_with fail
  refine (CV.out).mono ?_
  rintro e w2 ⟨rfl, hb2⟩
  have hb02 := bseq HB1.out hb2
  obtain ⟨W3, hW3⟩ : ∃ W3, W3 = (w2.alloc (.cells #[.int .i64 13, .int .i64 n, .int .i64 0, .slice none 0 0] 27)).alloc (.cells #[.int .i64 13, .int .i64 n, .int .i64 0, .slice none 0 0] 27) := ⟨_, rfl⟩
  obtain ⟨W30, hW30⟩ : ∃ W30, W30 = w2.alloc (.cells #[.int .i64 13, .int .i64 n, .int .i64 0, .slice none 0 0] 27) := ⟨_, rfl⟩
  have hb30 : Below w2.heap.size w2 W30 := by rw [hW30]; exact bal _ _
  have hz30 : W30.heap.size = w2.heap.size + 1 := by rw [hW30]; simp
  obtain ⟨hb33, hz3, hs3⟩ := one_full (w := W30) SLL.nil (show W3 = W30.alloc (.cells #[.int .i64 13, .int .i64 n, .int .i64 0, .slice none ([] : List (List Fl)).length 0] 27) by rw [hW3, hW30]; rfl)
  rw [hz30] at hs3
  have hb03 := bseq (bseq hb02 hb30) hb33
  have c4 := with_any l [jmpF 13 n] a cap _ 1 W3 (HS.out.up hb03) hs3 (by simp) HLW.out
  rw [← HL.out] at c4
  have C4 := Lib.hid c4
  have HB3 := Lib.hid hb03
  have HW3 := Lib.hid hW3
  clear hb2 hb02 hW30 hb30 hz30 hb33 hz3 hs3 hb03 c4 hW3
  go_wp2_with fail
  rw [← HW3.out]
  refine (C4.out).mono ?_
  rintro e w4 ⟨g4, cap4, rfl, hrw4, hb4⟩
  have hs4 := hrw4.sl HLL.out hb4.size
  have hb04 := bseq HB3.out hb4
  obtain ⟨W6, hW6⟩ : ∃ W6, W6 = (w4.alloc (.cells #[.slice (some ⟨g4, 0, none⟩) L.length cap4] 22)).alloc (.cells #[.int .i64 9, .int .i64 0, .int .i64 0, .slice (some ⟨w4.heap.size, 0, none⟩) 1 1] 27) := ⟨_, rfl⟩
  obtain ⟨hb6, hz6, hs6⟩ := one_mk hs4 hW6
  have c7 := labeled_any n 9 0 0 _ _ _ W6 hs6
  have HB6 := Lib.hid (bseq hb04 hb6)
  have C7 := Lib.hid c7
  have HW6 := Lib.hid hW6
  clear hrw4 hs4 hb4 hb04 hW6 hb6 hz6 hs6 c7
  go_wp2_with fail
  refine (of_any 9 _ 1 1 _).mono ?_
  rintro e _ ⟨rfl, rfl⟩
  go_wp2_with fail
  rw [← HW6.out]
  refine (C7.out).mono ?_
  rintro e w7 ⟨a7, rfl, hs7, hb7⟩
  have hb07 := bseq HB6.out hb7
  obtain ⟨W8, hW8⟩ : ∃ W8, W8 = w7.alloc (.cells #[.int .i64 10, .int .i64 n, .int .i64 0, .slice a7 1 1] 27) := ⟨_, rfl⟩
  obtain ⟨hb8, hz8, hs8⟩ := one_full hs7 hW8
  have hb08 := bseq hb07 hb8
  obtain ⟨W11, hW11⟩ : ∃ W11, W11 = ((W8.alloc (.cells #[.slice a l.length cap] 22)).alloc (.cells #[.int .i64 9, .int .i64 0, .int .i64 0, .slice (some ⟨W8.heap.size, 0, none⟩) 1 1] 27)).alloc (.cells #[.int .i64 9, .int .i64 0, .int .i64 0, .slice (some ⟨W8.heap.size, 0, none⟩) 1 1] 27) := ⟨_, rfl⟩
  obtain ⟨hb11, hz11, hs11⟩ := one_list (HS.out.up hb08) hW11
  rw [hz8] at hs11
  have hsb : SL W11 W11.heap.size (some ⟨w7.heap.size + 3, 0, none⟩) 1 [ofF 9 [l]] := hs11
  have hsa : SL W11 W11.heap.size (some ⟨w7.heap.size, 0, none⟩) 1 [labF n (ofF 9 [L])] := hs8.up hb11
  rw [hz8, hW8] at hW11
  have cva := valid_any _ _ _ _ W11 hsa (Nat.le_refl _)
  have CVA := Lib.hid cva
  have HB11 := Lib.hid (bseq hb08 hb11)
  have HSA := Lib.hid hsa
  have HSB := Lib.hid hsb
  have HW11 := Lib.hid hW11
  clear hs7 hb7 hb07 hW8 hb8 hz8 hs8 hb08 hb11 hz11 hs11 hsb hsa hW11 cva
  go_wp2_with fail
  refine (of_any 9 _ 1 1 _).mono ?_
  rintro e _ ⟨rfl, rfl⟩
  go_wp2_with fail
  rw [← HW11.out]
  refine (CVA.out).mono ?_
  rintro e w12 ⟨rfl, hb12⟩
  have HB12 := Lib.hid (bseq HB11.out hb12)
  have HSA12 := Lib.hid (HSA.out.up hb12)
  have HSB12 := Lib.hid (HSB.out.up hb12)
  clear hb12
  cases hva : validL [labF n (ofF 9 [L])] with
  | false =>
    clear hva
    go_wp2_with fail
    (try simp only [Exit.inBlock, Exit.then])
    refine bodyPost_ret (results_tmp rfl _ _ _) rfl ?_
    exact ⟨rfl, HB12.out⟩
  | true =>
    have cvb := valid_any _ _ _ _ w12 HSB12.out (Nat.le_refl _)
    have CVB := Lib.hid cvb
    have HVA := Lib.hid hva
    clear cvb hva
    go_wp2_with fail
    refine (CVB.out).mono ?_
    rintro e w13 ⟨rfl, hb13⟩
    have HB13 := Lib.hid (bseq HB12.out hb13)
    have HSA13 := Lib.hid (HSA12.out.up hb13)
    have HSB13 := Lib.hid (HSB12.out.up hb13)
    clear hb13
    cases hvb : validL [ofF 9 [l]] with
    | false =>
      clear hvb
      go_wp2_with fail
      (try simp only [Exit.inBlock, Exit.then])
      refine bodyPost_ret (results_tmp rfl _ _ _) rfl ?_
      exact ⟨rfl, HB13.out⟩
    | true =>
      have cja := jumps_any _ _ _ w13 HSA13.out (HT.out.on HB13.out) HVA.out
      rw [LAW.out] at cja
      have CJA := Lib.hid cja
      have HVB := Lib.hid hvb
      clear cja hvb
      go_wp2_with fail
      refine (CJA.out).mono ?_
      rintro e w14 ⟨rfl, hb14⟩
      have HB14 := Lib.hid (bseq HB13.out hb14)
      have HSB14 := Lib.hid (HSB13.out.up hb14)
      clear hb14
      obtain ⟨w15, hw15⟩ : ∃ w15, w15 = w14 := ⟨_, rfl⟩
      obtain rfl := hw15
      have HB15 := HB14
      have cw := works_any w15 (HT.out.on HB15.out)
      have CW := Lib.hid cw
      clear cw
      go_wp2_with fail
      refine (CW.out).mono ?_
      rintro e w16 ⟨rfl, hb16⟩
      go_wp2_with fail
      go_ret
      refine ⟨?_, bseq HB15.out hb16⟩
      first | rfl | (simp [h2, h9, h3, h4, h5]; done) | (simp [h2, h9]; done)
set_option maxHeartbeats 8000000 in
theorem fnLeft_main5 (l : List Fl) (n : Int) (hn1 : 1 ≤ n) (hn2 : n ≤ 9) (hlen : ¬ (l.length : Int) > 2147483647) (hh : hasL n l = false) (hvl : validL l = true) (a : Option Addr) (cap : Nat) (w : World) (hs : SL w w.heap.size a cap l) (ht : Tab w) : Calls Tryz.prog 14 #[.slice a l.length cap, .int .i64 3, .int .i64 n, .bool true] w (RetB w true) := by
  obtain ⟨L, hL⟩ : ∃ L, L = l ++ [jmpF 13 n] := ⟨_, rfl⟩
  have hLl : L.length * 48 ≤ 140737488355328 := by rw [hL, List.length_append, List.length_singleton]; omega
  have hll : (l.length + [jmpF 13 n].length) * 48 ≤ 140737488355328 := by rw [List.length_singleton]; omega
  have hj : jumpsJ [labF n (ofF 3 [l ++ [jmpF (if true then 13 else 12) n]])] = jumpsJ [labF n (ofF 3 [L])] := by rw [hL]; rfl
  have law : jumpsJ [labF n (ofF 3 [L])] = jumpsJ [ofF 3 [l]] := by
    rw [← hj]
    rw [law_left n 3 hn1 (by decide) (by decide) true l hh]
    simp [contK, breakK]
  have ch := hasl_any n l a cap w hs
  rw [hh] at ch
  have CH := Lib.hid ch
  have HS := Lib.hid hs
  have HT := Lib.hid ht
  have LAW := Lib.hid law
  have HL := Lib.hid hL
  have HLL := Lib.hid hLl
  have HLW := Lib.hid hll
  have HVL := Lib.hid hvl
  clear ch hs ht hh law hL hLl hll hvl hj
  go_enter Tryz.func14, Tryz.ntmps14
  go_wp2_with fail
  refine (CH.out).mono ?_
  rintro e w1 ⟨rfl, hb1⟩
  have cv := valid_any _ _ _ _ w1 (HS.out.up hb1) (Nat.le_refl _)
  rw [HVL.out] at cv
  have CV := Lib.hid cv
  have HB1 := Lib.hid hb1
  clear cv hb1
  go_wp2_with fail
  refine (CV.out).mono ?_
  rintro e w2 ⟨rfl, hb2⟩
  have hb02 := bseq HB1.out hb2
  obtain ⟨W3, hW3⟩ : ∃ W3, W3 = (w2.alloc (.cells #[.int .i64 13, .int .i64 n, .int .i64 0, .slice none 0 0] 27)).alloc (.cells #[.int .i64 13, .int .i64 n, .int .i64 0, .slice none 0 0] 27) := ⟨_, rfl⟩
  obtain ⟨W30, hW30⟩ : ∃ W30, W30 = w2.alloc (.cells #[.int .i64 13, .int .i64 n, .int .i64 0, .slice none 0 0] 27) := ⟨_, rfl⟩
  have hb30 : Below w2.heap.size w2 W30 := by rw [hW30]; exact bal _ _
  have hz30 : W30.heap.size = w2.heap.size + 1 := by rw [hW30]; simp
  obtain ⟨hb33, hz3, hs3⟩ := one_full (w := W30) SLL.nil (show W3 = W30.alloc (.cells #[.int .i64 13, .int .i64 n, .int .i64 0, .slice none ([] : List (List Fl)).length 0] 27) by rw [hW3, hW30]; rfl)
  rw [hz30] at hs3
  have hb03 := bseq (bseq hb02 hb30) hb33
  have c4 := with_any l [jmpF 13 n] a cap _ 1 W3 (HS.out.up hb03) hs3 (by simp) HLW.out
  rw [← HL.out] at c4
  have C4 := Lib.hid c4
  have HB3 := Lib.hid hb03
  have HW3 := Lib.hid hW3
  clear hb2 hb02 hW30 hb30 hz30 hb33 hz3 hs3 hb03 c4 hW3
  go_wp2_with fail
  rw [← HW3.out]
  refine (C4.out).mono ?_
  rintro e w4 ⟨g4, cap4, rfl, hrw4, hb4⟩
  have hs4 := hrw4.sl HLL.out hb4.size
  have hb04 := bseq HB3.out hb4
  obtain ⟨W6, hW6⟩ : ∃ W6, W6 = (w4.alloc (.cells #[.slice (some ⟨g4, 0, none⟩) L.length cap4] 22)).alloc (.cells #[.int .i64 3, .int .i64 0, .int .i64 0, .slice (some ⟨w4.heap.size, 0, none⟩) 1 1] 27) := ⟨_, rfl⟩
  obtain ⟨hb6, hz6, hs6⟩ := one_mk hs4 hW6
  have c7 := labeled_any n 3 0 0 _ _ _ W6 hs6
  have HB6 := Lib.hid (bseq hb04 hb6)
  have C7 := Lib.hid c7
  have HW6 := Lib.hid hW6
  clear hrw4 hs4 hb4 hb04 hW6 hb6 hz6 hs6 c7
  go_wp2_with fail
  refine (of_any 3 _ 1 1 _).mono ?_
  rintro e _ ⟨rfl, rfl⟩
  go_wp2_with fail
  rw [← HW6.out]
  refine (C7.out).mono ?_
  rintro e w7 ⟨a7, rfl, hs7, hb7⟩
  have hb07 := bseq HB6.out hb7
  obtain ⟨W8, hW8⟩ : ∃ W8, W8 = w7.alloc (.cells #[.int .i64 10, .int .i64 n, .int .i64 0, .slice a7 1 1] 27) := ⟨_, rfl⟩
  obtain ⟨hb8, hz8, hs8⟩ := one_full hs7 hW8
  have hb08 := bseq hb07 hb8
  obtain ⟨W11, hW11⟩ : ∃ W11, W11 = ((W8.alloc (.cells #[.slice a l.length cap] 22)).alloc (.cells #[.int .i64 3, .int .i64 0, .int .i64 0, .slice (some ⟨W8.heap.size, 0, none⟩) 1 1] 27)).alloc (.cells #[.int .i64 3, .int .i64 0, .int .i64 0, .slice (some ⟨W8.heap.size, 0, none⟩) 1 1] 27) := ⟨_, rfl⟩
  obtain ⟨hb11, hz11, hs11⟩ := one_list (HS.out.up hb08) hW11
  rw [hz8] at hs11
  have hsb : SL W11 W11.heap.size (some ⟨w7.heap.size + 3, 0, none⟩) 1 [ofF 3 [l]] := hs11
  have hsa : SL W11 W11.heap.size (some ⟨w7.heap.size, 0, none⟩) 1 [labF n (ofF 3 [L])] := hs8.up hb11
  rw [hz8, hW8] at hW11
  have cva := valid_any _ _ _ _ W11 hsa (Nat.le_refl _)
  have CVA := Lib.hid cva
  have HB11 := Lib.hid (bseq hb08 hb11)
  have HSA := Lib.hid hsa
  have HSB := Lib.hid hsb
  have HW11 := Lib.hid hW11
  clear hs7 hb7 hb07 hW8 hb8 hz8 hs8 hb08 hb11 hz11 hs11 hsb hsa hW11 cva
  go_wp2_with fail
  refine (of_any 3 _ 1 1 _).mono ?_
  rintro e _ ⟨rfl, rfl⟩
  go_wp2_with fail
  rw [← HW11.out]
  refine (CVA.out).mono ?_
  rintro e w12 ⟨rfl, hb12⟩
  have HB12 := Lib.hid (bseq HB11.out hb12)
  have HSA12 := Lib.hid (HSA.out.up hb12)
  have HSB12 := Lib.hid (HSB.out.up hb12)
  clear hb12
  cases hva : validL [labF n (ofF 3 [L])] with
  | false =>
    clear hva
    go_wp2_with fail
    (try simp only [Exit.inBlock, Exit.then])
    refine bodyPost_ret (results_tmp rfl _ _ _) rfl ?_
    exact ⟨rfl, HB12.out⟩
  | true =>
    have cvb := valid_any _ _ _ _ w12 HSB12.out (Nat.le_refl _)
    have CVB := Lib.hid cvb
    have HVA := Lib.hid hva
    clear cvb hva
    go_wp2_with fail
    refine (CVB.out).mono ?_
    rintro e w13 ⟨rfl, hb13⟩
    have HB13 := Lib.hid (bseq HB12.out hb13)
    have HSA13 := Lib.hid (HSA12.out.up hb13)
    have HSB13 := Lib.hid (HSB12.out.up hb13)
    clear hb13
    cases hvb : validL [ofF 3 [l]] with
    | false =>
      clear hvb
      go_wp2_with fail
      (try simp only [Exit.inBlock, Exit.then])
      refine bodyPost_ret (results_tmp rfl _ _ _) rfl ?_
      exact ⟨rfl, HB13.out⟩
    | true =>
      have cja := jumps_any _ _ _ w13 HSA13.out (HT.out.on HB13.out) HVA.out
      rw [LAW.out] at cja
      have CJA := Lib.hid cja
      have HVB := Lib.hid hvb
      clear cja hvb
      go_wp2_with fail
      refine (CJA.out).mono ?_
      rintro e w14 ⟨rfl, hb14⟩
      have HB14 := Lib.hid (bseq HB13.out hb14)
      have HSB14 := Lib.hid (HSB13.out.up hb14)
      clear hb14
      have cjb := jumps_any _ _ _ w14 HSB14.out (HT.out.on HB14.out) HVB.out
      have CJB := Lib.hid cjb
      clear cjb
      go_wp2_with fail
      refine (CJB.out).mono ?_
      rintro e w15 ⟨rfl, hb15⟩
      have HB15 := Lib.hid (bseq HB14.out hb15)
      have heq : (jumpsJ [ofF 3 [l]] == jumpsJ [ofF 3 [l]]) = true := by simp
      clear hb15
      have cw := works_any w15 (HT.out.on HB15.out)
      have CW := Lib.hid cw
      clear cw
      go_wp2_with fail
      refine (CW.out).mono ?_
      rintro e w16 ⟨rfl, hb16⟩
      go_wp2_with fail
      go_ret
      refine ⟨?_, bseq HB15.out hb16⟩
      first | rfl | (simp [h2, h9, h3, h4, h5]; done) | (simp [h2, h9]; done)
set_option maxHeartbeats 8000000 in
theorem fnLeft_main6 (l : List Fl) (n : Int) (hn1 : 1 ≤ n) (hn2 : n ≤ 9) (hlen : ¬ (l.length : Int) > 2147483647) (hh : hasL n l = false) (hvl : validL l = true) (a : Option Addr) (cap : Nat) (w : World) (hs : SL w w.heap.size a cap l) (ht : Tab w) : Calls Tryz.prog 14 #[.slice a l.length cap, .int .i64 4, .int .i64 n, .bool true] w (RetB w true) := by
  obtain ⟨L, hL⟩ : ∃ L, L = l ++ [jmpF 13 n] := ⟨_, rfl⟩
  have hLl : L.length * 48 ≤ 140737488355328 := by rw [hL, List.length_append, List.length_singleton]; omega
  have hll : (l.length + [jmpF 13 n].length) * 48 ≤ 140737488355328 := by rw [List.length_singleton]; omega
  have hj : jumpsJ [labF n (ofF 4 [l ++ [jmpF (if true then 13 else 12) n]])] = jumpsJ [labF n (ofF 4 [L])] := by rw [hL]; rfl
  have law : jumpsJ [labF n (ofF 4 [L])] = jumpsJ [ofF 4 [l]] := by
    rw [← hj]
    rw [law_left n 4 hn1 (by decide) (by decide) true l hh]
    simp [contK, breakK]
  have ch := hasl_any n l a cap w hs
  rw [hh] at ch
  have CH := Lib.hid ch
  have HS := Lib.hid hs
  have HT := Lib.hid ht
  have LAW := Lib.hid law
  have HL := Lib.hid hL
  have HLL := Lib.hid hLl
  have HLW := Lib.hid hll
  have HVL := Lib.hid hvl
  clear ch hs ht hh law hL hLl hll hvl hj
  go_enter Tryz.func14, Tryz.ntmps14
  go_wp2_with fail
  refine (CH.out).mono ?_
  rintro e w1 ⟨rfl, hb1⟩
  have cv := valid_any _ _ _ _ w1 (HS.out.up hb1) (Nat.le_refl _)
  rw [HVL.out] at cv
  have CV := Lib.hid cv
  have HB1 := Lib.hid hb1
  clear cv hb1
  go_wp2_with fail
  refine (CV.out).mono ?_
  rintro e w2 ⟨rfl, hb2⟩
  have hb02 := bseq HB1.out hb2
  obtain ⟨W3, hW3⟩ : ∃ W3, W3 = (w2.alloc (.cells #[.int .i64 13, .int .i64 n, .int .i64 0, .slice none 0 0] 27)).alloc (.cells #[.int .i64 13, .int .i64 n, .int .i64 0, .slice none 0 0] 27) := ⟨_, rfl⟩
  obtain ⟨W30, hW30⟩ : ∃ W30, W30 = w2.alloc (.cells #[.int .i64 13, .int .i64 n, .int .i64 0, .slice none 0 0] 27) := ⟨_, rfl⟩
  have hb30 : Below w2.heap.size w2 W30 := by rw [hW30]; exact bal _ _
  have hz30 : W30.heap.size = w2.heap.size + 1 := by rw [hW30]; simp
  obtain ⟨hb33, hz3, hs3⟩ := one_full (w := W30) SLL.nil (show W3 = W30.alloc (.cells #[.int .i64 13, .int .i64 n, .int .i64 0, .slice none ([] : List (List Fl)).length 0] 27) by rw [hW3, hW30]; rfl)
  rw [hz30] at hs3
  have hb03 := bseq (bseq hb02 hb30) hb33
  have c4 := with_any l [jmpF 13 n] a cap _ 1 W3 (HS.out.up hb03) hs3 (by simp) HLW.out
  rw [← HL.out] at c4
  have C4 := Lib.hid c4
  have HB3 := Lib.hid hb03
  have HW3 := Lib.hid hW3
  clear hb2 hb02 hW30 hb30 hz30 hb33 hz3 hs3 hb03 c4 hW3
  go_wp2_with fail
  rw [← HW3.out]
  refine (C4.out).mono ?_
  rintro e w4 ⟨g4, cap4, rfl, hrw4, hb4⟩
  have hs4 := hrw4.sl HLL.out hb4.size
  have hb04 := bseq HB3.out hb4
  obtain ⟨W6, hW6⟩ : ∃ W6, W6 = (w4.alloc (.cells #[.slice (some ⟨g4, 0, none⟩) L.length cap4] 22)).alloc (.cells #[.int .i64 4, .int .i64 0, .int .i64 0, .slice (some ⟨w4.heap.size, 0, none⟩) 1 1] 27) := ⟨_, rfl⟩
  obtain ⟨hb6, hz6, hs6⟩ := one_mk hs4 hW6
  have c7 := labeled_any n 4 0 0 _ _ _ W6 hs6
  have HB6 := Lib.hid (bseq hb04 hb6)
  have C7 := Lib.hid c7
  have HW6 := Lib.hid hW6
  clear hrw4 hs4 hb4 hb04 hW6 hb6 hz6 hs6 c7
  go_wp2_with fail
  refine (of_any 4 _ 1 1 _).mono ?_
  rintro e _ ⟨rfl, rfl⟩
  go_wp2_with fail
  rw [← HW6.out]
  refine (C7.out).mono ?_
  rintro e w7 ⟨a7, rfl, hs7, hb7⟩
  have hb07 := bseq HB6.out hb7
  obtain ⟨W8, hW8⟩ : ∃ W8, W8 = w7.alloc (.cells #[.int .i64 10, .int .i64 n, .int .i64 0, .slice a7 1 1] 27) := ⟨_, rfl⟩
  obtain ⟨hb8, hz8, hs8⟩ := one_full hs7 hW8
  have hb08 := bseq hb07 hb8
  obtain ⟨W11, hW11⟩ : ∃ W11, W11 = ((W8.alloc (.cells #[.slice a l.length cap] 22)).alloc (.cells #[.int .i64 4, .int .i64 0, .int .i64 0, .slice (some ⟨W8.heap.size, 0, none⟩) 1 1] 27)).alloc (.cells #[.int .i64 4, .int .i64 0, .int .i64 0, .slice (some ⟨W8.heap.size, 0, none⟩) 1 1] 27) := ⟨_, rfl⟩
  obtain ⟨hb11, hz11, hs11⟩ := one_list (HS.out.up hb08) hW11
  rw [hz8] at hs11
  have hsb : SL W11 W11.heap.size (some ⟨w7.heap.size + 3, 0, none⟩) 1 [ofF 4 [l]] := hs11
  have hsa : SL W11 W11.heap.size (some ⟨w7.heap.size, 0, none⟩) 1 [labF n (ofF 4 [L])] := hs8.up hb11
  rw [hz8, hW8] at hW11
  have cva := valid_any _ _ _ _ W11 hsa (Nat.le_refl _)
  have CVA := Lib.hid cva
  have HB11 := Lib.hid (bseq hb08 hb11)
  have HSA := Lib.hid hsa
  have HSB := Lib.hid hsb
  have HW11 := Lib.hid hW11
  clear hs7 hb7 hb07 hW8 hb8 hz8 hs8 hb08 hb11 hz11 hs11 hsb hsa hW11 cva
  go_wp2_with fail
  refine (of_any 4 _ 1 1 _).mono ?_
  rintro e _ ⟨rfl, rfl⟩
  go_wp2_with fail
  rw [← HW11.out]
  refine (CVA.out).mono ?_
  rintro e w12 ⟨rfl, hb12⟩
  have HB12 := Lib.hid (bseq HB11.out hb12)
  have HSA12 := Lib.hid (HSA.out.up hb12)
  have HSB12 := Lib.hid (HSB.out.up hb12)
  clear hb12
  cases hva : validL [labF n (ofF 4 [L])] with
  | false =>
    clear hva
    go_wp2_with fail
    (try simp only [Exit.inBlock, Exit.then])
    refine bodyPost_ret (results_tmp rfl _ _ _) rfl ?_
    exact ⟨rfl, HB12.out⟩
  | true =>
    have cvb := valid_any _ _ _ _ w12 HSB12.out (Nat.le_refl _)
    have CVB := Lib.hid cvb
    have HVA := Lib.hid hva
    clear cvb hva
    go_wp2_with fail
    refine (CVB.out).mono ?_
    rintro e w13 ⟨rfl, hb13⟩
    have HB13 := Lib.hid (bseq HB12.out hb13)
    have HSA13 := Lib.hid (HSA12.out.up hb13)
    have HSB13 := Lib.hid (HSB12.out.up hb13)
    clear hb13
    cases hvb : validL [ofF 4 [l]] with
    | false =>
      clear hvb
      go_wp2_with fail
      (try simp only [Exit.inBlock, Exit.then])
      refine bodyPost_ret (results_tmp rfl _ _ _) rfl ?_
      exact ⟨rfl, HB13.out⟩
    | true =>
      have cja := jumps_any _ _ _ w13 HSA13.out (HT.out.on HB13.out) HVA.out
      rw [LAW.out] at cja
      have CJA := Lib.hid cja
      have HVB := Lib.hid hvb
      clear cja hvb
      go_wp2_with fail
      refine (CJA.out).mono ?_
      rintro e w14 ⟨rfl, hb14⟩
      have HB14 := Lib.hid (bseq HB13.out hb14)
      have HSB14 := Lib.hid (HSB13.out.up hb14)
      clear hb14
      have cjb := jumps_any _ _ _ w14 HSB14.out (HT.out.on HB14.out) HVB.out
      have CJB := Lib.hid cjb
      clear cjb
      go_wp2_with fail
      refine (CJB.out).mono ?_
      rintro e w15 ⟨rfl, hb15⟩
      have HB15 := Lib.hid (bseq HB14.out hb15)
      have heq : (jumpsJ [ofF 4 [l]] == jumpsJ [ofF 4 [l]]) = true := by simp
      clear hb15
      have cw := works_any w15 (HT.out.on HB15.out)
      have CW := Lib.hid cw
      clear cw
      go_wp2_with fail
      refine (CW.out).mono ?_
      rintro e w16 ⟨rfl, hb16⟩
      go_wp2_with fail
      go_ret
      refine ⟨?_, bseq HB15.out hb16⟩
      first | rfl | (simp [h2, h9, h3, h4, h5]; done) | (simp [h2, h9]; done)
set_option maxHeartbeats 8000000 in
theorem fnLeft_main7 (l : List Fl) (n : Int) (hn1 : 1 ≤ n) (hn2 : n ≤ 9) (hlen : ¬ (l.length : Int) > 2147483647) (hh : hasL n l = false) (hvl : validL l = true) (a : Option Addr) (cap : Nat) (w : World) (hs : SL w w.heap.size a cap l) (ht : Tab w) : Calls Tryz.prog 14 #[.slice a l.length cap, .int .i64 5, .int .i64 n, .bool true] w (RetB w true) := by
  obtain ⟨L, hL⟩ : ∃ L, L = l ++ [jmpF 13 n] := ⟨_, rfl⟩
  have hLl : L.length * 48 ≤ 140737488355328 := by rw [hL, List.length_append, List.length_singleton]; omega
  have hll : (l.length + [jmpF 13 n].length) * 48 ≤ 140737488355328 := by rw [List.length_singleton]; omega
  have hj : jumpsJ [labF n (ofF 5 [l ++ [jmpF (if true then 13 else 12) n]])] = jumpsJ [labF n (ofF 5 [L])] := by rw [hL]; rfl
  have law : jumpsJ [labF n (ofF 5 [L])] = jumpsJ [ofF 5 [l]] := by
    rw [← hj]
    rw [law_left n 5 hn1 (by decide) (by decide) true l hh]
    simp [contK, breakK]
  have ch := hasl_any n l a cap w hs
  rw [hh] at ch
  have CH := Lib.hid ch
  have HS := Lib.hid hs
  have HT := Lib.hid ht
  have LAW := Lib.hid law
  have HL := Lib.hid hL
  have HLL := Lib.hid hLl
  have HLW := Lib.hid hll
  have HVL := Lib.hid hvl
  clear ch hs ht hh law hL hLl hll hvl hj
  go_enter Tryz.func14, Tryz.ntmps14
  go_wp2_with fail
  refine (CH.out).mono ?_
  rintro e w1 ⟨rfl, hb1⟩
  have cv := valid_any _ _ _ _ w1 (HS.out.up hb1) (Nat.le_refl _)
  rw [HVL.out] at cv
  have CV := Lib.hid cv
  have HB1 := Lib.hid hb1
  clear cv hb1
  go_wp2_with fail
  refine (CV.out).mono ?_
  rintro e w2 ⟨rfl, hb2⟩
  have hb02 := bseq HB1.out hb2
  obtain ⟨W3, hW3⟩ : ∃ W3, W3 = (w2.alloc (.cells #[.int .i64 13, .int .i64 n, .int .i64 0, .slice none 0 0] 27)).alloc (.cells #[.int .i64 13, .int .i64 n, .int .i64 0, .slice none 0 0] 27) := ⟨_, rfl⟩
  obtain ⟨W30, hW30⟩ : ∃ W30, W30 = w2.alloc (.cells #[.int .i64 13, .int .i64 n, .int .i64 0, .slice none 0 0] 27) := ⟨_, rfl⟩
  have hb30 : Below w2.heap.size w2 W30 := by rw [hW30]; exact bal _ _
  have hz30 : W30.heap.size = w2.heap.size + 1 := by rw [hW30]; simp
  obtain ⟨hb33, hz3, hs3⟩ := one_full (w := W30) SLL.nil (show W3 = W30.alloc (.cells #[.int .i64 13, .int .i64 n, .int .i64 0, .slice none ([] : List (List Fl)).length 0] 27) by rw [hW3, hW30]; rfl)
  rw [hz30] at hs3
  have hb03 := bseq (bseq hb02 hb30) hb33
  have c4 := with_any l [jmpF 13 n] a cap _ 1 W3 (HS.out.up hb03) hs3 (by simp) HLW.out
  rw [← HL.out] at c4
  have C4 := Lib.hid c4
  have HB3 := Lib.hid hb03
  have HW3 := Lib.hid hW3
  clear hb2 hb02 hW30 hb30 hz30 hb33 hz3 hs3 hb03 c4 hW3
  go_wp2_with fail
  rw [← HW3.out]
  refine (C4.out).mono ?_
  rintro e w4 ⟨g4, cap4, rfl, hrw4, hb4⟩
  have hs4 := hrw4.sl HLL.out hb4.size
  have hb04 := bseq HB3.out hb4
  obtain ⟨W6, hW6⟩ : ∃ W6, W6 = (w4.alloc (.cells #[.slice (some ⟨g4, 0, none⟩) L.length cap4] 22)).alloc (.cells #[.int .i64 5, .int .i64 0, .int .i64 0, .slice (some ⟨w4.heap.size, 0, none⟩) 1 1] 27) := ⟨_, rfl⟩
  obtain ⟨hb6, hz6, hs6⟩ := one_mk hs4 hW6
  have c7 := labeled_any n 5 0 0 _ _ _ W6 hs6
  have HB6 := Lib.hid (bseq hb04 hb6)
  have C7 := Lib.hid c7
  have HW6 := Lib.hid hW6
  clear hrw4 hs4 hb4 hb04 hW6 hb6 hz6 hs6 c7
  go_wp2_with fail
  refine (of_any 5 _ 1 1 _).mono ?_
  rintro e _ ⟨rfl, rfl⟩
  go_wp2_with fail
  rw [← HW6.out]
  refine (C7.out).mono ?_
  rintro e w7 ⟨a7, rfl, hs7, hb7⟩
  have hb07 := bseq HB6.out hb7
  obtain ⟨W8, hW8⟩ : ∃ W8, W8 = w7.alloc (.cells #[.int .i64 10, .int .i64 n, .int .i64 0, .slice a7 1 1] 27) := ⟨_, rfl⟩
  obtain ⟨hb8, hz8, hs8⟩ := one_full hs7 hW8
  have hb08 := bseq hb07 hb8
  obtain ⟨W11, hW11⟩ : ∃ W11, W11 = ((W8.alloc (.cells #[.slice a l.length cap] 22)).alloc (.cells #[.int .i64 5, .int .i64 0, .int .i64 0, .slice (some ⟨W8.heap.size, 0, none⟩) 1 1] 27)).alloc (.cells #[.int .i64 5, .int .i64 0, .int .i64 0, .slice (some ⟨W8.heap.size, 0, none⟩) 1 1] 27) := ⟨_, rfl⟩
  obtain ⟨hb11, hz11, hs11⟩ := one_list (HS.out.up hb08) hW11
  rw [hz8] at hs11
  have hsb : SL W11 W11.heap.size (some ⟨w7.heap.size + 3, 0, none⟩) 1 [ofF 5 [l]] := hs11
  have hsa : SL W11 W11.heap.size (some ⟨w7.heap.size, 0, none⟩) 1 [labF n (ofF 5 [L])] := hs8.up hb11
  rw [hz8, hW8] at hW11
  have cva := valid_any _ _ _ _ W11 hsa (Nat.le_refl _)
  have CVA := Lib.hid cva
  have HB11 := Lib.hid (bseq hb08 hb11)
  have HSA := Lib.hid hsa
  have HSB := Lib.hid hsb
  have HW11 := Lib.hid hW11
  clear hs7 hb7 hb07 hW8 hb8 hz8 hs8 hb08 hb11 hz11 hs11 hsb hsa hW11 cva
  go_wp2_with fail
  refine (of_any 5 _ 1 1 _).mono ?_
  rintro e _ ⟨rfl, rfl⟩
  go_wp2_with fail
  rw [← HW11.out]
  refine (CVA.out).mono ?_
  rintro e w12 ⟨rfl, hb12⟩
  have HB12 := Lib.hid (bseq HB11.out hb12)
  have HSA12 := Lib.hid (HSA.out.up hb12)
  have HSB12 := Lib.hid (HSB.out.up hb12)
  clear hb12
  cases hva : validL [labF n (ofF 5 [L])] with
  | false =>
    clear hva
    go_wp2_with fail
    (try simp only [Exit.inBlock, Exit.then])
    refine bodyPost_ret (results_tmp rfl _ _ _) rfl ?_
    exact ⟨rfl, HB12.out⟩
  | true =>
    have cvb := valid_any _ _ _ _ w12 HSB12.out (Nat.le_refl _)
    have CVB := Lib.hid cvb
    have HVA := Lib.hid hva
    clear cvb hva
    go_wp2_with fail
    refine (CVB.out).mono ?_
    rintro e w13 ⟨rfl, hb13⟩
    have HB13 := Lib.hid (bseq HB12.out hb13)
    have HSA13 := Lib.hid (HSA12.out.up hb13)
    have HSB13 := Lib.hid (HSB12.out.up hb13)
    clear hb13
    cases hvb : validL [ofF 5 [l]] with
    | false =>
      clear hvb
      go_wp2_with fail
      (try simp only [Exit.inBlock, Exit.then])
      refine bodyPost_ret (results_tmp rfl _ _ _) rfl ?_
      exact ⟨rfl, HB13.out⟩
    | true =>
      have cja := jumps_any _ _ _ w13 HSA13.out (HT.out.on HB13.out) HVA.out
      rw [LAW.out] at cja
      have CJA := Lib.hid cja
      have HVB := Lib.hid hvb
      clear cja hvb
      go_wp2_with fail
      refine (CJA.out).mono ?_
      rintro e w14 ⟨rfl, hb14⟩
      have HB14 := Lib.hid (bseq HB13.out hb14)
      have HSB14 := Lib.hid (HSB13.out.up hb14)
      clear hb14
      have cjb := jumps_any _ _ _ w14 HSB14.out (HT.out.on HB14.out) HVB.out
      have CJB := Lib.hid cjb
      clear cjb
      go_wp2_with fail
      refine (CJB.out).mono ?_
      rintro e w15 ⟨rfl, hb15⟩
      have HB15 := Lib.hid (bseq HB14.out hb15)
      have heq : (jumpsJ [ofF 5 [l]] == jumpsJ [ofF 5 [l]]) = true := by simp
      clear hb15
      have cw := works_any w15 (HT.out.on HB15.out)
      have CW := Lib.hid cw
      clear cw
      go_wp2_with fail
      refine (CW.out).mono ?_
      rintro e w16 ⟨rfl, hb16⟩
      go_wp2_with fail
      go_ret
      refine ⟨?_, bseq HB15.out hb16⟩
      first | rfl | (simp [h2, h9, h3, h4, h5]; done) | (simp [h2, h9]; done)
set_option maxHeartbeats 8000000 in
theorem fnLeft_main8 (l : List Fl) (k : Int) (n : Int) (hn1 : 1 ≤ n) (hn2 : n ≤ 9) (hk1 : 2 ≤ k) (hk2 : k ≤ 9) (h2 : ¬ k = 2) (h9 : ¬ k = 9) (h3 : ¬ k = 3) (h4 : ¬ k = 4) (h5 : ¬ k = 5) (hlen : ¬ (l.length : Int) > 2147483647) (hh : hasL n l = false) (hvl : validL l = true) (a : Option Addr) (cap : Nat) (w : World) (hs : SL w w.heap.size a cap l) (ht : Tab w) : Calls Tryz.prog 14 #[.slice a l.length cap, .int .i64 k, .int .i64 n, .bool true] w (RetB w true) := by
  obtain ⟨L, hL⟩ : ∃ L, L = l ++ [jmpF 13 n] := ⟨_, rfl⟩
  have hLl : L.length * 48 ≤ 140737488355328 := by rw [hL, List.length_append, List.length_singleton]; omega
  have hll : (l.length + [jmpF 13 n].length) * 48 ≤ 140737488355328 := by rw [List.length_singleton]; omega
  have hj : jumpsJ [labF n (ofF k [l ++ [jmpF (if true then 13 else 12) n]])] = jumpsJ [labF n (ofF k [L])] := by rw [hL]; rfl
  have law : jumpsJ [labF n (ofF k [L])] = false := by
    rw [← hj]
    rw [law_left n k hn1 hk1 hk2 true l hh]
    have : contK k = false := by simp [contK]; omega
    simp [this]
  have ch := hasl_any n l a cap w hs
  rw [hh] at ch
  have CH := Lib.hid ch
  have HS := Lib.hid hs
  have HT := Lib.hid ht
  have LAW := Lib.hid law
  have HL := Lib.hid hL
  have HLL := Lib.hid hLl
  have HLW := Lib.hid hll
  have HVL := Lib.hid hvl
  clear ch hs ht hh law hL hLl hll hvl hj
  go_enter Tryz.func14, Tryz.ntmps14
  go_wp2_with fail
  refine (CH.out).mono ?_
  rintro e w1 ⟨rfl, hb1⟩
  have cv := valid_any _ _ _ _ w1 (HS.out.up hb1) (Nat.le_refl _)
  rw [HVL.out] at cv
  have CV := Lib.hid cv
  have HB1 := Lib.hid hb1
  clear cv hb1
  go_wp2_with fail
  refine (CV.out).mono ?_
  rintro e w2 ⟨rfl, hb2⟩
  have hb02 := bseq HB1.out hb2
  obtain ⟨W3, hW3⟩ : ∃ W3, W3 = (w2.alloc (.cells #[.int .i64 13, .int .i64 n, .int .i64 0, .slice none 0 0] 27)).alloc (.cells #[.int .i64 13, .int .i64 n, .int .i64 0, .slice none 0 0] 27) := ⟨_, rfl⟩
  obtain ⟨W30, hW30⟩ : ∃ W30, W30 = w2.alloc (.cells #[.int .i64 13, .int .i64 n, .int .i64 0, .slice none 0 0] 27) := ⟨_, rfl⟩
  have hb30 : Below w2.heap.size w2 W30 := by rw [hW30]; exact bal _ _
  have hz30 : W30.heap.size = w2.heap.size + 1 := by rw [hW30]; simp
  obtain ⟨hb33, hz3, hs3⟩ := one_full (w := W30) SLL.nil (show W3 = W30.alloc (.cells #[.int .i64 13, .int .i64 n, .int .i64 0, .slice none ([] : List (List Fl)).length 0] 27) by rw [hW3, hW30]; rfl)
  rw [hz30] at hs3
  have hb03 := bseq (bseq hb02 hb30) hb33
  have c4 := with_any l [jmpF 13 n] a cap _ 1 W3 (HS.out.up hb03) hs3 (by simp) HLW.out
  rw [← HL.out] at c4
  have C4 := Lib.hid c4
  have HB3 := Lib.hid hb03
  have HW3 := Lib.hid hW3
  clear hb2 hb02 hW30 hb30 hz30 hb33 hz3 hs3 hb03 c4 hW3
  go_wp2_with fail
  rw [← HW3.out]
  refine (C4.out).mono ?_
  rintro e w4 ⟨g4, cap4, rfl, hrw4, hb4⟩
  have hs4 := hrw4.sl HLL.out hb4.size
  have hb04 := bseq HB3.out hb4
  obtain ⟨W6, hW6⟩ : ∃ W6, W6 = (w4.alloc (.cells #[.slice (some ⟨g4, 0, none⟩) L.length cap4] 22)).alloc (.cells #[.int .i64 k, .int .i64 0, .int .i64 0, .slice (some ⟨w4.heap.size, 0, none⟩) 1 1] 27) := ⟨_, rfl⟩
  obtain ⟨hb6, hz6, hs6⟩ := one_mk hs4 hW6
  have c7 := labeled_any n k 0 0 _ _ _ W6 hs6
  have HB6 := Lib.hid (bseq hb04 hb6)
  have C7 := Lib.hid c7
  have HW6 := Lib.hid hW6
  clear hrw4 hs4 hb4 hb04 hW6 hb6 hz6 hs6 c7
  go_wp2_with fail
  refine (of_any k _ 1 1 _).mono ?_
  rintro e _ ⟨rfl, rfl⟩
  go_wp2_with fail
  rw [← HW6.out]
  refine (C7.out).mono ?_
  rintro e w7 ⟨a7, rfl, hs7, hb7⟩
  have hb07 := bseq HB6.out hb7
  obtain ⟨W8, hW8⟩ : ∃ W8, W8 = w7.alloc (.cells #[.int .i64 10, .int .i64 n, .int .i64 0, .slice a7 1 1] 27) := ⟨_, rfl⟩
  obtain ⟨hb8, hz8, hs8⟩ := one_full hs7 hW8
  have hb08 := bseq hb07 hb8
  obtain ⟨W11, hW11⟩ : ∃ W11, W11 = ((W8.alloc (.cells #[.slice a l.length cap] 22)).alloc (.cells #[.int .i64 k, .int .i64 0, .int .i64 0, .slice (some ⟨W8.heap.size, 0, none⟩) 1 1] 27)).alloc (.cells #[.int .i64 k, .int .i64 0, .int .i64 0, .slice (some ⟨W8.heap.size, 0, none⟩) 1 1] 27) := ⟨_, rfl⟩
  obtain ⟨hb11, hz11, hs11⟩ := one_list (HS.out.up hb08) hW11
  rw [hz8] at hs11
  have hsb : SL W11 W11.heap.size (some ⟨w7.heap.size + 3, 0, none⟩) 1 [ofF k [l]] := hs11
  have hsa : SL W11 W11.heap.size (some ⟨w7.heap.size, 0, none⟩) 1 [labF n (ofF k [L])] := hs8.up hb11
  rw [hz8, hW8] at hW11
  have cva := valid_any _ _ _ _ W11 hsa (Nat.le_refl _)
  have CVA := Lib.hid cva
  have HB11 := Lib.hid (bseq hb08 hb11)
  have HSA := Lib.hid hsa
  have HSB := Lib.hid hsb
  have HW11 := Lib.hid hW11
  clear hs7 hb7 hb07 hW8 hb8 hz8 hs8 hb08 hb11 hz11 hs11 hsb hsa hW11 cva
  go_wp2_with fail
  refine (of_any k _ 1 1 _).mono ?_
  rintro e _ ⟨rfl, rfl⟩
  go_wp2_with fail
  rw [← HW11.out]
  refine (CVA.out).mono ?_
  rintro e w12 ⟨rfl, hb12⟩
  have HB12 := Lib.hid (bseq HB11.out hb12)
  have HSA12 := Lib.hid (HSA.out.up hb12)
  have HSB12 := Lib.hid (HSB.out.up hb12)
  clear hb12
  cases hva : validL [labF n (ofF k [L])] with
  | false =>
    clear hva
    go_wp2_with fail
    (try simp only [Exit.inBlock, Exit.then])
    refine bodyPost_ret (results_tmp rfl _ _ _) rfl ?_
    exact ⟨rfl, HB12.out⟩
  | true =>
    have cvb := valid_any _ _ _ _ w12 HSB12.out (Nat.le_refl _)
    have CVB := Lib.hid cvb
    have HVA := Lib.hid hva
    clear cvb hva
    go_wp2_with fail
    refine (CVB.out).mono ?_
    rintro e w13 ⟨rfl, hb13⟩
    have HB13 := Lib.hid (bseq HB12.out hb13)
    have HSA13 := Lib.hid (HSA12.out.up hb13)
    have HSB13 := Lib.hid (HSB12.out.up hb13)
    clear hb13
    cases hvb : validL [ofF k [l]] with
    | false =>
      clear hvb
      go_wp2_with fail
      (try simp only [Exit.inBlock, Exit.then])
      refine bodyPost_ret (results_tmp rfl _ _ _) rfl ?_
      exact ⟨rfl, HB13.out⟩
    | true =>
      have cja := jumps_any _ _ _ w13 HSA13.out (HT.out.on HB13.out) HVA.out
      rw [LAW.out] at cja
      have CJA := Lib.hid cja
      have HVB := Lib.hid hvb
      clear cja hvb
      go_wp2_with fail
      refine (CJA.out).mono ?_
      rintro e w14 ⟨rfl, hb14⟩
      have HB14 := Lib.hid (bseq HB13.out hb14)
      have HSB14 := Lib.hid (HSB13.out.up hb14)
      clear hb14
      obtain ⟨w15, hw15⟩ : ∃ w15, w15 = w14 := ⟨_, rfl⟩
      obtain rfl := hw15
      have HB15 := HB14
      have cw := works_any w15 (HT.out.on HB15.out)
      have CW := Lib.hid cw
      clear cw
      go_wp2_with fail
      refine (CW.out).mono ?_
      rintro e w16 ⟨rfl, hb16⟩
      go_wp2_with fail
      go_ret
      refine ⟨?_, bseq HB15.out hb16⟩
      first | rfl | (simp [h2, h9, h3, h4, h5]; done) | (simp [h2, h9]; done)
set_option maxHeartbeats 8000000 in
theorem fnLeft_any (l : List Fl) (k n : Int) (x : Bool) (a : Option Addr) (cap : Nat) (w : World) (hs : SL w w.heap.size a cap l) (ht : Tab w) : Calls Tryz.prog 14 #[.slice a l.length cap, .int .i64 k, .int .i64 n, .bool x] w (RetB w true) := by
  by_cases hlen : (l.length : Int) > 2147483647
  · clear hs ht
    go_enter Tryz.func14, Tryz.ntmps14
    go_wp2_with fail
    (try simp only [Exit.inBlock, Exit.then])
    refine bodyPost_ret (results_tmp rfl _ _ _) rfl ?_
    exact ⟨rfl, Below.refl _ _⟩
  by_cases hn : n < 1
  · clear hs ht
    go_enter Tryz.func14, Tryz.ntmps14
    go_wp2_with fail
    (try simp only [Exit.inBlock, Exit.then])
    refine bodyPost_ret (results_tmp rfl _ _ _) rfl ?_
    exact ⟨rfl, Below.refl _ _⟩
  by_cases hn9 : 9 < n
  · clear hs ht
    go_enter Tryz.func14, Tryz.ntmps14
    go_wp2_with fail
    (try simp only [Exit.inBlock, Exit.then])
    refine bodyPost_ret (results_tmp rfl _ _ _) rfl ?_
    exact ⟨rfl, Below.refl _ _⟩
  by_cases hk : k < 2
  · clear hs ht
    go_enter Tryz.func14, Tryz.ntmps14
    go_wp2_with fail
    (try simp only [Exit.inBlock, Exit.then])
    refine bodyPost_ret (results_tmp rfl _ _ _) rfl ?_
    exact ⟨rfl, Below.refl _ _⟩
  by_cases hk9 : 9 < k
  · clear hs ht
    go_enter Tryz.func14, Tryz.ntmps14
    go_wp2_with fail
    (try simp only [Exit.inBlock, Exit.then])
    refine bodyPost_ret (results_tmp rfl _ _ _) rfl ?_
    exact ⟨rfl, Below.refl _ _⟩
  cases hh : hasL n l with
  | true =>
    have ch := hasl_any n l a cap w hs
    rw [hh] at ch
    have CH := Lib.hid ch
    clear ch hs ht hh
    go_enter Tryz.func14, Tryz.ntmps14
    go_wp2_with fail
    refine (CH.out).mono ?_
    rintro e w1 ⟨rfl, hb1⟩
    go_wp2_with fail
    (try simp only [Exit.inBlock, Exit.then])
    refine bodyPost_ret (results_tmp rfl _ _ _) rfl ?_
    exact ⟨rfl, hb1⟩
  | false =>
    cases hv : validL l with
    | false =>
      have ch := hasl_any n l a cap w hs
      rw [hh] at ch
      have CH := Lib.hid ch
      have HV := Lib.hid hv
      have HS := Lib.hid hs
      clear ch hs ht hh hv
      go_enter Tryz.func14, Tryz.ntmps14
      go_wp2_with fail
      refine (CH.out).mono ?_
      rintro e w1 ⟨rfl, hb1⟩
      have cv := valid_any _ _ _ _ w1 (HS.out.up hb1) (Nat.le_refl _)
      rw [HV.out] at cv
      have CV := Lib.hid cv
      have HB1 := Lib.hid hb1
      clear cv hb1
      go_wp2_with fail
      refine (CV.out).mono ?_
      rintro e w2 ⟨rfl, hb2⟩
      go_wp2_with fail
      (try simp only [Exit.inBlock, Exit.then])
      refine bodyPost_ret (results_tmp rfl _ _ _) rfl ?_
      exact ⟨rfl, bseq HB1.out hb2⟩
    | true =>
      cases x with
      | false =>
        by_cases h2 : k = 2
        · subst h2; exact fnLeft_main0 l n (by omega) (by omega) hlen hh hv a cap w hs ht
        by_cases h9 : k = 9
        · subst h9; exact fnLeft_main1 l n (by omega) (by omega) hlen hh hv a cap w hs ht
        exact fnLeft_main2 l k n (by omega) (by omega) (by omega) (by omega) h2 h9 hlen hh hv a cap w hs ht
      | true =>
        by_cases h2 : k = 2
        · subst h2; exact fnLeft_main3 l n (by omega) (by omega) hlen hh hv a cap w hs ht
        by_cases h9 : k = 9
        · subst h9; exact fnLeft_main4 l n (by omega) (by omega) hlen hh hv a cap w hs ht
        by_cases h3 : k = 3
        · subst h3; exact fnLeft_main5 l n (by omega) (by omega) hlen hh hv a cap w hs ht
        by_cases h4 : k = 4
        · subst h4; exact fnLeft_main6 l n (by omega) (by omega) hlen hh hv a cap w hs ht
        by_cases h5 : k = 5
        · subst h5; exact fnLeft_main7 l n (by omega) (by omega) hlen hh hv a cap w hs ht
        exact fnLeft_main8 l k n (by omega) (by omega) (by omega) (by omega) h2 h9 h3 h4 h5 hlen hh hv a cap w hs ht
end Go.Proofs.YtpodifbgfcclbaaGreatDoor
