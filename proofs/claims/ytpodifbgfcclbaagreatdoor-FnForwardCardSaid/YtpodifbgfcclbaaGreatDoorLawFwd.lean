/- FnForward: what the law's function answers. -/
import Derived.Test.YtpodifbgfcclbaaGreatDoorLawApp
import Derived.Test.YtpodifbgfcclbaaGreatDoorLawDec
set_option linter.unusedVariables false
set_option linter.unusedSimpArgs false
namespace Go.Proofs.YtpodifbgfcclbaaGreatDoor
open Go.RowKit
attribute [local go_sem] Nat.lt_add_one_of_lt

set_option maxHeartbeats 8000000 in
theorem fnForward_main (l : List Fl) (n : Int) (hn1 : 1 ≤ n) (hn2 : n ≤ 9) (hlen : ¬ (l.length : Int) > 2147483647) (hh : hasL n l = false) (hvl : validL l = true) (a : Option Addr) (cap : Nat) (w : World) (hs : SL w w.heap.size a cap l) (ht : Tab w) : Calls Tryz.prog 8 #[.slice a l.length cap, .int .i64 n] w (RetB w true) := by
  obtain ⟨L1, hL1⟩ : ∃ L1, L1 = l ++ [labF n expF] := ⟨_, rfl⟩
  obtain ⟨L, hL⟩ : ∃ L, L = [jmpF 11 n] ++ L1 := ⟨_, rfl⟩
  have hLl1 : L1.length * 48 ≤ 140737488355328 := by rw [hL1, List.length_append, List.length_singleton]; omega
  have hLl : L.length * 48 ≤ 140737488355328 := by rw [hL, hL1, List.length_append, List.length_append, List.length_singleton, List.length_singleton]; omega
  have hll : (l.length + [labF n expF].length) * 48 ≤ 140737488355328 := by rw [List.length_singleton]; omega
  have hne : L1 ≠ [] := by rw [hL1]; simp
  have hfull : 1 < [jmpF 11 n].length + L1.length := by rw [List.length_singleton]; have := List.length_pos_iff.2 hne; omega
  have law : jumpsJ L = (jumpsJ l && !(l.any decF)) := by rw [hL, hL1]; exact law_fwd n hn1 l hh
  have ch := hasl_any n l a cap w hs
  rw [hh] at ch
  have CH := Lib.hid ch
  have HS := Lib.hid hs
  have HT := Lib.hid ht
  have LAW := Lib.hid law
  have HL := Lib.hid hL
  have HL1 := Lib.hid hL1
  have HLL := Lib.hid hLl
  have HLL1 := Lib.hid hLl1
  have HLW := Lib.hid hll
  have HNE := Lib.hid hne
  have HF := Lib.hid hfull
  have HVL := Lib.hid hvl
  clear ch hs ht hh law hL hL1 hLl hLl1 hll hvl hne hfull
  go_enter Tryz.func8, Tryz.ntmps8
  go_wp2_with fail
  refine (CH.out).mono ?_
  rintro e w1 ⟨rfl, hb1⟩
  have cv := valid_any _ _ _ _ w1 (HS.out.up hb1) (Nat.le_refl _)
  rw [HVL.out] at cv
  have CV := Lib.hid cv
  have HB1 := Lib.hid hb1
  clear cv hb1
  go_wp2_with fail
  refine (CV.out).mono ?_
  rintro e w2 ⟨rfl, hb2⟩
  have hb02 := bseq HB1.out hb2
  obtain ⟨W3, hW3⟩ : ∃ W3, W3 = w2.alloc (.cells #[.int .i64 11, .int .i64 n, .int .i64 0, .slice none 0 0] 27) := ⟨_, rfl⟩
  obtain ⟨hb3, hz3, hs3⟩ := one_full (w := w2) SLL.nil hW3
  have c4 := labeled_any n 18 0 0 none 0 [] W3 SLL.nil
  have HB3 := Lib.hid (bseq hb02 hb3)
  have HS3 := Lib.hid hs3
  have C4 := Lib.hid c4
  have HW3 := Lib.hid hW3
  clear hb2 hb02 hb3 hz3 hs3 c4 hW3
  go_wp2_with fail
  rw [← HW3.out]
  refine (C4.out).mono ?_
  rintro e w4 ⟨a4, rfl, hs4, hb4⟩
  obtain ⟨W5, hW5⟩ : ∃ W5, W5 = w4.alloc (.cells #[.int .i64 10, .int .i64 n, .int .i64 0, .slice a4 1 1] 27) := ⟨_, rfl⟩
  obtain ⟨hb5, hz5, hs5⟩ := one_full hs4 hW5
  have hb35 := bseq hb4 hb5
  have hb05 := bseq HB3.out hb35
  have c6 := with_any l [labF n expF] a cap _ 1 W5 (HS.out.up hb05) hs5 (by simp) HLW.out
  rw [← HL1.out] at c6
  have HB5 := Lib.hid hb05
  have HS35 := Lib.hid (HS3.out.up hb35)
  have C6 := Lib.hid c6
  have HW5 := Lib.hid hW5
  clear hs4 hb4 hb5 hz5 hs5 hb35 hb05 c6 hW5
  go_wp2_with fail
  rw [← HW5.out]
  refine (C6.out).mono ?_
  rintro e w6 ⟨g6, cap6, rfl, hrw6, hb6⟩
  have HS6 := Lib.hid (hrw6.sl HLL1.out hb6.size)
  have HS36 := Lib.hid (HS35.out.up hb6)
  have HB6 := Lib.hid (bseq HB5.out hb6)
  clear hrw6 hb6
  go_wp2_with (at_builtin; refine wpList_grow rfl _ _ rfl HL.out (by rfl) (by rfl) HS36.out HS6.out (by simp) HNE.out HF.out HLL.out ?_)
  intro g7 cap7 w7 hs7 hb7
  have cvv := valid_any _ _ _ _ w7 hs7 (Nat.le_refl _)
  have HS7 := Lib.hid hs7
  have HB7 := Lib.hid (bseq HB6.out hb7)
  have CVV := Lib.hid cvv
  clear hs7 hb7 cvv
  go_wp2_with fail
  refine (CVV.out).mono ?_
  rintro e w8 ⟨rfl, hb8⟩
  have HB8 := Lib.hid (bseq HB7.out hb8)
  have HS8 := Lib.hid (HS7.out.up hb8)
  clear hb8
  cases hv : validL L with
  | false =>
    clear hv
    go_wp2_with fail
    go_ret
    exact ⟨rfl, HB8.out⟩
  | true =>
    have cj := jumps_any _ _ _ w8 HS8.out (HT.out.on HB8.out) hv
    rw [LAW.out] at cj
    have CJ := Lib.hid cj
    clear cj hv
    go_wp2_with fail
    refine (CJ.out).mono ?_
    rintro e w9 ⟨rfl, hb9⟩
    have HB9 := Lib.hid (bseq HB8.out hb9)
    clear hb9
    have cjl := jumps_any _ _ _ w9 (HS.out.up HB9.out) (HT.out.on HB9.out) HVL.out
    have CJL := Lib.hid cjl
    clear cjl
    cases hj : jumpsJ l with
    | false =>
      rw [hj] at CJL
      clear hj
      go_wp2_with fail
      refine (CJL.out).mono ?_
      rintro e w10 ⟨rfl, hb10⟩
      have HB10 := Lib.hid (bseq HB9.out hb10)
      clear hb10
      go_wp2_with fail
      refine (works_any w10 (HT.out.on HB10.out)).mono ?_
      rintro e w11 ⟨rfl, hb11⟩
      go_wp2_with fail
      go_ret
      exact ⟨rfl, bseq HB10.out hb11⟩
    | true =>
      rw [hj] at CJL
      clear hj
      go_wp2_with fail
      refine (CJL.out).mono ?_
      rintro e w10 ⟨rfl, hb10⟩
      have HB10 := Lib.hid (bseq HB9.out hb10)
      clear hb10
      have cd := declares_any l a cap _ w10 (HS.out.up HB10.out) (Nat.le_refl _)
      have CD := Lib.hid cd
      clear cd
      cases hd : l.any decF
      all_goals
        rw [hd] at CD
        clear hd
        go_wp2_with fail
        refine (CD.out).mono ?_
        rintro e w11 ⟨rfl, hb11⟩
        have HB11 := Lib.hid (bseq HB10.out hb11)
        clear hb11
        go_wp2_with fail
        refine (works_any w11 (HT.out.on HB11.out)).mono ?_
        rintro e w12 ⟨rfl, hb12⟩
        go_wp2_with fail
        go_ret
        exact ⟨rfl, bseq HB11.out hb12⟩
set_option maxHeartbeats 8000000 in
theorem fnForward_any (l : List Fl) (n : Int) (a : Option Addr) (cap : Nat) (w : World) (hs : SL w w.heap.size a cap l) (ht : Tab w) : Calls Tryz.prog 8 #[.slice a l.length cap, .int .i64 n] w (RetB w true) := by
  by_cases hlen : (l.length : Int) > 2147483647
  · clear hs ht
    go_enter Tryz.func8, Tryz.ntmps8
    go_wp2_with fail
    (try simp only [Exit.inBlock, Exit.then])
    refine bodyPost_ret (results_tmp rfl _ _ _) rfl ?_
    exact ⟨rfl, Below.refl _ _⟩
  by_cases hn : n < 1
  · clear hs ht
    go_enter Tryz.func8, Tryz.ntmps8
    go_wp2_with fail
    (try simp only [Exit.inBlock, Exit.then])
    refine bodyPost_ret (results_tmp rfl _ _ _) rfl ?_
    exact ⟨rfl, Below.refl _ _⟩
  by_cases hn9 : 9 < n
  · clear hs ht
    go_enter Tryz.func8, Tryz.ntmps8
    go_wp2_with fail
    (try simp only [Exit.inBlock, Exit.then])
    refine bodyPost_ret (results_tmp rfl _ _ _) rfl ?_
    exact ⟨rfl, Below.refl _ _⟩
  cases hh : hasL n l with
  | true =>
    have ch := hasl_any n l a cap w hs
    rw [hh] at ch
    have CH := Lib.hid ch
    clear ch hs ht hh
    go_enter Tryz.func8, Tryz.ntmps8
    go_wp2_with fail
    refine (CH.out).mono ?_
    rintro e w1 ⟨rfl, hb1⟩
    go_wp2_with fail
    (try simp only [Exit.inBlock, Exit.then])
    refine bodyPost_ret (results_tmp rfl _ _ _) rfl ?_
    exact ⟨rfl, hb1⟩
  | false =>
    cases hv : validL l with
    | false =>
      have ch := hasl_any n l a cap w hs
      rw [hh] at ch
      have CH := Lib.hid ch
      have HV := Lib.hid hv
      have HS := Lib.hid hs
      clear ch hs ht hh hv
      go_enter Tryz.func8, Tryz.ntmps8
      go_wp2_with fail
      refine (CH.out).mono ?_
      rintro e w1 ⟨rfl, hb1⟩
      have cv := valid_any _ _ _ _ w1 (HS.out.up hb1) (Nat.le_refl _)
      rw [HV.out] at cv
      have CV := Lib.hid cv
      have HB1 := Lib.hid hb1
      clear cv hb1
      go_wp2_with fail
      refine (CV.out).mono ?_
      rintro e w2 ⟨rfl, hb2⟩
      go_wp2_with fail
      (try simp only [Exit.inBlock, Exit.then])
      refine bodyPost_ret (results_tmp rfl _ _ _) rfl ?_
      exact ⟨rfl, bseq HB1.out hb2⟩
    | true => exact fnForward_main l n (by omega) (by omega) hlen hh hv a cap w hs ht
end Go.Proofs.YtpodifbgfcclbaaGreatDoor
