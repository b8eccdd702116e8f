/- FnTwice: what the law's function answers. -/
import Derived.Test.YtpodifbgfcclbaaGreatDoorLawApp
set_option linter.unusedVariables false
set_option linter.unusedSimpArgs false
namespace Go.Proofs.YtpodifbgfcclbaaGreatDoor
open Go.RowKit
attribute [local go_sem] Nat.lt_add_one_of_lt

set_option maxHeartbeats 8000000 in
theorem fnTwice_main (l m : List Fl) (n : Int) (hn1 : 1 ≤ n) (hn2 : n ≤ 9) (hlen : ¬ (l.length : Int) > 2147483647) (hlenm : ¬ (m.length : Int) > 2147483647) (a : Option Addr) (cap : Nat) (a2 : Option Addr) (cap2 : Nat) (w : World) (hs : SL w w.heap.size a cap l) (hs2 : SL w w.heap.size a2 cap2 m) (ht : Tab w) : Calls Tryz.prog 19 #[.slice a l.length cap, .slice a2 m.length cap2, .int .i64 n] w (RetB w true) := by
  obtain ⟨L1, hL1⟩ : ∃ L1, L1 = l ++ [labF n expF] := ⟨_, rfl⟩
  obtain ⟨L2, hL2⟩ : ∃ L2, L2 = L1 ++ m := ⟨_, rfl⟩
  obtain ⟨L, hL⟩ : ∃ L, L = L2 ++ [labF n expF, jmpF 11 n] := ⟨_, rfl⟩
  have hz1 : L1.length = l.length + 1 := by rw [hL1]; simp
  have hz2 : L2.length = l.length + 1 + m.length := by rw [hL2, List.length_append, hz1]
  have hz : L.length = l.length + 1 + m.length + 2 := by rw [hL, List.length_append, hz2]; simp
  have hLl1 : L1.length * 48 ≤ 140737488355328 := by omega
  have hLl2 : L2.length * 48 ≤ 140737488355328 := by omega
  have hLl : L.length * 48 ≤ 140737488355328 := by omega
  have hll : (l.length + [labF n expF].length) * 48 ≤ 140737488355328 := by rw [List.length_singleton]; omega
  have hll2 : (L2.length + [labF n expF, jmpF 11 n].length) * 48 ≤ 140737488355328 := by simp only [List.length_cons, List.length_nil]; omega
  have law : jumpsJ L = false := by rw [hL, hL2, hL1]; simpa using law_twice n hn1 l m [jmpF 11 n]
  have HS := Lib.hid hs
  have HS2 := Lib.hid hs2
  have HT := Lib.hid ht
  have LAW := Lib.hid law
  have HL := Lib.hid hL
  have HL1 := Lib.hid hL1
  have HL2 := Lib.hid hL2
  have HLL := Lib.hid hLl
  have HLL1 := Lib.hid hLl1
  have HLL2 := Lib.hid hLl2
  have HLW := Lib.hid hll
  have HLW2 := Lib.hid hll2
  have c1 := labeled_any n 18 0 0 none 0 [] w SLL.nil
  have C1 := Lib.hid c1
  clear hs hs2 ht law hL hL1 hL2 hLl hLl1 hLl2 hll hll2 c1 hz1 hz2 hz
  by_cases hm : m = []
  · subst hm
    cases a2
    all_goals
      go_enter Tryz.func19, Tryz.ntmps19
      go_wp2_with fail
      refine (C1.out).mono ?_
      rintro e w1 ⟨a1, rfl, hs1, hb1⟩
      obtain ⟨W2, hW2⟩ : ∃ W2, W2 = w1.alloc (.cells #[.int .i64 10, .int .i64 n, .int .i64 0, .slice a1 1 1] 27) := ⟨_, rfl⟩
      obtain ⟨hb12, hz12, hs12⟩ := one_full hs1 hW2
      have hb02 := bseq hb1 hb12
      have c3 := with_any l [labF n expF] a cap _ 1 W2 (HS.out.up hb02) hs12 (by simp) HLW.out
      rw [← HL1.out] at c3
      have C3 := Lib.hid c3
      have HB2 := Lib.hid hb02
      have HW2 := Lib.hid hW2
      clear hs1 hb1 hb12 hz12 hs12 hb02 c3 hW2
      go_wp2_with fail
      rw [← HW2.out]
      refine (C3.out).mono ?_
      rintro e w3 ⟨g3, cap3, rfl, hrw3, hb3⟩
      have HRW3 := Lib.hid hrw3
      have HB23 := Lib.hid hb3
      have HB3 := Lib.hid (bseq HB2.out hb3)
      clear hrw3 hb3
      obtain rfl : L2 = L1 := by rw [HL2.out, List.append_nil]
      obtain ⟨w4, hw4⟩ : ∃ w4, w4 = w3 := ⟨_, rfl⟩
      obtain ⟨g4, hg4⟩ : ∃ g4, g4 = g3 := ⟨_, rfl⟩
      obtain ⟨cap4, hc4⟩ : ∃ cap4, cap4 = cap3 := ⟨_, rfl⟩
      subst hw4 hg4 hc4
      have HS4 := Lib.hid (HRW3.out.sl HLL2.out HB23.out.size)
      have HB4 := HB3
      have hcap4 : L2.length ≤ cap4 := HS4.out.1
      have c5 := labeled_any n 18 0 0 none 0 [] w4 SLL.nil
      have C5 := Lib.hid c5
      clear c5
      go_wp2_with fail
      refine (C5.out).mono ?_
      rintro e w5 ⟨a5, rfl, hs5, hb5⟩
      obtain ⟨W6, hW6⟩ : ∃ W6, W6 = w5.alloc (.cells #[.int .i64 10, .int .i64 n, .int .i64 0, .slice a5 1 1, .int .i64 11, .int .i64 n, .int .i64 0, .slice none 0 0] 27) := ⟨_, rfl⟩
      obtain ⟨hb6, hz6, hs6⟩ := two_full hs5 SLL.nil hW6
      have hb46 := bseq hb5 hb6
      have c7 := with_any L2 [labF n expF, jmpF 11 n] _ _ _ 2 W6 (HS4.out.up hb46) hs6 (by simp) HLW2.out
      rw [← HL.out] at c7
      have C7 := Lib.hid c7
      have HB6 := Lib.hid (bseq HB4.out hb46)
      have HW6 := Lib.hid hW6
      clear hs5 hb5 hb6 hz6 hs6 hb46 c7 hW6
      go_wp2_with fail
      rw [← HW6.out]
      refine (C7.out).mono ?_
      rintro e w7 ⟨g7, cap7, rfl, hrw7, hb7⟩
      have hs7 := hrw7.sl HLL.out hb7.size
      have cvv := valid_any _ _ _ _ w7 hs7 (Nat.le_refl _)
      have HS7 := Lib.hid hs7
      have HB7 := Lib.hid (bseq HB6.out hb7)
      have CVV := Lib.hid cvv
      clear hrw7 hs7 hb7 cvv
      go_wp2_with fail
      refine (CVV.out).mono ?_
      rintro e w8 ⟨rfl, hb8⟩
      have HB8 := Lib.hid (bseq HB7.out hb8)
      have HS8 := Lib.hid (HS7.out.up hb8)
      clear hb8
      cases hv : validL L with
      | false =>
        clear hv
        go_wp2_with fail
        go_ret
        exact ⟨rfl, HB8.out⟩
      | true =>
        have cj := jumps_any _ _ _ w8 HS8.out (HT.out.on HB8.out) hv
        rw [LAW.out] at cj
        have CJ := Lib.hid cj
        clear cj hv
        go_wp2_with fail
        refine (CJ.out).mono ?_
        rintro e w9 ⟨rfl, hb9⟩
        have HB9 := Lib.hid (bseq HB8.out hb9)
        clear hb9
        go_wp2_with fail
        refine (works_any w9 (HT.out.on HB9.out)).mono ?_
        rintro e w10 ⟨rfl, hb10⟩
        go_wp2_with fail
        go_ret
        exact ⟨rfl, bseq HB9.out hb10⟩
  · go_enter Tryz.func19, Tryz.ntmps19
    go_wp2_with fail
    refine (C1.out).mono ?_
    rintro e w1 ⟨a1, rfl, hs1, hb1⟩
    obtain ⟨W2, hW2⟩ : ∃ W2, W2 = w1.alloc (.cells #[.int .i64 10, .int .i64 n, .int .i64 0, .slice a1 1 1] 27) := ⟨_, rfl⟩
    obtain ⟨hb12, hz12, hs12⟩ := one_full hs1 hW2
    have hb02 := bseq hb1 hb12
    have c3 := with_any l [labF n expF] a cap _ 1 W2 (HS.out.up hb02) hs12 (by simp) HLW.out
    rw [← HL1.out] at c3
    have C3 := Lib.hid c3
    have HB2 := Lib.hid hb02
    have HW2 := Lib.hid hW2
    clear hs1 hb1 hb12 hz12 hs12 hb02 c3 hW2
    go_wp2_with fail
    rw [← HW2.out]
    refine (C3.out).mono ?_
    rintro e w3 ⟨g3, cap3, rfl, hrw3, hb3⟩
    have HRW3 := Lib.hid hrw3
    have HB23 := Lib.hid hb3
    have HB3 := Lib.hid (bseq HB2.out hb3)
    clear hrw3 hb3
    obtain ⟨b2, o2, rfl, he2⟩ := HS2.out.en hm
    have HE2 := Lib.hid ((he2.keep (w' := W2) (fun k hk => HB2.out.block k hk) HB2.out.size).keep (w' := w3) (fun k hk => HB23.out.block k hk) (Nat.le_refl _))
    have HM := Lib.hid hm
    have HZ23 := Lib.hid HB23.out.size
    clear he2 hm
    go_wp2_with (at_builtin; refine wpList_app rfl _ _ rfl HL2.out HRW3.out (by rfl) (by rfl) HE2.out HM.out HLL2.out HZ23.out ?_)
    intro g4 cap4 w4 hrw4 hb4
    have HB24 := Lib.hid (HB23.out.trans hb4)
    have HS4 := Lib.hid (hrw4.sl HLL2.out HB24.out.size)
    have HB4 := Lib.hid (bseq HB2.out HB24.out)
    clear hrw4 hb4
    have c5 := labeled_any n 18 0 0 none 0 [] w4 SLL.nil
    have C5 := Lib.hid c5
    clear c5
    go_wp2_with fail
    refine (C5.out).mono ?_
    rintro e w5 ⟨a5, rfl, hs5, hb5⟩
    obtain ⟨W6, hW6⟩ : ∃ W6, W6 = w5.alloc (.cells #[.int .i64 10, .int .i64 n, .int .i64 0, .slice a5 1 1, .int .i64 11, .int .i64 n, .int .i64 0, .slice none 0 0] 27) := ⟨_, rfl⟩
    obtain ⟨hb6, hz6, hs6⟩ := two_full hs5 SLL.nil hW6
    have hb46 := bseq hb5 hb6
    have c7 := with_any L2 [labF n expF, jmpF 11 n] _ _ _ 2 W6 (HS4.out.up hb46) hs6 (by simp) HLW2.out
    rw [← HL.out] at c7
    have C7 := Lib.hid c7
    have HB6 := Lib.hid (bseq HB4.out hb46)
    have HW6 := Lib.hid hW6
    clear hs5 hb5 hb6 hz6 hs6 hb46 c7 hW6
    go_wp2_with fail
    rw [← HW6.out]
    refine (C7.out).mono ?_
    rintro e w7 ⟨g7, cap7, rfl, hrw7, hb7⟩
    have hs7 := hrw7.sl HLL.out hb7.size
    have cvv := valid_any _ _ _ _ w7 hs7 (Nat.le_refl _)
    have HS7 := Lib.hid hs7
    have HB7 := Lib.hid (bseq HB6.out hb7)
    have CVV := Lib.hid cvv
    clear hrw7 hs7 hb7 cvv
    go_wp2_with fail
    refine (CVV.out).mono ?_
    rintro e w8 ⟨rfl, hb8⟩
    have HB8 := Lib.hid (bseq HB7.out hb8)
    have HS8 := Lib.hid (HS7.out.up hb8)
    clear hb8
    cases hv : validL L with
    | false =>
      clear hv
      go_wp2_with fail
      go_ret
      exact ⟨rfl, HB8.out⟩
    | true =>
      have cj := jumps_any _ _ _ w8 HS8.out (HT.out.on HB8.out) hv
      rw [LAW.out] at cj
      have CJ := Lib.hid cj
      clear cj hv
      go_wp2_with fail
      refine (CJ.out).mono ?_
      rintro e w9 ⟨rfl, hb9⟩
      have HB9 := Lib.hid (bseq HB8.out hb9)
      clear hb9
      go_wp2_with fail
      refine (works_any w9 (HT.out.on HB9.out)).mono ?_
      rintro e w10 ⟨rfl, hb10⟩
      go_wp2_with fail
      go_ret
      exact ⟨rfl, bseq HB9.out hb10⟩
set_option maxHeartbeats 8000000 in
theorem fnTwice_any (l m : List Fl) (n : Int) (a : Option Addr) (cap : Nat) (a2 : Option Addr) (cap2 : Nat) (w : World) (hs : SL w w.heap.size a cap l) (hs2 : SL w w.heap.size a2 cap2 m) (ht : Tab w) : Calls Tryz.prog 19 #[.slice a l.length cap, .slice a2 m.length cap2, .int .i64 n] w (RetB w true) := by
  by_cases hlen : (l.length : Int) > 2147483647
  · clear hs hs2 ht
    go_enter Tryz.func19, Tryz.ntmps19
    go_wp2_with fail
    (try simp only [Exit.inBlock, Exit.then])
    refine bodyPost_ret (results_tmp rfl _ _ _) rfl ?_
    exact ⟨rfl, Below.refl _ _⟩
  by_cases hlenm : (m.length : Int) > 2147483647
  · clear hs hs2 ht
    go_enter Tryz.func19, Tryz.ntmps19
    go_wp2_with fail
    (try simp only [Exit.inBlock, Exit.then])
    refine bodyPost_ret (results_tmp rfl _ _ _) rfl ?_
    exact ⟨rfl, Below.refl _ _⟩
  by_cases hn : n < 1
  · clear hs hs2 ht
    go_enter Tryz.func19, Tryz.ntmps19
    go_wp2_with fail
    (try simp only [Exit.inBlock, Exit.then])
    refine bodyPost_ret (results_tmp rfl _ _ _) rfl ?_
    exact ⟨rfl, Below.refl _ _⟩
  by_cases hn9 : 9 < n
  · clear hs hs2 ht
    go_enter Tryz.func19, Tryz.ntmps19
    go_wp2_with fail
    (try simp only [Exit.inBlock, Exit.then])
    refine bodyPost_ret (results_tmp rfl _ _ _) rfl ?_
    exact ⟨rfl, Below.refl _ _⟩
  exact fnTwice_main l m n (by omega) (by omega) hlen hlenm a cap a2 cap2 w hs hs2 ht
end Go.Proofs.YtpodifbgfcclbaaGreatDoor
