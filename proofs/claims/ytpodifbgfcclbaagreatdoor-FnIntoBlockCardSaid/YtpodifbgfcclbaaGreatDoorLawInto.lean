/- FnIntoBlock: what the law's function answers. -/
import Derived.Test.YtpodifbgfcclbaaGreatDoorLawApp
set_option linter.unusedVariables false
set_option linter.unusedSimpArgs false
namespace Go.Proofs.YtpodifbgfcclbaaGreatDoor
open Go.RowKit
attribute [local go_sem] Nat.lt_add_one_of_lt

set_option maxHeartbeats 8000000 in
theorem fnIntoBlock_main (l : List Fl) (k n : Int) (x : Bool) (hn1 : 1 ≤ n) (hn2 : n ≤ 9) (hk1 : 2 ≤ k) (hk2 : k ≤ 9) (hlen : ¬ (l.length : Int) > 2147483647) (hh : hasL n l = false) (a : Option Addr) (cap : Nat) (w : World) (hs : SL w w.heap.size a cap l) (ht : Tab w) : Calls Tryz.prog 11 #[.slice a l.length cap, .int .i64 k, .int .i64 n, .bool x] w (RetB w true) := by
  obtain ⟨L, hL⟩ : ∃ L, L = l ++ [labF n expF] := ⟨_, rfl⟩
  have hLl : L.length * 48 ≤ 140737488355328 := by rw [hL, List.length_append, List.length_singleton]; omega
  have hll : (l.length + [labF n expF].length) * 48 ≤ 140737488355328 := by rw [List.length_singleton]; omega
  obtain ⟨law1, law2⟩ := law_into n k hk1 hk2 [L]
  have ch := hasl_any n l a cap w hs
  rw [hh] at ch
  have CH := Lib.hid ch
  have HS := Lib.hid hs
  have HT := Lib.hid ht
  have LAW1 := Lib.hid law1
  have LAW2 := Lib.hid law2
  have HL := Lib.hid hL
  have HLL := Lib.hid hLl
  have HLW := Lib.hid hll
  clear ch hs ht hh law1 law2 hL hLl hll
  cases x
  all_goals
    go_enter Tryz.func11, Tryz.ntmps11
    go_wp2_with fail
    refine (CH.out).mono ?_
    rintro e w1 ⟨rfl, hb1⟩
    have c2 := labeled_any n 18 0 0 none 0 [] w1 SLL.nil
    have C2 := Lib.hid c2
    have HB1 := Lib.hid hb1
    clear c2 hb1
    go_wp2_with fail
    refine (C2.out).mono ?_
    rintro e w2 ⟨a2, rfl, hs2, hb2⟩
    have hb02 := bseq HB1.out hb2
    obtain ⟨W3, hW3⟩ : ∃ W3, W3 = w2.alloc (.cells #[.int .i64 10, .int .i64 n, .int .i64 0, .slice a2 1 1] 27) := ⟨_, rfl⟩
    obtain ⟨hb23, hz3, hs3⟩ := one_full hs2 hW3
    have hb03 := bseq hb02 hb23
    have c4 := with_any l [labF n expF] a cap _ 1 W3 (HS.out.up hb03) hs3 (by simp) HLW.out
    rw [← HL.out] at c4
    have C4 := Lib.hid c4
    have HB3 := Lib.hid hb03
    have HW3 := Lib.hid hW3
    clear hs2 hb2 hb02 hb23 hz3 hs3 hb03 c4 hW3
    go_wp2_with fail
    rw [← HW3.out]
    refine (C4.out).mono ?_
    rintro e w4 ⟨g4, cap4, rfl, hrw4, hb4⟩
    have hs4 := hrw4.sl HLL.out hb4.size
    have hb04 := bseq HB3.out hb4
    obtain ⟨W6, hW6⟩ : ∃ W6, W6 = (w4.alloc (.cells #[.slice (some ⟨g4, 0, none⟩) L.length cap4] 22)).alloc (.cells #[.int .i64 k, .int .i64 0, .int .i64 0, .slice (some ⟨w4.heap.size, 0, none⟩) 1 1] 27) := ⟨_, rfl⟩
    obtain ⟨hb6, hz6, hs6⟩ := one_mk hs4 hW6
    obtain ⟨W7, hW7⟩ : ∃ W7, W7 = W6.alloc (.cells #[.int .i64 k, .int .i64 0, .int .i64 0, .slice (some ⟨w4.heap.size, 0, none⟩) 1 1] 27) := ⟨_, rfl⟩
    have hb7 : Below W6.heap.size W6 W7 := by rw [hW7]; exact bal _ _
    have hs7 := hs6.up hb7
    have hz7 : W7.heap.size = w4.heap.size + 3 := by rw [hW7]; simp [hz6]
    have hb07 := bseq (bseq hb04 hb6) hb7
    have e7 : W7 = ((w4.alloc (.cells #[.slice (some ⟨g4, 0, none⟩) L.length cap4] 22)).alloc (.cells #[.int .i64 k, .int .i64 0, .int .i64 0, .slice (some ⟨w4.heap.size, 0, none⟩) 1 1] 27)).alloc (.cells #[.int .i64 k, .int .i64 0, .int .i64 0, .slice (some ⟨w4.heap.size, 0, none⟩) 1 1] 27) := by rw [hW7, hW6]
    have HB07 := Lib.hid hb07
    have HS7 := Lib.hid hs7
    have HZ7 := Lib.hid hz7
    have HE7 := Lib.hid e7
    clear hrw4 hs4 hb4 hb04 hW6 hb6 hz6 hs6 hW7 hb7 hs7 hz7 hb07 e7
    go_wp2_with fail
    refine (of_any k _ 1 1 _).mono ?_
    rintro e _ ⟨rfl, rfl⟩
    go_wp2_with fail
    rw [← HE7.out]
  · obtain ⟨W9, hW9⟩ : ∃ W9, W9 = W7.alloc (.cells #[.int .i64 11, .int .i64 n, .int .i64 0, .slice none 0 0, .int .i64 k, .int .i64 0, .int .i64 0, .slice (some ⟨w4.heap.size, 0, none⟩) 1 1] 27) := ⟨_, rfl⟩
    obtain ⟨hb9, hz9, hs9⟩ := two_full (w := W7) SLL.nil HS7.out hW9
    rw [HZ7.out] at hs9
    rw [← hW9]
    have hb09 := bseq HB07.out hb9
    have HB9 := Lib.hid hb09
    have HS9 := Lib.hid hs9
    clear hW9 hb9 hz9 hs9 hb09
    refine (valid_any _ _ _ _ W9 HS9.out (Nat.le_refl _)).mono ?_
    rintro e w10 ⟨rfl, hb10⟩
    have HB10 := Lib.hid (bseq HB9.out hb10)
    have HS10 := Lib.hid (HS9.out.up hb10)
    clear hb10
    cases hv : validL [.mk 11 n 0 [], .mk k 0 0 [L]] with
    | false =>
      have HV := Lib.hid hv
      clear hv
      go_wp2_with fail
      go_ret
      exact ⟨rfl, HB10.out⟩
    | true =>
      have cj := jumps_any _ _ _ w10 HS10.out (HT.out.on HB10.out) hv
      rw [show jumpsJ [.mk 11 n 0 [], .mk k 0 0 [L]] = false from LAW1.out] at cj
      have CJ := Lib.hid cj
      clear cj hv
      go_wp2_with fail
      refine (CJ.out).mono ?_
      rintro e w11 ⟨rfl, hb11⟩
      have HB11 := Lib.hid (bseq HB10.out hb11)
      clear hb11
      go_wp2_with fail
      refine (works_any w11 (HT.out.on HB11.out)).mono ?_
      rintro e w12 ⟨rfl, hb12⟩
      go_wp2_with fail
      go_ret
      exact ⟨rfl, bseq HB11.out hb12⟩
  · obtain ⟨W8, hW8⟩ : ∃ W8, W8 = W7.alloc (.cells #[.int .i64 11, .int .i64 n, .int .i64 0, .slice none 0 0, .int .i64 k, .int .i64 0, .int .i64 0, .slice (some ⟨w4.heap.size, 0, none⟩) 1 1] 27) := ⟨_, rfl⟩
    have hb8 : Below W7.heap.size W7 W8 := by rw [hW8]; exact bal _ _
    have hz8 : W8.heap.size = w4.heap.size + 4 := by rw [hW8]; simp [HZ7.out]
    obtain ⟨W9, hW9⟩ : ∃ W9, W9 = W8.alloc (.cells #[.int .i64 k, .int .i64 0, .int .i64 0, .slice (some ⟨w4.heap.size, 0, none⟩) 1 1, .int .i64 11, .int .i64 n, .int .i64 0, .slice none 0 0] 27) := ⟨_, rfl⟩
    obtain ⟨hb9, hz9, hs9⟩ := two_full (w := W8) (HS7.out.up hb8) SLL.nil hW9
    rw [hz8] at hs9
    rw [← hW8, ← hW9]
    have hb09 := bseq (bseq HB07.out hb8) hb9
    clear hb8 hz8 hW8
    have HB9 := Lib.hid hb09
    have HS9 := Lib.hid hs9
    clear hW9 hb9 hz9 hs9 hb09
    refine (valid_any _ _ _ _ W9 HS9.out (Nat.le_refl _)).mono ?_
    rintro e w10 ⟨rfl, hb10⟩
    have HB10 := Lib.hid (bseq HB9.out hb10)
    have HS10 := Lib.hid (HS9.out.up hb10)
    clear hb10
    cases hv : validL [.mk k 0 0 [L], .mk 11 n 0 []] with
    | false =>
      have HV := Lib.hid hv
      clear hv
      go_wp2_with fail
      go_ret
      exact ⟨rfl, HB10.out⟩
    | true =>
      have cj := jumps_any _ _ _ w10 HS10.out (HT.out.on HB10.out) hv
      rw [show jumpsJ [.mk k 0 0 [L], .mk 11 n 0 []] = false from LAW2.out] at cj
      have CJ := Lib.hid cj
      clear cj hv
      go_wp2_with fail
      refine (CJ.out).mono ?_
      rintro e w11 ⟨rfl, hb11⟩
      have HB11 := Lib.hid (bseq HB10.out hb11)
      clear hb11
      go_wp2_with fail
      refine (works_any w11 (HT.out.on HB11.out)).mono ?_
      rintro e w12 ⟨rfl, hb12⟩
      go_wp2_with fail
      go_ret
      exact ⟨rfl, bseq HB11.out hb12⟩
set_option maxHeartbeats 8000000 in
theorem fnIntoBlock_any (l : List Fl) (k n : Int) (x : Bool) (a : Option Addr) (cap : Nat) (w : World) (hs : SL w w.heap.size a cap l) (ht : Tab w) : Calls Tryz.prog 11 #[.slice a l.length cap, .int .i64 k, .int .i64 n, .bool x] w (RetB w true) := by
  by_cases hlen : (l.length : Int) > 2147483647
  · clear hs ht
    go_enter Tryz.func11, Tryz.ntmps11
    go_wp2_with fail
    (try simp only [Exit.inBlock, Exit.then])
    refine bodyPost_ret (results_tmp rfl _ _ _) rfl ?_
    exact ⟨rfl, Below.refl _ _⟩
  by_cases hn : n < 1
  · clear hs ht
    go_enter Tryz.func11, Tryz.ntmps11
    go_wp2_with fail
    (try simp only [Exit.inBlock, Exit.then])
    refine bodyPost_ret (results_tmp rfl _ _ _) rfl ?_
    exact ⟨rfl, Below.refl _ _⟩
  by_cases hn9 : 9 < n
  · clear hs ht
    go_enter Tryz.func11, Tryz.ntmps11
    go_wp2_with fail
    (try simp only [Exit.inBlock, Exit.then])
    refine bodyPost_ret (results_tmp rfl _ _ _) rfl ?_
    exact ⟨rfl, Below.refl _ _⟩
  by_cases hk : k < 2
  · clear hs ht
    go_enter Tryz.func11, Tryz.ntmps11
    go_wp2_with fail
    (try simp only [Exit.inBlock, Exit.then])
    refine bodyPost_ret (results_tmp rfl _ _ _) rfl ?_
    exact ⟨rfl, Below.refl _ _⟩
  by_cases hk9 : 9 < k
  · clear hs ht
    go_enter Tryz.func11, Tryz.ntmps11
    go_wp2_with fail
    (try simp only [Exit.inBlock, Exit.then])
    refine bodyPost_ret (results_tmp rfl _ _ _) rfl ?_
    exact ⟨rfl, Below.refl _ _⟩
  cases hh : hasL n l with
  | false => exact fnIntoBlock_main l k n x (by omega) (by omega) (by omega) (by omega) hlen hh a cap w hs ht
  | true =>
    have ch := hasl_any n l a cap w hs
    rw [hh] at ch
    have CH := Lib.hid ch
    clear ch hs ht hh
    go_enter Tryz.func11, Tryz.ntmps11
    go_wp2_with fail
    refine (CH.out).mono ?_
    rintro e w1 ⟨rfl, hb1⟩
    go_wp2_with fail
    (try simp only [Exit.inBlock, Exit.then])
    refine bodyPost_ret (results_tmp rfl _ _ _) rfl ?_
    exact ⟨rfl, hb1⟩
end Go.Proofs.YtpodifbgfcclbaaGreatDoor
