/- FnDefault and FnCases: what the laws' functions answer. -/
import Derived.Test.YtpodifbgfcclbaaGreatDoorLaw1
set_option linter.unusedVariables false
set_option linter.unusedSimpArgs false
namespace Go.Proofs.YtpodifbgfcclbaaGreatDoor
open Go.RowKit
attribute [local go_sem] Nat.lt_add_one_of_lt

/-- A statement with lists, in a list of its own. -/
theorem one_stmt {w W : World} {a : Option Addr} {cap : Nat} {l : List (List Fl)} {k n : Int} (hs : SLL w w.heap.size a cap l) (hW : W = w.alloc (.cells #[.int .i64 k, .int .i64 0, .int .i64 n, .slice a l.length cap] 27)) :
    Below w.heap.size w W ∧ SL W W.heap.size (some ⟨w.heap.size, 0, none⟩) 1 [.mk k 0 n l] := by
  have hb := bal w (.cells #[.int .i64 k, .int .i64 0, .int .i64 n, .slice a l.length cap] 27)
  have c1 : W.heap[w.heap.size]? = some (.cells #[.int .i64 k, .int .i64 0, .int .i64 n, .slice a l.length cap] 27) := by rw [hW]; exact blk_new _ _ _
  rw [← hW] at hb
  have hz : W.heap.size = w.heap.size + 1 := by rw [hW]; simp
  exact ⟨hb, SL_one c1 (by omega) (hs.up hb)⟩
set_option maxHeartbeats 4000000 in
theorem fnDefault_any (l : List (List Fl)) (k n : Int) (a : Option Addr) (cap : Nat) (w : World) (hs : SLL w w.heap.size a cap l) (ht : Tab w) : Calls Tryz.prog 6 #[.slice a l.length cap, .int .i64 k, .int .i64 n] w (RetB w true) := by
  by_cases hlen : (l.length : Int) > 2147483647
  · clear hs ht
    go_enter Tryz.func6, Tryz.ntmps6
    go_wp2_with fail
    (try simp only [Exit.inBlock, Exit.then])
    refine bodyPost_ret (results_tmp rfl _ _ _) rfl ?_
    exact ⟨rfl, Below.refl _ _⟩
  by_cases hk : k = 6 ∨ k = 7
  · by_cases hn : 0 ≤ n ∧ n < (l.length : Int)
    · obtain ⟨hn1, hn2⟩ := hn
      clear hs ht
      rcases hk with rfl | rfl
      all_goals
        go_enter Tryz.func6, Tryz.ntmps6
        go_wp2_with fail
        (try simp only [Exit.inBlock, Exit.then])
        refine bodyPost_ret (results_tmp rfl _ _ _) rfl ?_
        exact ⟨rfl, Below.refl _ _⟩
    · obtain ⟨W, hW⟩ : ∃ W, W = w.alloc (.cells #[.int .i64 k, .int .i64 0, .int .i64 n, .slice a l.length cap] 27) := ⟨_, rfl⟩
      obtain ⟨hb, hsx⟩ := one_stmt (k := k) (n := n) hs hW
      have htW : Tab W := ht.on hb
      have cv := valid_any _ _ _ _ W hsx (Nat.le_refl _)
      have hlaw := law_default k n hk l hn
      have hend : ∀ w4, Below W.heap.size W w4 → validL [.mk k 0 n l] = true → Calls Tryz.prog 28 #[.slice (some ⟨w.heap.size, 0, none⟩) 1 1] w4 (RetB w4 false) := by
        intro w4 hb4 hv
        have := ends_any _ _ _ w4 (hsx.up hb4) (htW.on hb4) hv
        rw [hlaw] at this
        exact this
      have hcase : n < 0 ∨ (0 ≤ n ∧ ¬ n < (l.length : Int)) := by omega
      have CV := Lib.hid cv
      have HT := Lib.hid htW
      have HB := Lib.hid hb
      have HE := Lib.hid hend
      have HW := Lib.hid hW
      clear cv hs ht hb hsx hW hlaw hend htW hn
      cases hv : validL [.mk k 0 n l]
      all_goals
        rw [hv] at CV
        have HV := Lib.hid hv
        clear hv
        rcases hk with rfl | rfl
        all_goals
          rcases hcase with hc | ⟨hc1, hc2⟩
          all_goals
            go_enter Tryz.func6, Tryz.ntmps6
            go_wp2_with fail
            rw [← HW.out]
            refine (CV.out).mono ?_
            rintro e w4 ⟨rfl, hb4⟩
            have HB4 := Lib.hid hb4
            clear hb4
            go_wp2_with fail
            first
              | (go_ret
                 exact ⟨rfl, bseq HB.out HB4.out⟩)
              | (refine (HE.out w4 HB4.out HV.out).mono ?_
                 rintro e w5 ⟨rfl, hb5⟩
                 have HB5 := Lib.hid hb5
                 clear hb5
                 go_wp2_with fail
                 refine (works_any w5 ((HT.out.on HB4.out).on HB5.out)).mono ?_
                 rintro e w6 ⟨rfl, hb6⟩
                 go_wp2_with fail
                 go_ret
                 exact ⟨rfl, bseq (bseq (bseq HB.out HB4.out) HB5.out) hb6⟩)
  · have h6 : ¬ k = 6 := fun h => hk (.inl h)
    have h7 : ¬ k = 7 := fun h => hk (.inr h)
    clear hk hs ht
    go_enter Tryz.func6, Tryz.ntmps6
    go_wp2_with fail
    (try simp only [Exit.inBlock, Exit.then])
    refine bodyPost_ret (results_tmp rfl _ _ _) rfl ?_
    exact ⟨rfl, Below.refl _ _⟩
set_option maxHeartbeats 8000000 in
theorem fnCases_any (l : List (List Fl)) (k n i : Int) (a : Option Addr) (cap : Nat) (w : World) (hs : SLL w w.heap.size a cap l) (ht : Tab w) : Calls Tryz.prog 5 #[.slice a l.length cap, .int .i64 k, .int .i64 n, .int .i64 i] w (RetB w true) := by
  by_cases hlen : (l.length : Int) > 2147483647
  · clear hs ht
    go_enter Tryz.func5, Tryz.ntmps5
    go_wp2_with fail
    (try simp only [Exit.inBlock, Exit.then])
    refine bodyPost_ret (results_tmp rfl _ _ _) rfl ?_
    exact ⟨rfl, Below.refl _ _⟩
  by_cases hk : k = 6 ∨ k = 7 ∨ k = 8
  · by_cases hi : 0 ≤ i ∧ i < (l.length : Int)
    · obtain ⟨hi1, hi2⟩ := hi
      obtain ⟨j, rfl⟩ : ∃ j : Nat, i = (j : Int) := ⟨i.toNat, by omega⟩
      have hj : j < l.length := by omega
      have hs0 := hs
      obtain ⟨_, _, b, o, hsa, hell⟩ := hs0
      obtain rfl := hsa (by rintro rfl; simp at hj)
      obtain ⟨hbl, y, a', cap', _, hy, hcell, hsy⟩ := hell.at j hj
      obtain ⟨W, hW⟩ : ∃ W, W = w.alloc (.cells #[.int .i64 k, .int .i64 0, .int .i64 n, .slice (some ⟨b, o, none⟩) l.length cap] 27) := ⟨_, rfl⟩
      obtain ⟨hb, hsx⟩ := one_stmt (k := k) (n := n) hs hW
      have htW : Tab W := ht.on hb
      have cv := valid_any _ _ _ _ W hsx (Nat.le_refl _)
      have hcy : ∀ w4, Below W.heap.size W w4 → w4.cell? ⟨b, o + j, none⟩ = some (.slice a' y.length cap') ∧ b < w4.heap.size := fun w4 h4 => by
        have hbb := bseq hb h4
        exact ⟨(hbb.cell (p := ⟨b, o + j, none⟩) hbl).trans hcell, by have := hbb.size; omega⟩
      have hvy : ∀ w4, Below W.heap.size W w4 → Calls Tryz.prog 22 #[.slice a' y.length cap'] w4 (RetB w4 (validL y)) := fun w4 h4 => valid_any _ _ _ _ w4 (hsy.up (bseq hb h4)) (Nat.le_refl _)
      have hey : ∀ w4, Below W.heap.size W w4 → validL y = true → Calls Tryz.prog 28 #[.slice a' y.length cap'] w4 (RetB w4 (teL y)) := fun w4 h4 hv => ends_any _ _ _ w4 (hsy.up (bseq hb h4)) (htW.on h4) hv
      have hex : ∀ w4, Below W.heap.size W w4 → validL [.mk k 0 n l] = true → teL y = false → Calls Tryz.prog 28 #[.slice (some ⟨w.heap.size, 0, none⟩) 1 1] w4 (RetB w4 false) := fun w4 h4 hv hy0 => by
        have := ends_any _ _ _ w4 (hsx.up h4) (htW.on h4) hv
        rw [law_cases k n hk l j y hy hy0] at this
        exact this
      have CV := Lib.hid cv
      have HT := Lib.hid htW
      have HB := Lib.hid hb
      have HCY := Lib.hid hcy
      have HVY := Lib.hid hvy
      have HEY := Lib.hid hey
      have HEX := Lib.hid hex
      have HW := Lib.hid hW
      clear cv hs ht hb hsx hW htW hcy hvy hey hex hell hsa hsy hcell hy
      cases hv : validL [.mk k 0 n l] with
      | false =>
        rw [hv] at CV
        rcases hk with rfl | rfl | rfl
        all_goals
          go_enter Tryz.func5, Tryz.ntmps5
          go_wp2_with fail
          rw [← HW.out]
          refine (CV.out).mono ?_
          rintro e w4 ⟨rfl, hb4⟩
          have HB4 := Lib.hid hb4
          clear hb4
          go_wp2_with fail
          (try simp only [Exit.inBlock, Exit.then])
          refine bodyPost_ret (results_tmp rfl _ _ _) rfl ?_
          exact ⟨rfl, bseq HB.out HB4.out⟩
      | true =>
        rw [hv] at CV
        have HV := Lib.hid hv
        clear hv
        cases hvl : validL y with
        | false =>
          have HVL := Lib.hid hvl
          clear hvl
          rcases hk with rfl | rfl | rfl
          all_goals
            go_enter Tryz.func5, Tryz.ntmps5
            go_wp2_with fail
            rw [← HW.out]
            refine (CV.out).mono ?_
            rintro e w4 ⟨rfl, hb4⟩
            obtain ⟨cc, cb⟩ := HCY.out w4 hb4
            have HB4 := Lib.hid hb4
            clear hb4
            go_wp2_with fail
            refine (HVY.out w4 HB4.out).mono ?_
            rintro e w5 ⟨rfl, hb5⟩
            rw [HVL.out]
            have HB5 := Lib.hid hb5
            clear hb5
            go_wp2_with fail
            (try simp only [Exit.inBlock, Exit.then])
            refine bodyPost_ret (results_tmp rfl _ _ _) rfl ?_
            exact ⟨rfl, bseq (bseq HB.out HB4.out) HB5.out⟩
        | true =>
          have HVL := Lib.hid hvl
          clear hvl
          cases hte : teL y with
          | true =>
            have HTE := Lib.hid hte
            clear hte
            rcases hk with rfl | rfl | rfl
            all_goals
              go_enter Tryz.func5, Tryz.ntmps5
              go_wp2_with fail
              rw [← HW.out]
              refine (CV.out).mono ?_
              rintro e w4 ⟨rfl, hb4⟩
              obtain ⟨cc, cb⟩ := HCY.out w4 hb4
              have HB4 := Lib.hid hb4
              clear hb4
              go_wp2_with fail
              refine (HVY.out w4 HB4.out).mono ?_
              rintro e w5 ⟨rfl, hb5⟩
              rw [HVL.out]
              obtain ⟨cc5, cb5⟩ := HCY.out w5 (bseq HB4.out hb5)
              have HB5 := Lib.hid hb5
              clear hb5 cc cb
              go_wp2_with fail
              refine (HEY.out w5 (bseq HB4.out HB5.out) HVL.out).mono ?_
              rintro e w6 ⟨rfl, hb6⟩
              rw [HTE.out]
              have HB6 := Lib.hid hb6
              clear hb6
              go_wp2_with fail
              (try simp only [Exit.inBlock, Exit.then])
              refine bodyPost_ret (results_tmp rfl _ _ _) rfl ?_
              exact ⟨rfl, bseq (bseq (bseq HB.out HB4.out) HB5.out) HB6.out⟩
          | false =>
            have HTE := Lib.hid hte
            clear hte
            rcases hk with rfl | rfl | rfl
            all_goals
              go_enter Tryz.func5, Tryz.ntmps5
              go_wp2_with fail
              rw [← HW.out]
              refine (CV.out).mono ?_
              rintro e w4 ⟨rfl, hb4⟩
              obtain ⟨cc, cb⟩ := HCY.out w4 hb4
              have HB4 := Lib.hid hb4
              clear hb4
              go_wp2_with fail
              refine (HVY.out w4 HB4.out).mono ?_
              rintro e w5 ⟨rfl, hb5⟩
              rw [HVL.out]
              obtain ⟨cc5, cb5⟩ := HCY.out w5 (bseq HB4.out hb5)
              have HB5 := Lib.hid hb5
              clear hb5 cc cb
              go_wp2_with fail
              refine (HEY.out w5 (bseq HB4.out HB5.out) HVL.out).mono ?_
              rintro e w6 ⟨rfl, hb6⟩
              rw [HTE.out]
              have HB6 := Lib.hid hb6
              clear hb6 cc5 cb5
              go_wp2_with fail
              refine (HEX.out w6 (bseq (bseq HB4.out HB5.out) HB6.out) HV.out HTE.out).mono ?_
              rintro e w7 ⟨rfl, hb7⟩
              have HB7 := Lib.hid hb7
              clear hb7
              go_wp2_with fail
              refine (works_any w7 (HT.out.on (bseq (bseq (bseq HB4.out HB5.out) HB6.out) HB7.out))).mono ?_
              rintro e w8 ⟨rfl, hb8⟩
              go_wp2_with fail
              go_ret
              exact ⟨rfl, bseq HB.out (bseq (bseq (bseq (bseq HB4.out HB5.out) HB6.out) HB7.out) hb8)⟩
    · have hi' : i < 0 ∨ (0 ≤ i ∧ (l.length : Int) ≤ i) := by omega
      clear hs ht hi
      rcases hk with rfl | rfl | rfl
      all_goals
        rcases hi' with hc | ⟨hc1, hc2⟩
        all_goals
          go_enter Tryz.func5, Tryz.ntmps5
          go_wp2_with fail
          (try simp only [Exit.inBlock, Exit.then])
          refine bodyPost_ret (results_tmp rfl _ _ _) rfl ?_
          exact ⟨rfl, Below.refl _ _⟩
  · have h6 : ¬ k = 6 := fun h => hk (.inl h)
    have h7 : ¬ k = 7 := fun h => hk (.inr (.inl h))
    have h8 : ¬ k = 8 := fun h => hk (.inr (.inr h))
    clear hk hs ht
    go_enter Tryz.func5, Tryz.ntmps5
    go_wp2_with fail
    (try simp only [Exit.inBlock, Exit.then])
    refine bodyPost_ret (results_tmp rfl _ _ _) rfl ?_
    exact ⟨rfl, Below.refl _ _⟩
end Go.Proofs.YtpodifbgfcclbaaGreatDoor
