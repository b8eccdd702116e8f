/- FnBlock and FnInBlock: what the laws' functions answer. -/
import Derived.Test.YtpodifbgfcclbaaGreatDoorLaw1
set_option linter.unusedVariables false
set_option linter.unusedSimpArgs false
namespace Go.Proofs.YtpodifbgfcclbaaGreatDoor
open Go.RowKit
attribute [local go_sem] Nat.lt_add_one_of_lt

/-- A statement with one list, in a list of its own. -/
theorem one_list {w W : World} {a : Option Addr} {cap : Nat} {l : List Fl} {k : Int} (hs : SL w w.heap.size a cap l)
    (hW : W = ((w.alloc (.cells #[.slice a l.length cap] 22)).alloc (.cells #[.int .i64 k, .int .i64 0, .int .i64 0, .slice (some ⟨w.heap.size, 0, none⟩) 1 1] 27)).alloc (.cells #[.int .i64 k, .int .i64 0, .int .i64 0, .slice (some ⟨w.heap.size, 0, none⟩) 1 1] 27)) :
    Below w.heap.size w W ∧ W.heap.size = w.heap.size + 3 ∧ SL W W.heap.size (some ⟨w.heap.size + 2, 0, none⟩) 1 [ofF k [l]] := by
  have hb1 := bal w (.cells #[.slice a l.length cap] 22)
  obtain ⟨W1, hW1⟩ : ∃ W1, W1 = w.alloc (.cells #[.slice a l.length cap] 22) := ⟨_, rfl⟩
  rw [← hW1] at hW hb1
  have hz1 : W1.heap.size = w.heap.size + 1 := by rw [hW1]; simp
  have c1 : W1.heap[w.heap.size]? = some (.cells #[.slice a l.length cap] 22) := by rw [hW1]; exact blk_new _ _ _
  have hb2 := bal W1 (.cells #[.int .i64 k, .int .i64 0, .int .i64 0, .slice (some ⟨w.heap.size, 0, none⟩) 1 1] 27)
  obtain ⟨W2, hW2⟩ : ∃ W2, W2 = W1.alloc (.cells #[.int .i64 k, .int .i64 0, .int .i64 0, .slice (some ⟨w.heap.size, 0, none⟩) 1 1] 27) := ⟨_, rfl⟩
  rw [← hW2] at hW hb2
  have hz2 : W2.heap.size = w.heap.size + 2 := by rw [hW2]; simp [hz1]
  have hb3 := bal W2 (.cells #[.int .i64 k, .int .i64 0, .int .i64 0, .slice (some ⟨w.heap.size, 0, none⟩) 1 1] 27)
  have c3 : W.heap[w.heap.size + 2]? = some (.cells #[.int .i64 k, .int .i64 0, .int .i64 0, .slice (some ⟨w.heap.size, 0, none⟩) 1 1] 27) := by
    rw [hW, ← hz2]; exact blk_new _ _ _
  rw [← hW] at hb3
  have hz3 : W.heap.size = w.heap.size + 3 := by rw [hW]; simp [hz2]
  have hb : Below w.heap.size w W := bseq (bseq hb1 hb2) hb3
  refine ⟨hb, hz3, SL_one c3 (by omega) ?_⟩
  refine SLL_one (T := 22) (by rw [(bseq hb2 hb3).block _ (by omega)]; exact c1) (by omega) (hs.up hb)
set_option maxHeartbeats 4000000 in
theorem fnBlock_any (l : List Fl) (a : Option Addr) (cap : Nat) (w : World) (hs : SL w w.heap.size a cap l) (ht : Tab w) : Calls Tryz.prog 4 #[.slice a l.length cap] w (RetB w true) := by
  by_cases hlen : (l.length : Int) > 2147483647
  · clear hs ht
    go_enter Tryz.func4, Tryz.ntmps4
    go_wp2_with fail
    (try simp only [Exit.inBlock, Exit.then])
    refine bodyPost_ret (results_tmp rfl _ _ _) rfl ?_
    exact ⟨rfl, Below.refl _ _⟩
  · obtain ⟨W3, hW3⟩ : ∃ W3, W3 = ((w.alloc (.cells #[.slice a l.length cap] 22)).alloc (.cells #[.int .i64 9, .int .i64 0, .int .i64 0, .slice (some ⟨w.heap.size, 0, none⟩) 1 1] 27)).alloc (.cells #[.int .i64 9, .int .i64 0, .int .i64 0, .slice (some ⟨w.heap.size, 0, none⟩) 1 1] 27) := ⟨_, rfl⟩
    obtain ⟨hb3, hz3, hs3⟩ := one_list hs hW3
    have cv := valid_any _ _ _ _ W3 hs3 (Nat.le_refl _)
    have CV := Lib.hid cv
    have HS := Lib.hid hs
    have HT := Lib.hid ht
    have HB3 := Lib.hid hb3
    have HS3 := Lib.hid hs3
    have HW3 := Lib.hid hW3
    clear cv hs ht hb3 hs3 hW3
    go_enter Tryz.func4, Tryz.ntmps4
    go_wp2_with fail
    refine (of_any 9 _ 1 1 _).mono ?_
    rintro e _ ⟨rfl, rfl⟩
    go_wp2_with fail
    rw [← HW3.out]
    refine (CV.out).mono ?_
    rintro e w4 ⟨rfl, hb4⟩
    have hb04 : Below w.heap.size w w4 := bseq HB3.out hb4
    have s4 : SL w4 w4.heap.size a cap l := HS.out.up hb04
    have sb4 : SL w4 w4.heap.size (some ⟨w.heap.size + 2, 0, none⟩) 1 [ofF 9 [l]] := HS3.out.up hb4
    have t4 : Tab w4 := HT.out.on hb04
    have HB4 := Lib.hid hb04
    have S4 := Lib.hid s4
    have SB4 := Lib.hid sb4
    have T4 := Lib.hid t4
    clear hb4 hb04 s4 sb4 t4
    cases hvb : validL [ofF 9 [l]] with
    | false =>
      go_wp2_with fail
      go_ret
      exact ⟨rfl, HB4.out⟩
    | true =>
      have cl := valid_any _ _ _ _ w4 S4.out (Nat.le_refl _)
      have CL := Lib.hid cl
      clear cl
      go_wp2_with fail
      refine (CL.out).mono ?_
      rintro e w5 ⟨rfl, hb5⟩
      have hb45 := bseq HB4.out hb5
      have s5 := S4.out.up hb5
      have sb5 := SB4.out.up hb5
      have t5 := T4.out.on hb5
      have HB5 := Lib.hid hb45
      have S5 := Lib.hid s5
      have SB5 := Lib.hid sb5
      have T5 := Lib.hid t5
      clear hb5 hb45 s5 sb5 t5
      cases hvl : validL l with
      | false =>
        go_wp2_with fail
        go_ret
        exact ⟨rfl, HB5.out⟩
      | true =>
        have ce := ends_any _ _ _ w5 SB5.out T5.out hvb
        have CE := Lib.hid ce
        clear ce
        go_wp2_with fail
        refine (CE.out).mono ?_
        rintro e w6 ⟨rfl, hb6⟩
        have ce2 := ends_any _ _ _ w6 (S5.out.up hb6) (T5.out.on hb6) hvl
        have HB6 := Lib.hid (bseq HB5.out hb6)
        have T6 := Lib.hid (T5.out.on hb6)
        have CE2 := Lib.hid ce2
        clear ce2 hb6
        go_wp2_with fail
        refine (CE2.out).mono ?_
        rintro e w7 ⟨rfl, hb7⟩
        have cw := works_any w7 (T6.out.on hb7)
        have HB7 := Lib.hid (bseq HB6.out hb7)
        have CW := Lib.hid cw
        clear cw hb7
        rw [law_blockE l]
        have heq : (teL l == teL l) = true := by simp
        go_wp2_with fail
        refine (CW.out).mono ?_
        rintro e w8 ⟨rfl, hb8⟩
        go_wp2_with fail
        go_ret
        exact ⟨rfl, bseq HB7.out hb8⟩
end Go.Proofs.YtpodifbgfcclbaaGreatDoor

/- FnInBlock: what the law's function answers. -/
set_option linter.unusedVariables false
set_option linter.unusedSimpArgs false
namespace Go.Proofs.YtpodifbgfcclbaaGreatDoor
open Go.RowKit
attribute [local go_sem] Nat.lt_add_one_of_lt

/-! What lies deeper is less. -/
mutual
theorem szGo_deep : ∀ (l : List Fl) (deep n : Nat), szGo (deep + 1) l n ≤ 1000 → szGo deep l n = szGo (deep + 1) l n
  | [], deep, n, _ => by rw [szGo, szGo]
  | .mk k lb d bd :: xs, deep, n, h => by
    rw [szGo] at h ⊢
    cases hb : szB (deep + 1) bd (n + 1) with
    | none => rw [hb] at h; simp at h
    | some m =>
      rw [hb] at h
      rw [szB_deep bd deep (n + 1) m hb]
      simp only at h ⊢
      rw [szGo_deep xs deep m h]
      conv => rhs; rw [szGo, hb]
theorem szB_deep : ∀ (bd : List (List Fl)) (deep n m : Nat), szB (deep + 1) bd n = some m → szB deep bd n = some m
  | [], deep, n, m, h => by rw [szB] at h ⊢; exact h
  | y :: ys, deep, n, m, h => by
    rw [szB] at h ⊢
    by_cases hd : deep + 1 + 1 > 50
    · rw [if_pos hd, if_pos (by omega)] at h
      cases h
    · rw [if_neg hd] at h
      rw [if_neg (show ¬ deep + 1 > 50 by omega)]
      by_cases hs : n + szGo (deep + 1 + 1) y 0 > 1000
      · rw [if_pos hs] at h
        cases h
      · rw [if_neg hs] at h
        rw [szGo_deep y (deep + 1) 0 (by omega), if_neg hs]
        exact szB_deep ys deep _ m h
end
theorem valid_inner {l : List Fl} (h : validL [ofF 9 [l]] = true) : validL l = true := by
  simp only [validL, Bool.and_eq_true, decide_eq_true_eq] at h ⊢
  obtain ⟨h1, h2⟩ := h
  refine ⟨?_, ?_⟩
  · rw [szL, if_neg (by omega)] at h1 ⊢
    rw [ofF, szGo, szB, szB] at h1
    by_cases hs : 0 + 1 + (if 0 + 1 > 50 then 1001 else szGo (0 + 1) l 0) > 1000
    · rw [if_pos hs] at h1
      simp at h1
    · rw [if_neg (show ¬ 0 + 1 > 50 by omega)] at hs
      rw [szGo_deep l 0 0 (by omega)]
      omega
  · rw [ofF, fiL, stF] at h2
    simp [liB] at h2
    simpa using h2.1
set_option maxHeartbeats 4000000 in
theorem fnInBlock_any (l : List Fl) (a : Option Addr) (cap : Nat) (w : World) (hs : SL w w.heap.size a cap l) (ht : Tab w) : Calls Tryz.prog 10 #[.slice a l.length cap] w (RetB w true) := by
  by_cases hlen : (l.length : Int) > 2147483647
  · clear hs ht
    go_enter Tryz.func10, Tryz.ntmps10
    go_wp2_with fail
    (try simp only [Exit.inBlock, Exit.then])
    refine bodyPost_ret (results_tmp rfl _ _ _) rfl ?_
    exact ⟨rfl, Below.refl _ _⟩
  · obtain ⟨W3, hW3⟩ : ∃ W3, W3 = ((w.alloc (.cells #[.slice a l.length cap] 22)).alloc (.cells #[.int .i64 9, .int .i64 0, .int .i64 0, .slice (some ⟨w.heap.size, 0, none⟩) 1 1] 27)).alloc (.cells #[.int .i64 9, .int .i64 0, .int .i64 0, .slice (some ⟨w.heap.size, 0, none⟩) 1 1] 27) := ⟨_, rfl⟩
    obtain ⟨hb3, hz3, hs3⟩ := one_list hs hW3
    have cv := valid_any _ _ _ _ W3 hs3 (Nat.le_refl _)
    have CV := Lib.hid cv
    have HS := Lib.hid hs
    have HT := Lib.hid ht
    have HB3 := Lib.hid hb3
    have HS3 := Lib.hid hs3
    have HW3 := Lib.hid hW3
    clear cv hs ht hb3 hs3 hW3
    go_enter Tryz.func10, Tryz.ntmps10
    go_wp2_with fail
    refine (of_any 9 _ 1 1 _).mono ?_
    rintro e _ ⟨rfl, rfl⟩
    go_wp2_with fail
    rw [← HW3.out]
    refine (CV.out).mono ?_
    rintro e w4 ⟨rfl, hb4⟩
    have hb04 : Below w.heap.size w w4 := bseq HB3.out hb4
    have s4 : SL w4 w4.heap.size a cap l := HS.out.up hb04
    have sb4 : SL w4 w4.heap.size (some ⟨w.heap.size + 2, 0, none⟩) 1 [ofF 9 [l]] := HS3.out.up hb4
    have t4 : Tab w4 := HT.out.on hb04
    have HB4 := Lib.hid hb04
    have S4 := Lib.hid s4
    have SB4 := Lib.hid sb4
    have T4 := Lib.hid t4
    clear hb4 hb04 s4 sb4 t4
    cases hvb : validL [ofF 9 [l]] with
    | false =>
      go_wp2_with fail
      go_ret
      exact ⟨rfl, HB4.out⟩
    | true =>
      have hvl := valid_inner hvb
      have ce := jumps_any _ _ _ w4 SB4.out T4.out hvb
      have CE := Lib.hid ce
      clear ce
      go_wp2_with fail
      refine (CE.out).mono ?_
      rintro e w6 ⟨rfl, hb6⟩
      have ce2 := jumps_any _ _ _ w6 (S4.out.up hb6) (T4.out.on hb6) hvl
      have HB6 := Lib.hid (bseq HB4.out hb6)
      have T6 := Lib.hid (T4.out.on hb6)
      have CE2 := Lib.hid ce2
      clear ce2 hb6
      go_wp2_with fail
      refine (CE2.out).mono ?_
      rintro e w7 ⟨rfl, hb7⟩
      have cw := works_any w7 (T6.out.on hb7)
      have HB7 := Lib.hid (bseq HB6.out hb7)
      have CW := Lib.hid cw
      clear cw hb7
      rw [law_block l]
      have heq : (jumpsJ l == jumpsJ l) = true := by simp
      go_wp2_with fail
      refine (CW.out).mono ?_
      rintro e w8 ⟨rfl, hb8⟩
      go_wp2_with fail
      go_ret
      exact ⟨rfl, bseq HB7.out hb8⟩
end Go.Proofs.YtpodifbgfcclbaaGreatDoor

/- FnIf: what the law's function answers. -/
set_option linter.unusedVariables false
set_option linter.unusedSimpArgs false
namespace Go.Proofs.YtpodifbgfcclbaaGreatDoor
open Go.RowKit
attribute [local go_sem] Nat.lt_add_one_of_lt

theorem SLL_two {w : World} {H b T cap cap2 : Nat} {a a2 : Option Addr} {y z : List Fl} (h : w.heap[b]? = some (.cells #[.slice a y.length cap, .slice a2 z.length cap2] T)) (hb : b < H) (hs : SL w H a cap y) (hs2 : SL w H a2 cap2 z) : SLL w H (some ⟨b, 0, none⟩) 2 [y, z] :=
  ⟨by simp, by simp, b, 0, fun _ => rfl, ELL_cons.2 ⟨hb, ⟨a, cap, by rw [blk_cell h]; rfl, hs⟩, ELL_cons.2 ⟨hb, ⟨a2, cap2, by rw [blk_cell h]; rfl, hs2⟩, ELL_nil⟩⟩⟩
set_option maxHeartbeats 8000000 in
theorem fnIf_any (l m : List Fl) (x : Bool) (a : Option Addr) (cap : Nat) (a2 : Option Addr) (cap2 : Nat) (w : World) (hs : SL w w.heap.size a cap l) (hs2 : SL w w.heap.size a2 cap2 m) (ht : Tab w) : Calls Tryz.prog 9 #[.slice a l.length cap, .slice a2 m.length cap2, .bool x] w (RetB w true) := by
  by_cases hlen : (l.length : Int) > 2147483647
  · clear hs hs2 ht
    go_enter Tryz.func9, Tryz.ntmps9
    go_wp2_with fail
    (try simp only [Exit.inBlock, Exit.then])
    refine bodyPost_ret (results_tmp rfl _ _ _) rfl ?_
    exact ⟨rfl, Below.refl _ _⟩
  by_cases hlen2 : (m.length : Int) > 2147483647
  · clear hs hs2 ht
    go_enter Tryz.func9, Tryz.ntmps9
    go_wp2_with fail
    (try simp only [Exit.inBlock, Exit.then])
    refine bodyPost_ret (results_tmp rfl _ _ _) rfl ?_
    exact ⟨rfl, Below.refl _ _⟩
  cases x with
  | false =>
    obtain ⟨W, hW⟩ : ∃ W, W = ((((w.alloc (.cells #[.slice a l.length cap] 22)).alloc (.cells #[.int .i64 2, .int .i64 0, .int .i64 0, .slice (some ⟨w.heap.size, 0, none⟩) 1 1] 27)).alloc (.cells #[.int .i64 2, .int .i64 0, .int .i64 0, .slice (some ⟨w.heap.size, 0, none⟩) 1 1] 27)).alloc (.cells #[.int .i64 2, .int .i64 0, .int .i64 0, .slice (some ⟨w.heap.size, 0, none⟩) 1 1] 27)) := ⟨_, rfl⟩
    obtain ⟨hsz, hold, hz, ho1, ho2, ho3⟩ := allocs_spec [(.cells #[.slice a l.length cap] 22), (.cells #[.int .i64 2, .int .i64 0, .int .i64 0, .slice (some ⟨w.heap.size, 0, none⟩) 1 1] 27), (.cells #[.int .i64 2, .int .i64 0, .int .i64 0, .slice (some ⟨w.heap.size, 0, none⟩) 1 1] 27), (.cells #[.int .i64 2, .int .i64 0, .int .i64 0, .slice (some ⟨w.heap.size, 0, none⟩) 1 1] 27)] w
    rw [show allocs w [(.cells #[.slice a l.length cap] 22), (.cells #[.int .i64 2, .int .i64 0, .int .i64 0, .slice (some ⟨w.heap.size, 0, none⟩) 1 1] 27), (.cells #[.int .i64 2, .int .i64 0, .int .i64 0, .slice (some ⟨w.heap.size, 0, none⟩) 1 1] 27), (.cells #[.int .i64 2, .int .i64 0, .int .i64 0, .slice (some ⟨w.heap.size, 0, none⟩) 1 1] 27)] = W from hW.symm] at hsz hold hz ho1 ho2 ho3
    simp only [List.length_cons, List.length_nil] at hsz
    have hb : Below w.heap.size w W := ⟨ho1, ho2, ho3, by omega, hold⟩
    have hx : SL W W.heap.size (some ⟨w.heap.size + 3, 0, none⟩) 1 [ofF 2 [l]] := SL_one (hz 3 _ rfl) (by omega) (SLL_one (hz 0 _ rfl) (by omega) (hs.up hb))
    have htW : Tab W := ht.on hb
    have hvx := valid_any _ _ _ _ W hx (Nat.le_refl _)
    have hvl : ∀ w4, Below W.heap.size W w4 → Calls Tryz.prog 22 #[.slice a l.length cap] w4 (RetB w4 (validL l)) := fun w4 h4 => valid_any _ _ _ _ w4 (hs.up (bseq hb h4)) (Nat.le_refl _)
    have hvm : ∀ w4, Below W.heap.size W w4 → Calls Tryz.prog 22 #[.slice a2 m.length cap2] w4 (RetB w4 (validL m)) := fun w4 h4 => valid_any _ _ _ _ w4 (hs2.up (bseq hb h4)) (Nat.le_refl _)
    have hel : ∀ w4, Below W.heap.size W w4 → validL l = true → Calls Tryz.prog 28 #[.slice a l.length cap] w4 (RetB w4 (teL l)) := fun w4 h4 hv => ends_any _ _ _ w4 (hs.up (bseq hb h4)) (htW.on h4) hv
    have hem : ∀ w4, Below W.heap.size W w4 → validL m = true → Calls Tryz.prog 28 #[.slice a2 m.length cap2] w4 (RetB w4 (teL m)) := fun w4 h4 hv => ends_any _ _ _ w4 (hs2.up (bseq hb h4)) (htW.on h4) hv
    have hex : ∀ w4, Below W.heap.size W w4 → validL [ofF 2 [l]] = true → Calls Tryz.prog 28 #[.slice (some ⟨w.heap.size + 3, 0, none⟩) 1 1] w4 (RetB w4 (false)) := fun w4 h4 hv => by
      have := ends_any _ _ _ w4 (hx.up h4) (htW.on h4) hv
      rw [law_if1] at this
      exact this
    have HB := Lib.hid hb
    have HT := Lib.hid htW
    have HVX := Lib.hid hvx
    have HVL := Lib.hid hvl
    have HVM := Lib.hid hvm
    have HEL := Lib.hid hel
    have HEM := Lib.hid hem
    have HEX := Lib.hid hex
    have HW := Lib.hid hW
    clear hs hs2 ht hsz hold hz ho1 ho2 ho3 hb hx htW hvx hvl hvm hel hem hex hW
    go_enter Tryz.func9, Tryz.ntmps9
    go_wp2_with fail
    refine (of_any 2 _ 1 1 _).mono ?_
    rintro e _ ⟨rfl, rfl⟩
    go_wp2_with fail
    rw [← HW.out]
    refine (HVX.out).mono ?_
    rintro e w4 ⟨rfl, hb4⟩
    have HB4 := Lib.hid hb4
    clear hb4
    cases hv : validL [ofF 2 [l]] with
    | false =>
      clear hv
      go_wp2_with fail
      (try simp only [Exit.inBlock, Exit.then])
      refine bodyPost_ret (results_tmp rfl _ _ _) rfl ?_
      exact ⟨rfl, bseq HB.out HB4.out⟩
    | true =>
      have HV := Lib.hid hv
      clear hv
      go_wp2_with fail
      refine (HVL.out w4 HB4.out).mono ?_
      rintro e w5 ⟨rfl, hb5⟩
      have HB5 := Lib.hid (bseq HB4.out hb5)
      clear hb5
      cases hv : validL l with
      | false =>
        clear hv
        go_wp2_with fail
        (try simp only [Exit.inBlock, Exit.then])
        refine bodyPost_ret (results_tmp rfl _ _ _) rfl ?_
        exact ⟨rfl, bseq HB.out HB5.out⟩
      | true =>
        have HV1 := Lib.hid hv
        clear hv
        go_wp2_with fail
        refine (HVM.out w5 HB5.out).mono ?_
        rintro e w6 ⟨rfl, hb6⟩
        have HB6 := Lib.hid (bseq HB5.out hb6)
        clear hb6
        cases hv : validL m with
        | false =>
          clear hv
          go_wp2_with fail
          (try simp only [Exit.inBlock, Exit.then])
          refine bodyPost_ret (results_tmp rfl _ _ _) rfl ?_
          exact ⟨rfl, bseq HB.out HB6.out⟩
        | true =>
          have HV2 := Lib.hid hv
          clear hv
          go_wp2_with fail
          refine (HEX.out w6 HB6.out HV.out).mono ?_
          rintro e w7 ⟨rfl, hb7⟩
          have HB7 := Lib.hid (bseq HB6.out hb7)
          clear hb7
          go_wp2_with fail
          refine (works_any w7 (HT.out.on HB7.out)).mono ?_
          rintro e w8 ⟨rfl, hb8⟩
          go_wp2_with fail
          go_ret
          exact ⟨rfl, bseq HB.out (bseq HB7.out hb8)⟩
  | true =>
    obtain ⟨W, hW⟩ : ∃ W, W = ((((((w.alloc (.cells #[.slice a l.length cap] 22)).alloc (.cells #[.int .i64 2, .int .i64 0, .int .i64 0, .slice (some ⟨w.heap.size, 0, none⟩) 1 1] 27)).alloc (.cells #[.int .i64 2, .int .i64 0, .int .i64 0, .slice (some ⟨w.heap.size + 3, 0, none⟩) 2 2] 27)).alloc (.cells #[.slice a l.length cap, .slice a2 m.length cap2] 22)).alloc (.cells #[.int .i64 2, .int .i64 0, .int .i64 0, .slice (some ⟨w.heap.size + 3, 0, none⟩) 2 2] 27)).alloc (.cells #[.int .i64 2, .int .i64 0, .int .i64 0, .slice (some ⟨w.heap.size + 3, 0, none⟩) 2 2] 27)) := ⟨_, rfl⟩
    obtain ⟨hsz, hold, hz, ho1, ho2, ho3⟩ := allocs_spec [(.cells #[.slice a l.length cap] 22), (.cells #[.int .i64 2, .int .i64 0, .int .i64 0, .slice (some ⟨w.heap.size, 0, none⟩) 1 1] 27), (.cells #[.int .i64 2, .int .i64 0, .int .i64 0, .slice (some ⟨w.heap.size + 3, 0, none⟩) 2 2] 27), (.cells #[.slice a l.length cap, .slice a2 m.length cap2] 22), (.cells #[.int .i64 2, .int .i64 0, .int .i64 0, .slice (some ⟨w.heap.size + 3, 0, none⟩) 2 2] 27), (.cells #[.int .i64 2, .int .i64 0, .int .i64 0, .slice (some ⟨w.heap.size + 3, 0, none⟩) 2 2] 27)] w
    rw [show allocs w [(.cells #[.slice a l.length cap] 22), (.cells #[.int .i64 2, .int .i64 0, .int .i64 0, .slice (some ⟨w.heap.size, 0, none⟩) 1 1] 27), (.cells #[.int .i64 2, .int .i64 0, .int .i64 0, .slice (some ⟨w.heap.size + 3, 0, none⟩) 2 2] 27), (.cells #[.slice a l.length cap, .slice a2 m.length cap2] 22), (.cells #[.int .i64 2, .int .i64 0, .int .i64 0, .slice (some ⟨w.heap.size + 3, 0, none⟩) 2 2] 27), (.cells #[.int .i64 2, .int .i64 0, .int .i64 0, .slice (some ⟨w.heap.size + 3, 0, none⟩) 2 2] 27)] = W from hW.symm] at hsz hold hz ho1 ho2 ho3
    simp only [List.length_cons, List.length_nil] at hsz
    have hb : Below w.heap.size w W := ⟨ho1, ho2, ho3, by omega, hold⟩
    have hx : SL W W.heap.size (some ⟨w.heap.size + 5, 0, none⟩) 1 [ofF 2 [l, m]] := SL_one (hz 5 _ rfl) (by omega) (SLL_two (hz 3 _ rfl) (by omega) (hs.up hb) (hs2.up hb))
    have htW : Tab W := ht.on hb
    have hvx := valid_any _ _ _ _ W hx (Nat.le_refl _)
    have hvl : ∀ w4, Below W.heap.size W w4 → Calls Tryz.prog 22 #[.slice a l.length cap] w4 (RetB w4 (validL l)) := fun w4 h4 => valid_any _ _ _ _ w4 (hs.up (bseq hb h4)) (Nat.le_refl _)
    have hvm : ∀ w4, Below W.heap.size W w4 → Calls Tryz.prog 22 #[.slice a2 m.length cap2] w4 (RetB w4 (validL m)) := fun w4 h4 => valid_any _ _ _ _ w4 (hs2.up (bseq hb h4)) (Nat.le_refl _)
    have hel : ∀ w4, Below W.heap.size W w4 → validL l = true → Calls Tryz.prog 28 #[.slice a l.length cap] w4 (RetB w4 (teL l)) := fun w4 h4 hv => ends_any _ _ _ w4 (hs.up (bseq hb h4)) (htW.on h4) hv
    have hem : ∀ w4, Below W.heap.size W w4 → validL m = true → Calls Tryz.prog 28 #[.slice a2 m.length cap2] w4 (RetB w4 (teL m)) := fun w4 h4 hv => ends_any _ _ _ w4 (hs2.up (bseq hb h4)) (htW.on h4) hv
    have hex : ∀ w4, Below W.heap.size W w4 → validL [ofF 2 [l, m]] = true → Calls Tryz.prog 28 #[.slice (some ⟨w.heap.size + 5, 0, none⟩) 1 1] w4 (RetB w4 (teL l && teL m)) := fun w4 h4 hv => by
      have := ends_any _ _ _ w4 (hx.up h4) (htW.on h4) hv
      rw [law_if2] at this
      exact this
    have HB := Lib.hid hb
    have HT := Lib.hid htW
    have HVX := Lib.hid hvx
    have HVL := Lib.hid hvl
    have HVM := Lib.hid hvm
    have HEL := Lib.hid hel
    have HEM := Lib.hid hem
    have HEX := Lib.hid hex
    have HW := Lib.hid hW
    clear hs hs2 ht hsz hold hz ho1 ho2 ho3 hb hx htW hvx hvl hvm hel hem hex hW
    go_enter Tryz.func9, Tryz.ntmps9
    go_wp2_with fail
    refine (of_any 2 _ 1 1 _).mono ?_
    rintro e _ ⟨rfl, rfl⟩
    go_wp2_with fail
    refine (of_any 2 _ 2 2 _).mono ?_
    rintro e _ ⟨rfl, rfl⟩
    go_wp2_with fail
    rw [← HW.out]
    refine (HVX.out).mono ?_
    rintro e w4 ⟨rfl, hb4⟩
    have HB4 := Lib.hid hb4
    clear hb4
    cases hv : validL [ofF 2 [l, m]] with
    | false =>
      clear hv
      go_wp2_with fail
      (try simp only [Exit.inBlock, Exit.then])
      refine bodyPost_ret (results_tmp rfl _ _ _) rfl ?_
      exact ⟨rfl, bseq HB.out HB4.out⟩
    | true =>
      have HV := Lib.hid hv
      clear hv
      go_wp2_with fail
      refine (HVL.out w4 HB4.out).mono ?_
      rintro e w5 ⟨rfl, hb5⟩
      have HB5 := Lib.hid (bseq HB4.out hb5)
      clear hb5
      cases hv : validL l with
      | false =>
        clear hv
        go_wp2_with fail
        (try simp only [Exit.inBlock, Exit.then])
        refine bodyPost_ret (results_tmp rfl _ _ _) rfl ?_
        exact ⟨rfl, bseq HB.out HB5.out⟩
      | true =>
        have HV1 := Lib.hid hv
        clear hv
        go_wp2_with fail
        refine (HVM.out w5 HB5.out).mono ?_
        rintro e w6 ⟨rfl, hb6⟩
        have HB6 := Lib.hid (bseq HB5.out hb6)
        clear hb6
        cases hv : validL m with
        | false =>
          clear hv
          go_wp2_with fail
          (try simp only [Exit.inBlock, Exit.then])
          refine bodyPost_ret (results_tmp rfl _ _ _) rfl ?_
          exact ⟨rfl, bseq HB.out HB6.out⟩
        | true =>
          have HV2 := Lib.hid hv
          clear hv
          go_wp2_with fail
          refine (HEX.out w6 HB6.out HV.out).mono ?_
          rintro e w7 ⟨rfl, hb7⟩
          have HB7 := Lib.hid (bseq HB6.out hb7)
          clear hb7
          go_wp2_with fail
          refine (HEL.out w7 HB7.out HV1.out).mono ?_
          rintro e w8 ⟨rfl, hb8⟩
          have HB8 := Lib.hid (bseq HB7.out hb8)
          clear hb8
          cases hte : teL l with
          | false =>
            clear hte
            go_wp2_with fail
            refine (works_any w8 (HT.out.on HB8.out)).mono ?_
            rintro e w9 ⟨rfl, hb9⟩
            go_wp2_with fail
            go_ret
            exact ⟨rfl, bseq HB.out (bseq HB8.out hb9)⟩
          | true =>
            clear hte
            go_wp2_with fail
            refine (HEM.out w8 HB8.out HV2.out).mono ?_
            rintro e w9 ⟨rfl, hb9⟩
            have HB9 := Lib.hid (bseq HB8.out hb9)
            clear hb9
            have heq : ((true && teL m) == teL m) = true := by simp
            have heq2 : (teL m == teL m) = true := by simp
            go_wp2_with fail
            refine (works_any w9 (HT.out.on HB9.out)).mono ?_
            rintro e w10 ⟨rfl, hb10⟩
            go_wp2_with fail
            go_ret
            exact ⟨rfl, bseq HB.out (bseq HB9.out hb10)⟩
end Go.Proofs.YtpodifbgfcclbaaGreatDoor
