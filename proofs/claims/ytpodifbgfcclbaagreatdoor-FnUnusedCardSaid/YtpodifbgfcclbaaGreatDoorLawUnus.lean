/- FnUnused: what the law's function answers. -/
import Derived.Test.YtpodifbgfcclbaaGreatDoorLawApp
import Derived.Test.YtpodifbgfcclbaaGreatDoorLawBlk
import Derived.Deep.CutRange
set_option linter.unusedVariables false
set_option linter.unusedSimpArgs false
namespace Go.Proofs.YtpodifbgfcclbaaGreatDoor
open Go.RowKit
attribute [local go_sem] Nat.lt_add_one_of_lt

/-- Four statements in a block of their own; none but the first has lists. -/
theorem four_full {w W : World} {a : Option Addr} {cap : Nat} {bd : List (List Fl)} {k l d k2 l2 d2 k3 l3 d3 k4 l4 d4 : Int} (hs : SLL w w.heap.size a cap bd) (hW : W = w.alloc (.cells #[.int .i64 k, .int .i64 l, .int .i64 d, .slice a bd.length cap, .int .i64 k2, .int .i64 l2, .int .i64 d2, .slice none 0 0, .int .i64 k3, .int .i64 l3, .int .i64 d3, .slice none 0 0, .int .i64 k4, .int .i64 l4, .int .i64 d4, .slice none 0 0] 27)) :
    Below w.heap.size w W ∧ W.heap.size = w.heap.size + 1 ∧ SL W W.heap.size (some ⟨w.heap.size, 0, none⟩) 4 [.mk k l d bd, .mk k2 l2 d2 [], .mk k3 l3 d3 [], .mk k4 l4 d4 []] := by
  have hb := bal w (.cells #[.int .i64 k, .int .i64 l, .int .i64 d, .slice a bd.length cap, .int .i64 k2, .int .i64 l2, .int .i64 d2, .slice none 0 0, .int .i64 k3, .int .i64 l3, .int .i64 d3, .slice none 0 0, .int .i64 k4, .int .i64 l4, .int .i64 d4, .slice none 0 0] 27)
  have c1 : W.heap[w.heap.size]? = some (.cells #[.int .i64 k, .int .i64 l, .int .i64 d, .slice a bd.length cap, .int .i64 k2, .int .i64 l2, .int .i64 d2, .slice none 0 0, .int .i64 k3, .int .i64 l3, .int .i64 d3, .slice none 0 0, .int .i64 k4, .int .i64 l4, .int .i64 d4, .slice none 0 0] 27) := by rw [hW]; exact blk_new _ _ _
  rw [← hW] at hb
  have hz : W.heap.size = w.heap.size + 1 := by rw [hW]; simp
  have h1 : w.heap.size < W.heap.size := by omega
  refine ⟨hb, hz, by simp, by simp, w.heap.size, 0, fun _ => rfl, ?_⟩
  refine EL_cons.2 ⟨h1, by rw [blk_cell c1]; rfl, by rw [blk_cell c1]; rfl, by rw [blk_cell c1]; rfl, ⟨a, cap, by rw [blk_cell c1]; rfl, hs.up hb⟩, ?_⟩
  refine EL_cons.2 ⟨h1, by rw [blk_cell c1]; rfl, by rw [blk_cell c1]; rfl, by rw [blk_cell c1]; rfl, ⟨none, 0, by rw [blk_cell c1]; rfl, SLL.nil⟩, ?_⟩
  refine EL_cons.2 ⟨h1, by rw [blk_cell c1]; rfl, by rw [blk_cell c1]; rfl, by rw [blk_cell c1]; rfl, ⟨none, 0, by rw [blk_cell c1]; rfl, SLL.nil⟩, ?_⟩
  exact EL_cons.2 ⟨h1, by rw [blk_cell c1]; rfl, by rw [blk_cell c1]; rfl, by rw [blk_cell c1]; rfl, ⟨none, 0, by rw [blk_cell c1]; rfl, SLL.nil⟩, EL_nil⟩
set_option maxRecDepth 100000 in
set_option maxHeartbeats 8000000 in
theorem fnUnused_main1 (l : List Fl) (n : Int) (hn1 : 1 ≤ n) (hn2 : n ≤ 9) (q0 : Nat) (hk : q0 < l.length) (hlen : ¬ (l.length : Int) > 2147483647) (hh : hasL n l = false) (hvl : validL l = true) (b o : Nat) (cap : Nat) (w : World) (hs : SL w w.heap.size (some ⟨b, o, none⟩) cap l) (ht : Tab w) : Calls Tryz.prog 20 #[.slice (some ⟨b, o, none⟩) l.length cap, .int .i64 n, .int .i64 q0] w (RetB w true) := by
  have hkI2 : (q0 : Int) ≤ (l.length : Int) := by omega
  have hk0 : (0 : Int) ≤ (q0 : Int) := by omega
  have hcap := hs.1
  have hkc : (q0 : Int) ≤ (cap : Int) := by omega
  have hcI : (l.length : Int) ≤ (cap : Int) := by omega
  have hck : ¬ cap = q0 := by omega
  have htk : (l.take q0).length = q0 := by rw [List.length_take]; omega
  have hll : ∀ x : Fl, ((l.take q0).length + [x].length) * 48 ≤ 140737488355328 := by intro x; rw [htk, List.length_singleton]; omega
  have hL1 : ∀ x : Fl, (l.take q0 ++ [x]).length * 48 ≤ 140737488355328 := by intro x; rw [List.length_append, htk, List.length_singleton]; omega
  have hLL : ∀ x : Fl, ((l.take q0 ++ [x]) ++ l.drop q0).length * 48 ≤ 140737488355328 := by intro x; rw [List.length_append, List.length_append, htk, List.length_singleton, List.length_drop]; omega
  have law0 := law_unused n hn1 (l.take q0) (l.drop q0) (by rw [List.take_append_drop]; exact hh)
  have law : ∀ (i : Nat) (x : Fl), [labF n expF, jmpF 11 n, jmpF 12 n, jmpF 13 n][i]? = some x → jumpsJ ((l.take q0 ++ [x]) ++ l.drop q0) = false := by
    intro i x hx
    rw [List.append_assoc, List.singleton_append]
    match i, hx with
    | 0, hx => simp at hx; subst hx; exact law0.1
    | 1, hx => simp at hx; subst hx; exact law0.2.1
    | 2, hx => simp at hx; subst hx; exact law0.2.2.1
    | 3, hx => simp at hx; subst hx; exact law0.2.2.2
    | i + 4, hx => simp at hx
  have ch := hasl_any n l _ _ w hs
  rw [hh] at ch
  have CH := Lib.hid ch
  have HS := Lib.hid hs
  have HT := Lib.hid ht
  have HVL := Lib.hid hvl
  have LAW := Lib.hid law
  have HLL := Lib.hid hLL
  have HLL1 := Lib.hid hL1
  have HLW := Lib.hid hll
  have HTK := Lib.hid htk
  clear ch hs ht hvl law law0 hLL hL1 hll htk hh
  go_enter Tryz.func20, Tryz.ntmps20
  go_wp2_with fail
  refine (CH.out).mono ?_
  rintro e w1 ⟨rfl, hb1⟩
  have cv := valid_any _ _ _ _ w1 (HS.out.up hb1) (Nat.le_refl _)
  rw [HVL.out] at cv
  have HB1 := Lib.hid hb1
  have CV := Lib.hid cv
  clear cv hb1
  go_wp2_with fail
  refine (CV.out).mono ?_
  rintro e w2 ⟨rfl, hb2⟩
  have HB2 := Lib.hid (bseq HB1.out hb2)
  have C3 := Lib.hid (labeled_any n 18 0 0 none 0 [] w2 SLL.nil)
  clear hb2
  go_wp2_with fail
  refine (C3.out).mono ?_
  rintro e w3 ⟨a3, rfl, hs3, hb3⟩
  obtain ⟨W4, hW4⟩ : ∃ W4, W4 = w3.alloc (.cells #[.int .i64 10, .int .i64 n, .int .i64 0, .slice a3 1 1, .int .i64 11, .int .i64 n, .int .i64 0, .slice none 0 0, .int .i64 12, .int .i64 n, .int .i64 0, .slice none 0 0, .int .i64 13, .int .i64 n, .int .i64 0, .slice none 0 0] 27) := ⟨_, rfl⟩
  obtain ⟨hb4, hz4, hs4⟩ := four_full (a := a3) (cap := 1) (bd := [[expF]]) hs3 hW4
  have HS4 := Lib.hid (show SL W4 W4.heap.size (some ⟨w3.heap.size, 0, none⟩) 4 [labF n expF, jmpF 11 n, jmpF 12 n, jmpF 13 n] from hs4)
  have HB4 := Lib.hid (bseq (bseq HB2.out hb3) hb4)
  have HW4 := Lib.hid hW4
  have HZ4 := Lib.hid hz4
  obtain ⟨c4, hc4⟩ : ∃ c4, c4 = w3.heap.size := ⟨_, rfl⟩
  have HC4 := Lib.hid hc4
  rw [← hc4] at HS4
  clear hs3 hb3 hW4 hb4 hz4 hs4 hc4
  go_wp2_with fail
  rw [← HW4.out, ← HC4.out]
  go_loopg [50] 4 (fun g vi wr => ∃ i : Nat, i + g = 4 ∧ vi = .int .i64 i ∧ Below W4.heap.size W4 wr)
  case atStart => exact ⟨0, by omega, rfl, Below.refl _ _⟩
  case round =>
    obtain ⟨i, hi, rfl, hbr⟩ := hrel
    by_cases hlt : i < 4
    · obtain ⟨e4, o4, hax4, hel4⟩ := HS4.out.en (by simp)
      obtain ⟨rfl, rfl⟩ : c4 = e4 ∧ 0 = o4 := by simpa using hax4
      obtain ⟨hbH, k, lb, d, bd, a', cap', _, hx, c0, c1, c2, c3, hsl⟩ := hel4.at i hlt
      rw [Nat.zero_add] at c0 c1 c2 c3
      have d0 : wr.cell? ⟨c4, i * 4, none⟩ = _ := (hbr.cell (p := ⟨c4, i * 4, none⟩) hbH).trans c0
      have d1 : wr.cell? ⟨c4, i * 4 + 1, none⟩ = _ := (hbr.cell (p := ⟨c4, i * 4 + 1, none⟩) hbH).trans c1
      have d2 : wr.cell? ⟨c4, i * 4 + 2, none⟩ = _ := (hbr.cell (p := ⟨c4, i * 4 + 2, none⟩) hbH).trans c2
      have d3 : wr.cell? ⟨c4, i * 4 + 3, none⟩ = _ := (hbr.cell (p := ⟨c4, i * 4 + 3, none⟩) hbH).trans c3
      have hbr4 : c4 < wr.heap.size := by have := hbr.size; omega
      have hiI : (i : Int) < 4 := by omega
      have hi0 : (0 : Int) ≤ (i : Int) := by omega
      obtain ⟨L1, hL1⟩ : ∃ L1, L1 = l.take q0 ++ [.mk k lb d bd] := ⟨_, rfl⟩
      obtain ⟨L, hL⟩ : ∃ L, L = L1 ++ l.drop q0 := ⟨_, rfl⟩
      have law := LAW.out i _ hx
      rw [← hL1, ← hL] at law
      have hLLx := HLL.out (.mk k lb d bd)
      rw [← hL1, ← hL] at hLLx
      have hLL1x := HLL1.out (.mk k lb d bd)
      rw [← hL1] at hLL1x
      obtain ⟨W5, hW5⟩ : ∃ W5, W5 = wr.alloc (.cells #[.int .i64 k, .int .i64 lb, .int .i64 d, .slice a' bd.length cap'] 27) := ⟨_, rfl⟩
      obtain ⟨hb5, hz5, hs5⟩ := one_full (hsl.keep (w' := wr) (fun j hj => hbr.block j hj) hbr.size) hW5
      obtain ⟨W6, hW6⟩ : ∃ W6, W6 = W5.alloc (.cells #[.int .i64 k, .int .i64 lb, .int .i64 d, .slice a' bd.length cap'] 27) := ⟨_, rfl⟩
      obtain ⟨hb6, hz6, hs6⟩ := one_full ((hsl.keep (w' := wr) (fun j hj => hbr.block j hj) hbr.size).up hb5) hW6
      obtain ⟨V, hV⟩ : ∃ V, V = W6.drew := ⟨_, rfl⟩
      have hbv : Below W6.heap.size W6 V := by rw [hV]; exact (Below.refl _ _).drew
      have hb4r : Below W4.heap.size W4 V := hbr.trans (Below.mono (bseq hb5 (bseq hb6 hbv)) hbr.size)
      have hb0v := bseq HB4.out hb4r
      have c7 := with_any (l.take q0) [.mk k lb d bd] _ _ _ 1 V ((HS.out.up hb0v).take q0) (hs6.up hbv) (by simp) (HLW.out _)
      rw [← hL1, HTK.out] at c7
      rw [hz5] at c7
      have HBV := Lib.hid hb0v
      have HB4V := Lib.hid hb4r
      have C4 := Lib.hid c7
      have HV := Lib.hid (hV.trans (by rw [hW6, hW5]))
      have HL := Lib.hid hL
      have HL1 := Lib.hid hL1
      have LAWX := Lib.hid law
      have HLLX := Lib.hid hLLx
      have HLL1X := Lib.hid hLL1x
      clear hbr hsl hL hL1 law hLLx hLL1x hW5 hb5 hz5 hs5 hW6 hb6 hz6 hs6 hbv hb4r hb0v c7 hV c0 c1 c2 c3 hel4 hax4 hx
      go_upto_region 8 with fail
      obtain ⟨bx, ox, hax, he⟩ := HS.out.en (by rintro rfl; simp at hk)
      obtain ⟨rfl, rfl⟩ : b = bx ∧ o = ox := by simpa using hax
      have hkd : l.drop q0 ≠ [] := by intro h; have := congrArg List.length h; rw [List.length_drop] at this; simp at this; omega
      have HE := Lib.hid ((he.drop q0).keep (w' := V) (fun j hj => HBV.out.block j hj) HBV.out.size)
      have HKD := Lib.hid hkd
      clear he hax hkd
      go_region_law (first
        | (go_simp; go_at_call 24; rw [← HV.out]; refine (C4.out).mono ?_; rintro e w6 ⟨g6, cap6, rfl, hrw6, hb6⟩)
        | (refine step_app rfl _ _ rfl HL.out hrw6 (by rfl) (by rw [List.length_drop]; rfl) (EL.keep (w' := w6) (fun j hj => hb6.block j hj) (Nat.le_refl _) HE.out) HKD.out HLLX.out hb6.size ?_; intro g7 cap7 w7 hrw7 hb7))
      have hb67 := hb6.trans hb7
      have HS7 := Lib.hid (hrw7.sl HLLX.out hb67.size)
      have HB7 := Lib.hid (bseq HBV.out hb67)
      have HB47 := Lib.hid (HB4V.out.trans (Below.mono hb67 HB4V.out.size))
      clear hrw6 hb6 hrw7 hb7 hb67
      have cvv := valid_any _ _ _ _ w7 HS7.out (Nat.le_refl _)
      have CVV := Lib.hid cvv
      clear cvv
      go_wp2_with fail
      refine (CVV.out).mono ?_
      rintro e w8 ⟨rfl, hb8⟩
      have HB8 := Lib.hid (bseq HB7.out hb8)
      have HB48 := Lib.hid (HB47.out.trans (Below.mono hb8 HB47.out.size))
      have HS8 := Lib.hid (HS7.out.up hb8)
      clear hb8
      cases hv : validL L with
      | false =>
        clear hv
        go_wp2_with fail
        go_roundg (gk - 1)
        case measure => omega
        exact ⟨i + 1, by omega, by simp, HB48.out⟩
      | true =>
        have cj := jumps_any _ _ _ w8 HS8.out (HT.out.on HB8.out) hv
        rw [LAWX.out] at cj
        have CJ := Lib.hid cj
        clear cj hv
        go_wp2_with fail
        refine (CJ.out).mono ?_
        rintro e w9 ⟨rfl, hb9⟩
        have HB49 := Lib.hid (HB48.out.trans (Below.mono hb9 HB48.out.size))
        clear hb9
        go_wp2_with fail
        go_roundg (gk - 1)
        case measure => omega
        exact ⟨i + 1, by omega, by simp, HB49.out⟩
    · have hiI : ¬ (i : Int) < 4 := by omega
      have hb0r := bseq HB4.out hbr
      have HBR := Lib.hid hb0r
      clear hbr hb0r
      go_wp2_with fail
      refine (works_any wr (HT.out.on HBR.out)).mono ?_
      rintro e w10 ⟨rfl, hb10⟩
      go_wp2_with fail
      go_ret
      exact ⟨rfl, bseq HBR.out hb10⟩
set_option maxRecDepth 100000 in
set_option maxHeartbeats 8000000 in
theorem fnUnused_main2 (l : List Fl) (n : Int) (hn1 : 1 ≤ n) (hn2 : n ≤ 9) (q0 : Nat) (hk : q0 = l.length) (hlen : ¬ (l.length : Int) > 2147483647) (hh : hasL n l = false) (hvl : validL l = true) (q : Addr) (cap : Nat) (hcl : ¬ cap = l.length) (w : World) (hs : SL w w.heap.size (some q) cap l) (ht : Tab w) : Calls Tryz.prog 20 #[.slice (some q) l.length cap, .int .i64 n, .int .i64 q0] w (RetB w true) := by
  have hkI2 : (q0 : Int) ≤ (l.length : Int) := by omega
  have hk0 : (0 : Int) ≤ (q0 : Int) := by omega
  have hcap := hs.1
  have hkc : (q0 : Int) ≤ (cap : Int) := by omega
  have hcI : (l.length : Int) ≤ (cap : Int) := by omega
  have htk : (l.take q0).length = q0 := by rw [List.length_take]; omega
  have hll : ∀ x : Fl, ((l.take q0).length + [x].length) * 48 ≤ 140737488355328 := by intro x; rw [htk, List.length_singleton]; omega
  have hL1 : ∀ x : Fl, (l.take q0 ++ [x]).length * 48 ≤ 140737488355328 := by intro x; rw [List.length_append, htk, List.length_singleton]; omega
  have hLL : ∀ x : Fl, ((l.take q0 ++ [x]) ++ l.drop q0).length * 48 ≤ 140737488355328 := by intro x; rw [List.length_append, List.length_append, htk, List.length_singleton, List.length_drop]; omega
  have law0 := law_unused n hn1 (l.take q0) (l.drop q0) (by rw [List.take_append_drop]; exact hh)
  have law : ∀ (i : Nat) (x : Fl), [labF n expF, jmpF 11 n, jmpF 12 n, jmpF 13 n][i]? = some x → jumpsJ ((l.take q0 ++ [x]) ++ l.drop q0) = false := by
    intro i x hx
    rw [List.append_assoc, List.singleton_append]
    match i, hx with
    | 0, hx => simp at hx; subst hx; exact law0.1
    | 1, hx => simp at hx; subst hx; exact law0.2.1
    | 2, hx => simp at hx; subst hx; exact law0.2.2.1
    | 3, hx => simp at hx; subst hx; exact law0.2.2.2
    | i + 4, hx => simp at hx
  have ch := hasl_any n l _ _ w hs
  rw [hh] at ch
  have CH := Lib.hid ch
  have HS := Lib.hid hs
  have HT := Lib.hid ht
  have HVL := Lib.hid hvl
  have LAW := Lib.hid law
  have HLL := Lib.hid hLL
  have HLL1 := Lib.hid hL1
  have HLW := Lib.hid hll
  have HTK := Lib.hid htk
  clear ch hs ht hvl law law0 hLL hL1 hll htk hh
  go_enter Tryz.func20, Tryz.ntmps20
  go_wp2_with fail
  refine (CH.out).mono ?_
  rintro e w1 ⟨rfl, hb1⟩
  have cv := valid_any _ _ _ _ w1 (HS.out.up hb1) (Nat.le_refl _)
  rw [HVL.out] at cv
  have HB1 := Lib.hid hb1
  have CV := Lib.hid cv
  clear cv hb1
  go_wp2_with fail
  refine (CV.out).mono ?_
  rintro e w2 ⟨rfl, hb2⟩
  have HB2 := Lib.hid (bseq HB1.out hb2)
  have C3 := Lib.hid (labeled_any n 18 0 0 none 0 [] w2 SLL.nil)
  clear hb2
  go_wp2_with fail
  refine (C3.out).mono ?_
  rintro e w3 ⟨a3, rfl, hs3, hb3⟩
  obtain ⟨W4, hW4⟩ : ∃ W4, W4 = w3.alloc (.cells #[.int .i64 10, .int .i64 n, .int .i64 0, .slice a3 1 1, .int .i64 11, .int .i64 n, .int .i64 0, .slice none 0 0, .int .i64 12, .int .i64 n, .int .i64 0, .slice none 0 0, .int .i64 13, .int .i64 n, .int .i64 0, .slice none 0 0] 27) := ⟨_, rfl⟩
  obtain ⟨hb4, hz4, hs4⟩ := four_full (a := a3) (cap := 1) (bd := [[expF]]) hs3 hW4
  have HS4 := Lib.hid (show SL W4 W4.heap.size (some ⟨w3.heap.size, 0, none⟩) 4 [labF n expF, jmpF 11 n, jmpF 12 n, jmpF 13 n] from hs4)
  have HB4 := Lib.hid (bseq (bseq HB2.out hb3) hb4)
  have HW4 := Lib.hid hW4
  have HZ4 := Lib.hid hz4
  obtain ⟨c4, hc4⟩ : ∃ c4, c4 = w3.heap.size := ⟨_, rfl⟩
  have HC4 := Lib.hid hc4
  rw [← hc4] at HS4
  clear hs3 hb3 hW4 hb4 hz4 hs4 hc4
  go_wp2_with fail
  rw [← HW4.out, ← HC4.out]
  go_loopg [50] 4 (fun g vi wr => ∃ i : Nat, i + g = 4 ∧ vi = .int .i64 i ∧ Below W4.heap.size W4 wr)
  case atStart => exact ⟨0, by omega, rfl, Below.refl _ _⟩
  case round =>
    obtain ⟨i, hi, rfl, hbr⟩ := hrel
    by_cases hlt : i < 4
    · obtain ⟨e4, o4, hax4, hel4⟩ := HS4.out.en (by simp)
      obtain ⟨rfl, rfl⟩ : c4 = e4 ∧ 0 = o4 := by simpa using hax4
      obtain ⟨hbH, k, lb, d, bd, a', cap', _, hx, c0, c1, c2, c3, hsl⟩ := hel4.at i hlt
      rw [Nat.zero_add] at c0 c1 c2 c3
      have d0 : wr.cell? ⟨c4, i * 4, none⟩ = _ := (hbr.cell (p := ⟨c4, i * 4, none⟩) hbH).trans c0
      have d1 : wr.cell? ⟨c4, i * 4 + 1, none⟩ = _ := (hbr.cell (p := ⟨c4, i * 4 + 1, none⟩) hbH).trans c1
      have d2 : wr.cell? ⟨c4, i * 4 + 2, none⟩ = _ := (hbr.cell (p := ⟨c4, i * 4 + 2, none⟩) hbH).trans c2
      have d3 : wr.cell? ⟨c4, i * 4 + 3, none⟩ = _ := (hbr.cell (p := ⟨c4, i * 4 + 3, none⟩) hbH).trans c3
      have hbr4 : c4 < wr.heap.size := by have := hbr.size; omega
      have hiI : (i : Int) < 4 := by omega
      have hi0 : (0 : Int) ≤ (i : Int) := by omega
      obtain ⟨L1, hL1⟩ : ∃ L1, L1 = l.take q0 ++ [.mk k lb d bd] := ⟨_, rfl⟩
      obtain ⟨L, hL⟩ : ∃ L, L = L1 ++ l.drop q0 := ⟨_, rfl⟩
      have law := LAW.out i _ hx
      rw [← hL1, ← hL] at law
      have hLLx := HLL.out (.mk k lb d bd)
      rw [← hL1, ← hL] at hLLx
      have hLL1x := HLL1.out (.mk k lb d bd)
      rw [← hL1] at hLL1x
      obtain ⟨W5, hW5⟩ : ∃ W5, W5 = wr.alloc (.cells #[.int .i64 k, .int .i64 lb, .int .i64 d, .slice a' bd.length cap'] 27) := ⟨_, rfl⟩
      obtain ⟨hb5, hz5, hs5⟩ := one_full (hsl.keep (w' := wr) (fun j hj => hbr.block j hj) hbr.size) hW5
      obtain ⟨W6, hW6⟩ : ∃ W6, W6 = W5.alloc (.cells #[.int .i64 k, .int .i64 lb, .int .i64 d, .slice a' bd.length cap'] 27) := ⟨_, rfl⟩
      obtain ⟨hb6, hz6, hs6⟩ := one_full ((hsl.keep (w' := wr) (fun j hj => hbr.block j hj) hbr.size).up hb5) hW6
      obtain ⟨V, hV⟩ : ∃ V, V = W6.drew := ⟨_, rfl⟩
      have hbv : Below W6.heap.size W6 V := by rw [hV]; exact (Below.refl _ _).drew
      have hb4r : Below W4.heap.size W4 V := hbr.trans (Below.mono (bseq hb5 (bseq hb6 hbv)) hbr.size)
      have hb0v := bseq HB4.out hb4r
      have c7 := with_any (l.take q0) [.mk k lb d bd] _ _ _ 1 V ((HS.out.up hb0v).take q0) (hs6.up hbv) (by simp) (HLW.out _)
      rw [← hL1, HTK.out] at c7
      rw [hz5] at c7
      have HBV := Lib.hid hb0v
      have HB4V := Lib.hid hb4r
      have C4 := Lib.hid c7
      have HV := Lib.hid (hV.trans (by rw [hW6, hW5]))
      have HL := Lib.hid hL
      have HL1 := Lib.hid hL1
      have LAWX := Lib.hid law
      have HLLX := Lib.hid hLLx
      have HLL1X := Lib.hid hLL1x
      clear hbr hsl hL hL1 law hLLx hLL1x hW5 hb5 hz5 hs5 hW6 hb6 hz6 hs6 hbv hb4r hb0v c7 hV c0 c1 c2 c3 hel4 hax4 hx
      go_upto_region 8 with fail
      have hdk : l.drop q0 = [] := List.drop_eq_nil_of_le (by omega)
      obtain rfl : L = L1 := by rw [HL.out, hdk, List.append_nil]
      rw [hk] at C4
      clear hdk
      go_region_law (first
        | (go_simp; go_at_call 24; rw [← HV.out]; refine (C4.out).mono ?_; rintro e w7 ⟨g7, cap7, rfl, hrw6, hb6⟩; have hs7 := hrw6.sl HLLX.out hb6.size; have hcap7 := hs7.1))
      have HS7 := Lib.hid hs7
      have HB7 := Lib.hid (bseq HBV.out hb6)
      have HB47 := Lib.hid (HB4V.out.trans (Below.mono hb6 HB4V.out.size))
      clear hrw6 hb6 hs7
      have cvv := valid_any _ _ _ _ w7 HS7.out (Nat.le_refl _)
      have CVV := Lib.hid cvv
      clear cvv
      go_wp2_with fail
      refine (CVV.out).mono ?_
      rintro e w8 ⟨rfl, hb8⟩
      have HB8 := Lib.hid (bseq HB7.out hb8)
      have HB48 := Lib.hid (HB47.out.trans (Below.mono hb8 HB47.out.size))
      have HS8 := Lib.hid (HS7.out.up hb8)
      clear hb8
      cases hv : validL L with
      | false =>
        clear hv
        go_wp2_with fail
        go_roundg (gk - 1)
        case measure => omega
        exact ⟨i + 1, by omega, by simp, HB48.out⟩
      | true =>
        have cj := jumps_any _ _ _ w8 HS8.out (HT.out.on HB8.out) hv
        rw [LAWX.out] at cj
        have CJ := Lib.hid cj
        clear cj hv
        go_wp2_with fail
        refine (CJ.out).mono ?_
        rintro e w9 ⟨rfl, hb9⟩
        have HB49 := Lib.hid (HB48.out.trans (Below.mono hb9 HB48.out.size))
        clear hb9
        go_wp2_with fail
        go_roundg (gk - 1)
        case measure => omega
        exact ⟨i + 1, by omega, by simp, HB49.out⟩
    · have hiI : ¬ (i : Int) < 4 := by omega
      have hb0r := bseq HB4.out hbr
      have HBR := Lib.hid hb0r
      clear hbr hb0r
      go_wp2_with fail
      refine (works_any wr (HT.out.on HBR.out)).mono ?_
      rintro e w10 ⟨rfl, hb10⟩
      go_wp2_with fail
      go_ret
      exact ⟨rfl, bseq HBR.out hb10⟩
set_option maxRecDepth 100000 in
set_option maxHeartbeats 8000000 in
theorem fnUnused_main4 (l : List Fl) (n : Int) (hn1 : 1 ≤ n) (hn2 : n ≤ 9) (q0 : Nat) (hk : q0 = l.length) (hlen : ¬ (l.length : Int) > 2147483647) (hh : hasL n l = false) (hvl : validL l = true) (q : Addr) (cap : Nat) (hcl : cap = l.length) (w : World) (hs : SL w w.heap.size (some q) cap l) (ht : Tab w) : Calls Tryz.prog 20 #[.slice (some q) l.length cap, .int .i64 n, .int .i64 q0] w (RetB w true) := by
  subst hcl
  have hkI2 : (q0 : Int) ≤ (l.length : Int) := by omega
  have hk0 : (0 : Int) ≤ (q0 : Int) := by omega
  have hcap := hs.1
  have hkc : (q0 : Int) ≤ (l.length : Int) := by omega
  have hcI : (l.length : Int) ≤ (l.length : Int) := by omega
  have htk : (l.take q0).length = q0 := by rw [List.length_take]; omega
  have hll : ∀ x : Fl, ((l.take q0).length + [x].length) * 48 ≤ 140737488355328 := by intro x; rw [htk, List.length_singleton]; omega
  have hL1 : ∀ x : Fl, (l.take q0 ++ [x]).length * 48 ≤ 140737488355328 := by intro x; rw [List.length_append, htk, List.length_singleton]; omega
  have hLL : ∀ x : Fl, ((l.take q0 ++ [x]) ++ l.drop q0).length * 48 ≤ 140737488355328 := by intro x; rw [List.length_append, List.length_append, htk, List.length_singleton, List.length_drop]; omega
  have law0 := law_unused n hn1 (l.take q0) (l.drop q0) (by rw [List.take_append_drop]; exact hh)
  have law : ∀ (i : Nat) (x : Fl), [labF n expF, jmpF 11 n, jmpF 12 n, jmpF 13 n][i]? = some x → jumpsJ ((l.take q0 ++ [x]) ++ l.drop q0) = false := by
    intro i x hx
    rw [List.append_assoc, List.singleton_append]
    match i, hx with
    | 0, hx => simp at hx; subst hx; exact law0.1
    | 1, hx => simp at hx; subst hx; exact law0.2.1
    | 2, hx => simp at hx; subst hx; exact law0.2.2.1
    | 3, hx => simp at hx; subst hx; exact law0.2.2.2
    | i + 4, hx => simp at hx
  have ch := hasl_any n l _ _ w hs
  rw [hh] at ch
  have CH := Lib.hid ch
  have HS := Lib.hid hs
  have HT := Lib.hid ht
  have HVL := Lib.hid hvl
  have LAW := Lib.hid law
  have HLL := Lib.hid hLL
  have HLL1 := Lib.hid hL1
  have HLW := Lib.hid hll
  have HTK := Lib.hid htk
  clear ch hs ht hvl law law0 hLL hL1 hll htk hh
  go_enter Tryz.func20, Tryz.ntmps20
  go_wp2_with fail
  refine (CH.out).mono ?_
  rintro e w1 ⟨rfl, hb1⟩
  have cv := valid_any _ _ _ _ w1 (HS.out.up hb1) (Nat.le_refl _)
  rw [HVL.out] at cv
  have HB1 := Lib.hid hb1
  have CV := Lib.hid cv
  clear cv hb1
  go_wp2_with fail
  refine (CV.out).mono ?_
  rintro e w2 ⟨rfl, hb2⟩
  have HB2 := Lib.hid (bseq HB1.out hb2)
  have C3 := Lib.hid (labeled_any n 18 0 0 none 0 [] w2 SLL.nil)
  clear hb2
  go_wp2_with fail
  refine (C3.out).mono ?_
  rintro e w3 ⟨a3, rfl, hs3, hb3⟩
  obtain ⟨W4, hW4⟩ : ∃ W4, W4 = w3.alloc (.cells #[.int .i64 10, .int .i64 n, .int .i64 0, .slice a3 1 1, .int .i64 11, .int .i64 n, .int .i64 0, .slice none 0 0, .int .i64 12, .int .i64 n, .int .i64 0, .slice none 0 0, .int .i64 13, .int .i64 n, .int .i64 0, .slice none 0 0] 27) := ⟨_, rfl⟩
  obtain ⟨hb4, hz4, hs4⟩ := four_full (a := a3) (cap := 1) (bd := [[expF]]) hs3 hW4
  have HS4 := Lib.hid (show SL W4 W4.heap.size (some ⟨w3.heap.size, 0, none⟩) 4 [labF n expF, jmpF 11 n, jmpF 12 n, jmpF 13 n] from hs4)
  have HB4 := Lib.hid (bseq (bseq HB2.out hb3) hb4)
  have HW4 := Lib.hid hW4
  have HZ4 := Lib.hid hz4
  obtain ⟨c4, hc4⟩ : ∃ c4, c4 = w3.heap.size := ⟨_, rfl⟩
  have HC4 := Lib.hid hc4
  rw [← hc4] at HS4
  clear hs3 hb3 hW4 hb4 hz4 hs4 hc4
  go_wp2_with fail
  rw [← HW4.out, ← HC4.out]
  go_loopg [50] 4 (fun g vi wr => ∃ i : Nat, i + g = 4 ∧ vi = .int .i64 i ∧ Below W4.heap.size W4 wr)
  case atStart => exact ⟨0, by omega, rfl, Below.refl _ _⟩
  case round =>
    obtain ⟨i, hi, rfl, hbr⟩ := hrel
    by_cases hlt : i < 4
    · obtain ⟨e4, o4, hax4, hel4⟩ := HS4.out.en (by simp)
      obtain ⟨rfl, rfl⟩ : c4 = e4 ∧ 0 = o4 := by simpa using hax4
      obtain ⟨hbH, k, lb, d, bd, a', cap', _, hx, c0, c1, c2, c3, hsl⟩ := hel4.at i hlt
      rw [Nat.zero_add] at c0 c1 c2 c3
      have d0 : wr.cell? ⟨c4, i * 4, none⟩ = _ := (hbr.cell (p := ⟨c4, i * 4, none⟩) hbH).trans c0
      have d1 : wr.cell? ⟨c4, i * 4 + 1, none⟩ = _ := (hbr.cell (p := ⟨c4, i * 4 + 1, none⟩) hbH).trans c1
      have d2 : wr.cell? ⟨c4, i * 4 + 2, none⟩ = _ := (hbr.cell (p := ⟨c4, i * 4 + 2, none⟩) hbH).trans c2
      have d3 : wr.cell? ⟨c4, i * 4 + 3, none⟩ = _ := (hbr.cell (p := ⟨c4, i * 4 + 3, none⟩) hbH).trans c3
      have hbr4 : c4 < wr.heap.size := by have := hbr.size; omega
      have hiI : (i : Int) < 4 := by omega
      have hi0 : (0 : Int) ≤ (i : Int) := by omega
      obtain ⟨L1, hL1⟩ : ∃ L1, L1 = l.take q0 ++ [.mk k lb d bd] := ⟨_, rfl⟩
      obtain ⟨L, hL⟩ : ∃ L, L = L1 ++ l.drop q0 := ⟨_, rfl⟩
      have law := LAW.out i _ hx
      rw [← hL1, ← hL] at law
      have hLLx := HLL.out (.mk k lb d bd)
      rw [← hL1, ← hL] at hLLx
      have hLL1x := HLL1.out (.mk k lb d bd)
      rw [← hL1] at hLL1x
      obtain ⟨W5, hW5⟩ : ∃ W5, W5 = wr.alloc (.cells #[.int .i64 k, .int .i64 lb, .int .i64 d, .slice a' bd.length cap'] 27) := ⟨_, rfl⟩
      obtain ⟨hb5, hz5, hs5⟩ := one_full (hsl.keep (w' := wr) (fun j hj => hbr.block j hj) hbr.size) hW5
      obtain ⟨W6, hW6⟩ : ∃ W6, W6 = W5.alloc (.cells #[.int .i64 k, .int .i64 lb, .int .i64 d, .slice a' bd.length cap'] 27) := ⟨_, rfl⟩
      obtain ⟨hb6, hz6, hs6⟩ := one_full ((hsl.keep (w' := wr) (fun j hj => hbr.block j hj) hbr.size).up hb5) hW6
      obtain ⟨V, hV⟩ : ∃ V, V = W6.drew := ⟨_, rfl⟩
      have hbv : Below W6.heap.size W6 V := by rw [hV]; exact (Below.refl _ _).drew
      have hb4r : Below W4.heap.size W4 V := hbr.trans (Below.mono (bseq hb5 (bseq hb6 hbv)) hbr.size)
      have hb0v := bseq HB4.out hb4r
      have c7 := with_any (l.take q0) [.mk k lb d bd] _ _ _ 1 V ((HS.out.up hb0v).take q0) (hs6.up hbv) (by simp) (HLW.out _)
      rw [← hL1, HTK.out] at c7
      rw [hz5] at c7
      have HBV := Lib.hid hb0v
      have HB4V := Lib.hid hb4r
      have C4 := Lib.hid c7
      have HV := Lib.hid (hV.trans (by rw [hW6, hW5]))
      have HL := Lib.hid hL
      have HL1 := Lib.hid hL1
      have LAWX := Lib.hid law
      have HLLX := Lib.hid hLLx
      have HLL1X := Lib.hid hLL1x
      clear hbr hsl hL hL1 law hLLx hLL1x hW5 hb5 hz5 hs5 hW6 hb6 hz6 hs6 hbv hb4r hb0v c7 hV c0 c1 c2 c3 hel4 hax4 hx
      go_upto_region 8 with fail
      have hdk : l.drop q0 = [] := List.drop_eq_nil_of_le (by omega)
      obtain rfl : L = L1 := by rw [HL.out, hdk, List.append_nil]
      rw [hk] at C4
      clear hdk
      go_region_law (first
        | (go_simp; go_at_call 24; rw [← HV.out]; refine (C4.out).mono ?_; rintro e w7 ⟨g7, cap7, rfl, hrw6, hb6⟩; have hs7 := hrw6.sl HLLX.out hb6.size; have hcap7 := hs7.1))
      have HS7 := Lib.hid hs7
      have HB7 := Lib.hid (bseq HBV.out hb6)
      have HB47 := Lib.hid (HB4V.out.trans (Below.mono hb6 HB4V.out.size))
      clear hrw6 hb6 hs7
      have cvv := valid_any _ _ _ _ w7 HS7.out (Nat.le_refl _)
      have CVV := Lib.hid cvv
      clear cvv
      go_wp2_with fail
      refine (CVV.out).mono ?_
      rintro e w8 ⟨rfl, hb8⟩
      have HB8 := Lib.hid (bseq HB7.out hb8)
      have HB48 := Lib.hid (HB47.out.trans (Below.mono hb8 HB47.out.size))
      have HS8 := Lib.hid (HS7.out.up hb8)
      clear hb8
      cases hv : validL L with
      | false =>
        clear hv
        go_wp2_with fail
        go_roundg (gk - 1)
        case measure => omega
        exact ⟨i + 1, by omega, by simp, HB48.out⟩
      | true =>
        have cj := jumps_any _ _ _ w8 HS8.out (HT.out.on HB8.out) hv
        rw [LAWX.out] at cj
        have CJ := Lib.hid cj
        clear cj hv
        go_wp2_with fail
        refine (CJ.out).mono ?_
        rintro e w9 ⟨rfl, hb9⟩
        have HB49 := Lib.hid (HB48.out.trans (Below.mono hb9 HB48.out.size))
        clear hb9
        go_wp2_with fail
        go_roundg (gk - 1)
        case measure => omega
        exact ⟨i + 1, by omega, by simp, HB49.out⟩
    · have hiI : ¬ (i : Int) < 4 := by omega
      have hb0r := bseq HB4.out hbr
      have HBR := Lib.hid hb0r
      clear hbr hb0r
      go_wp2_with fail
      refine (works_any wr (HT.out.on HBR.out)).mono ?_
      rintro e w10 ⟨rfl, hb10⟩
      go_wp2_with fail
      go_ret
      exact ⟨rfl, bseq HBR.out hb10⟩
set_option maxRecDepth 100000 in
set_option maxHeartbeats 8000000 in
theorem fnUnused_main3 (l : List Fl) (n : Int) (hn1 : 1 ≤ n) (hn2 : n ≤ 9) (q0 : Nat) (hk : q0 = l.length) (hlen : ¬ (l.length : Int) > 2147483647) (hh : hasL n l = false) (hvl : validL l = true)  (cap : Nat) (w : World) (hs : SL w w.heap.size none cap l) (ht : Tab w) : Calls Tryz.prog 20 #[.slice none l.length cap, .int .i64 n, .int .i64 q0] w (RetB w true) := by
  have hkI2 : (q0 : Int) ≤ (l.length : Int) := by omega
  have hk0 : (0 : Int) ≤ (q0 : Int) := by omega
  have hcap := hs.1
  have hkc : (q0 : Int) ≤ (cap : Int) := by omega
  have hcI : (l.length : Int) ≤ (cap : Int) := by omega
  have htk : (l.take q0).length = q0 := by rw [List.length_take]; omega
  have hll : ∀ x : Fl, ((l.take q0).length + [x].length) * 48 ≤ 140737488355328 := by intro x; rw [htk, List.length_singleton]; omega
  have hL1 : ∀ x : Fl, (l.take q0 ++ [x]).length * 48 ≤ 140737488355328 := by intro x; rw [List.length_append, htk, List.length_singleton]; omega
  have hLL : ∀ x : Fl, ((l.take q0 ++ [x]) ++ l.drop q0).length * 48 ≤ 140737488355328 := by intro x; rw [List.length_append, List.length_append, htk, List.length_singleton, List.length_drop]; omega
  have law0 := law_unused n hn1 (l.take q0) (l.drop q0) (by rw [List.take_append_drop]; exact hh)
  have law : ∀ (i : Nat) (x : Fl), [labF n expF, jmpF 11 n, jmpF 12 n, jmpF 13 n][i]? = some x → jumpsJ ((l.take q0 ++ [x]) ++ l.drop q0) = false := by
    intro i x hx
    rw [List.append_assoc, List.singleton_append]
    match i, hx with
    | 0, hx => simp at hx; subst hx; exact law0.1
    | 1, hx => simp at hx; subst hx; exact law0.2.1
    | 2, hx => simp at hx; subst hx; exact law0.2.2.1
    | 3, hx => simp at hx; subst hx; exact law0.2.2.2
    | i + 4, hx => simp at hx
  have ch := hasl_any n l _ _ w hs
  rw [hh] at ch
  have CH := Lib.hid ch
  have HS := Lib.hid hs
  have HT := Lib.hid ht
  have HVL := Lib.hid hvl
  have LAW := Lib.hid law
  have HLL := Lib.hid hLL
  have HLL1 := Lib.hid hL1
  have HLW := Lib.hid hll
  have HTK := Lib.hid htk
  clear ch hs ht hvl law law0 hLL hL1 hll htk hh
  go_enter Tryz.func20, Tryz.ntmps20
  go_wp2_with fail
  refine (CH.out).mono ?_
  rintro e w1 ⟨rfl, hb1⟩
  have cv := valid_any _ _ _ _ w1 (HS.out.up hb1) (Nat.le_refl _)
  rw [HVL.out] at cv
  have HB1 := Lib.hid hb1
  have CV := Lib.hid cv
  clear cv hb1
  go_wp2_with fail
  refine (CV.out).mono ?_
  rintro e w2 ⟨rfl, hb2⟩
  have HB2 := Lib.hid (bseq HB1.out hb2)
  have C3 := Lib.hid (labeled_any n 18 0 0 none 0 [] w2 SLL.nil)
  clear hb2
  go_wp2_with fail
  refine (C3.out).mono ?_
  rintro e w3 ⟨a3, rfl, hs3, hb3⟩
  obtain ⟨W4, hW4⟩ : ∃ W4, W4 = w3.alloc (.cells #[.int .i64 10, .int .i64 n, .int .i64 0, .slice a3 1 1, .int .i64 11, .int .i64 n, .int .i64 0, .slice none 0 0, .int .i64 12, .int .i64 n, .int .i64 0, .slice none 0 0, .int .i64 13, .int .i64 n, .int .i64 0, .slice none 0 0] 27) := ⟨_, rfl⟩
  obtain ⟨hb4, hz4, hs4⟩ := four_full (a := a3) (cap := 1) (bd := [[expF]]) hs3 hW4
  have HS4 := Lib.hid (show SL W4 W4.heap.size (some ⟨w3.heap.size, 0, none⟩) 4 [labF n expF, jmpF 11 n, jmpF 12 n, jmpF 13 n] from hs4)
  have HB4 := Lib.hid (bseq (bseq HB2.out hb3) hb4)
  have HW4 := Lib.hid hW4
  have HZ4 := Lib.hid hz4
  obtain ⟨c4, hc4⟩ : ∃ c4, c4 = w3.heap.size := ⟨_, rfl⟩
  have HC4 := Lib.hid hc4
  rw [← hc4] at HS4
  clear hs3 hb3 hW4 hb4 hz4 hs4 hc4
  go_wp2_with fail
  rw [← HW4.out, ← HC4.out]
  go_loopg [50] 4 (fun g vi wr => ∃ i : Nat, i + g = 4 ∧ vi = .int .i64 i ∧ Below W4.heap.size W4 wr)
  case atStart => exact ⟨0, by omega, rfl, Below.refl _ _⟩
  case round =>
    obtain ⟨i, hi, rfl, hbr⟩ := hrel
    by_cases hlt : i < 4
    · obtain ⟨e4, o4, hax4, hel4⟩ := HS4.out.en (by simp)
      obtain ⟨rfl, rfl⟩ : c4 = e4 ∧ 0 = o4 := by simpa using hax4
      obtain ⟨hbH, k, lb, d, bd, a', cap', _, hx, c0, c1, c2, c3, hsl⟩ := hel4.at i hlt
      rw [Nat.zero_add] at c0 c1 c2 c3
      have d0 : wr.cell? ⟨c4, i * 4, none⟩ = _ := (hbr.cell (p := ⟨c4, i * 4, none⟩) hbH).trans c0
      have d1 : wr.cell? ⟨c4, i * 4 + 1, none⟩ = _ := (hbr.cell (p := ⟨c4, i * 4 + 1, none⟩) hbH).trans c1
      have d2 : wr.cell? ⟨c4, i * 4 + 2, none⟩ = _ := (hbr.cell (p := ⟨c4, i * 4 + 2, none⟩) hbH).trans c2
      have d3 : wr.cell? ⟨c4, i * 4 + 3, none⟩ = _ := (hbr.cell (p := ⟨c4, i * 4 + 3, none⟩) hbH).trans c3
      have hbr4 : c4 < wr.heap.size := by have := hbr.size; omega
      have hiI : (i : Int) < 4 := by omega
      have hi0 : (0 : Int) ≤ (i : Int) := by omega
      obtain ⟨L1, hL1⟩ : ∃ L1, L1 = l.take q0 ++ [.mk k lb d bd] := ⟨_, rfl⟩
      obtain ⟨L, hL⟩ : ∃ L, L = L1 ++ l.drop q0 := ⟨_, rfl⟩
      have law := LAW.out i _ hx
      rw [← hL1, ← hL] at law
      have hLLx := HLL.out (.mk k lb d bd)
      rw [← hL1, ← hL] at hLLx
      have hLL1x := HLL1.out (.mk k lb d bd)
      rw [← hL1] at hLL1x
      obtain ⟨W5, hW5⟩ : ∃ W5, W5 = wr.alloc (.cells #[.int .i64 k, .int .i64 lb, .int .i64 d, .slice a' bd.length cap'] 27) := ⟨_, rfl⟩
      obtain ⟨hb5, hz5, hs5⟩ := one_full (hsl.keep (w' := wr) (fun j hj => hbr.block j hj) hbr.size) hW5
      obtain ⟨W6, hW6⟩ : ∃ W6, W6 = W5.alloc (.cells #[.int .i64 k, .int .i64 lb, .int .i64 d, .slice a' bd.length cap'] 27) := ⟨_, rfl⟩
      obtain ⟨hb6, hz6, hs6⟩ := one_full ((hsl.keep (w' := wr) (fun j hj => hbr.block j hj) hbr.size).up hb5) hW6
      obtain ⟨V, hV⟩ : ∃ V, V = W6.drew := ⟨_, rfl⟩
      have hbv : Below W6.heap.size W6 V := by rw [hV]; exact (Below.refl _ _).drew
      have hb4r : Below W4.heap.size W4 V := hbr.trans (Below.mono (bseq hb5 (bseq hb6 hbv)) hbr.size)
      have hb0v := bseq HB4.out hb4r
      have c7 := with_any (l.take q0) [.mk k lb d bd] _ _ _ 1 V ((HS.out.up hb0v).take q0) (hs6.up hbv) (by simp) (HLW.out _)
      rw [← hL1, HTK.out] at c7
      rw [hz5] at c7
      have HBV := Lib.hid hb0v
      have HB4V := Lib.hid hb4r
      have C4 := Lib.hid c7
      have HV := Lib.hid (hV.trans (by rw [hW6, hW5]))
      have HL := Lib.hid hL
      have HL1 := Lib.hid hL1
      have LAWX := Lib.hid law
      have HLLX := Lib.hid hLLx
      have HLL1X := Lib.hid hLL1x
      clear hbr hsl hL hL1 law hLLx hLL1x hW5 hb5 hz5 hs5 hW6 hb6 hz6 hs6 hbv hb4r hb0v c7 hV c0 c1 c2 c3 hel4 hax4 hx
      go_upto_region 8 with fail
      have hdk : l.drop q0 = [] := List.drop_eq_nil_of_le (by omega)
      obtain rfl : L = L1 := by rw [HL.out, hdk, List.append_nil]
      rw [hk] at C4
      clear hdk
      go_region_law (first
        | (go_simp; go_at_call 24; rw [← HV.out]; refine (C4.out).mono ?_; rintro e w7 ⟨g7, cap7, rfl, hrw6, hb6⟩; have hs7 := hrw6.sl HLLX.out hb6.size; have hcap7 := hs7.1))
      have HS7 := Lib.hid hs7
      have HB7 := Lib.hid (bseq HBV.out hb6)
      have HB47 := Lib.hid (HB4V.out.trans (Below.mono hb6 HB4V.out.size))
      clear hrw6 hb6 hs7
      have cvv := valid_any _ _ _ _ w7 HS7.out (Nat.le_refl _)
      have CVV := Lib.hid cvv
      clear cvv
      go_wp2_with fail
      refine (CVV.out).mono ?_
      rintro e w8 ⟨rfl, hb8⟩
      have HB8 := Lib.hid (bseq HB7.out hb8)
      have HB48 := Lib.hid (HB47.out.trans (Below.mono hb8 HB47.out.size))
      have HS8 := Lib.hid (HS7.out.up hb8)
      clear hb8
      cases hv : validL L with
      | false =>
        clear hv
        go_wp2_with fail
        go_roundg (gk - 1)
        case measure => omega
        exact ⟨i + 1, by omega, by simp, HB48.out⟩
      | true =>
        have cj := jumps_any _ _ _ w8 HS8.out (HT.out.on HB8.out) hv
        rw [LAWX.out] at cj
        have CJ := Lib.hid cj
        clear cj hv
        go_wp2_with fail
        refine (CJ.out).mono ?_
        rintro e w9 ⟨rfl, hb9⟩
        have HB49 := Lib.hid (HB48.out.trans (Below.mono hb9 HB48.out.size))
        clear hb9
        go_wp2_with fail
        go_roundg (gk - 1)
        case measure => omega
        exact ⟨i + 1, by omega, by simp, HB49.out⟩
    · have hiI : ¬ (i : Int) < 4 := by omega
      have hb0r := bseq HB4.out hbr
      have HBR := Lib.hid hb0r
      clear hbr hb0r
      go_wp2_with fail
      refine (works_any wr (HT.out.on HBR.out)).mono ?_
      rintro e w10 ⟨rfl, hb10⟩
      go_wp2_with fail
      go_ret
      exact ⟨rfl, bseq HBR.out hb10⟩
set_option maxHeartbeats 8000000 in
theorem fnUnused_any (l : List Fl) (n k : Int) (a : Option Addr) (cap : Nat) (w : World) (hs : SL w w.heap.size a cap l) (ht : Tab w) : Calls Tryz.prog 20 #[.slice a l.length cap, .int .i64 n, .int .i64 k] w (RetB w true) := by
  by_cases hlen : (l.length : Int) > 2147483647
  · clear hs ht
    go_enter Tryz.func20, Tryz.ntmps20
    go_wp2_with fail
    (try simp only [Exit.inBlock, Exit.then])
    refine bodyPost_ret (results_tmp rfl _ _ _) rfl ?_
    exact ⟨rfl, Below.refl _ _⟩
  by_cases hn : n < 1
  · clear hs ht
    go_enter Tryz.func20, Tryz.ntmps20
    go_wp2_with fail
    (try simp only [Exit.inBlock, Exit.then])
    refine bodyPost_ret (results_tmp rfl _ _ _) rfl ?_
    exact ⟨rfl, Below.refl _ _⟩
  by_cases hn9 : 9 < n
  · clear hs ht
    go_enter Tryz.func20, Tryz.ntmps20
    go_wp2_with fail
    (try simp only [Exit.inBlock, Exit.then])
    refine bodyPost_ret (results_tmp rfl _ _ _) rfl ?_
    exact ⟨rfl, Below.refl _ _⟩
  cases hh : hasL n l with
  | true =>
    have ch := hasl_any n l a cap w hs
    rw [hh] at ch
    have CH := Lib.hid ch
    clear ch hs ht hh
    go_enter Tryz.func20, Tryz.ntmps20
    go_wp2_with fail
    refine (CH.out).mono ?_
    rintro e w1 ⟨rfl, hb1⟩
    go_wp2_with fail
    (try simp only [Exit.inBlock, Exit.then])
    refine bodyPost_ret (results_tmp rfl _ _ _) rfl ?_
    exact ⟨rfl, hb1⟩
  | false =>
    by_cases hk : k < 0
    · have ch := hasl_any n l a cap w hs
      rw [hh] at ch
      have CH := Lib.hid ch
      clear ch hs ht hh
      go_enter Tryz.func20, Tryz.ntmps20
      go_wp2_with fail
      refine (CH.out).mono ?_
      rintro e w1 ⟨rfl, hb1⟩
      go_wp2_with fail
      (try simp only [Exit.inBlock, Exit.then])
      refine bodyPost_ret (results_tmp rfl _ _ _) rfl ?_
      exact ⟨rfl, hb1⟩
    by_cases hk2 : (l.length : Int) < k
    · have ch := hasl_any n l a cap w hs
      rw [hh] at ch
      have CH := Lib.hid ch
      clear ch hs ht hh
      go_enter Tryz.func20, Tryz.ntmps20
      go_wp2_with fail
      refine (CH.out).mono ?_
      rintro e w1 ⟨rfl, hb1⟩
      go_wp2_with fail
      (try simp only [Exit.inBlock, Exit.then])
      refine bodyPost_ret (results_tmp rfl _ _ _) rfl ?_
      exact ⟨rfl, hb1⟩
    obtain ⟨q0, rfl⟩ : ∃ q0 : Nat, k = (q0 : Int) := ⟨k.toNat, by omega⟩
    have hkl : q0 ≤ l.length := by omega
    cases hv : validL l with
    | false =>
      have ch := hasl_any n l a cap w hs
      rw [hh] at ch
      have CH := Lib.hid ch
      have HV := Lib.hid hv
      have HS := Lib.hid hs
      have hk0 : (0 : Int) ≤ (q0 : Int) := by omega
      clear ch hs ht hh hv hk
      go_enter Tryz.func20, Tryz.ntmps20
      go_wp2_with fail
      refine (CH.out).mono ?_
      rintro e w1 ⟨rfl, hb1⟩
      have cv := valid_any _ _ _ _ w1 (HS.out.up hb1) (Nat.le_refl _)
      rw [HV.out] at cv
      have HB1 := Lib.hid hb1
      have CV := Lib.hid cv
      clear cv hb1
      go_wp2_with fail
      refine (CV.out).mono ?_
      rintro e w2 ⟨rfl, hb2⟩
      go_wp2_with fail
      (try simp only [Exit.inBlock, Exit.then])
      refine bodyPost_ret (results_tmp rfl _ _ _) rfl ?_
      exact ⟨rfl, bseq HB1.out hb2⟩
    | true =>
      by_cases hkk : q0 < l.length
      · obtain ⟨b, o, rfl, _⟩ := hs.en (by rintro rfl; simp at hkk)
        exact fnUnused_main1 l n (by omega) (by omega) q0 hkk hlen hh hv b o cap w hs ht
      · cases a with
        | some q =>
          by_cases hcl : cap = l.length
          · exact fnUnused_main4 l n (by omega) (by omega) q0 (by omega) hlen hh hv q cap hcl w hs ht
          · exact fnUnused_main2 l n (by omega) (by omega) q0 (by omega) hlen hh hv q cap hcl w hs ht
        | none => exact fnUnused_main3 l n (by omega) (by omega) q0 (by omega) hlen hh hv cap w hs ht
end Go.Proofs.YtpodifbgfcclbaaGreatDoor
