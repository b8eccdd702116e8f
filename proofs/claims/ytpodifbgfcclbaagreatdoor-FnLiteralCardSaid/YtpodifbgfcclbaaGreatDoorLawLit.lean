/- FnLiteral: what the law's function answers. -/
import Derived.Test.YtpodifbgfcclbaaGreatDoorLawApp
import Derived.Test.YtpodifbgfcclbaaGreatDoorLawBlk
import Derived.Deep.CutRange
set_option linter.unusedVariables false
set_option linter.unusedSimpArgs false
namespace Go.Proofs.YtpodifbgfcclbaaGreatDoor
open Go.RowKit
attribute [local go_sem] Nat.lt_add_one_of_lt

set_option maxRecDepth 100000 in
set_option maxHeartbeats 8000000 in
theorem fnLiteral_main1 (l m : List Fl) (k : Nat) (hk : k < l.length) (hlen : ¬ (l.length : Int) > 2147483647) (hlenm : ¬ (m.length : Int) > 2147483647) (hvl : validL l = true) (hvm : validL m = true) (b o : Nat) (cap : Nat) (a2 : Option Addr) (cap2 : Nat) (w : World) (hs : SL w w.heap.size (some ⟨b, o, none⟩) cap l) (hs2 : SL w w.heap.size a2 cap2 m) (ht : Tab w) : Calls Tryz.prog 15 #[.slice (some ⟨b, o, none⟩) l.length cap, .slice a2 m.length cap2, .int .i64 k] w (RetB w true) := by
  have hkI2 : (k : Int) ≤ (l.length : Int) := by omega
  have hk0 : (0 : Int) ≤ (k : Int) := by omega
  have hcap := hs.1
  have hkc : (k : Int) ≤ (cap : Int) := by omega
  have hcI : (l.length : Int) ≤ (cap : Int) := by omega
  have hck : ¬ cap = k := by omega
  obtain ⟨L1, hL1⟩ : ∃ L1, L1 = l.take k ++ [ofF 19 [m]] := ⟨_, rfl⟩
  obtain ⟨L, hL⟩ : ∃ L, L = L1 ++ l.drop k := ⟨_, rfl⟩
  have htk : (l.take k).length = k := by rw [List.length_take]; omega
  have hz1 : L1.length = k + 1 := by rw [hL1, List.length_append, htk]; rfl
  have hz : L.length = l.length + 1 := by rw [hL, List.length_append, hz1, List.length_drop]; omega
  have hLl1 : L1.length * 48 ≤ 140737488355328 := by omega
  have hLl : L.length * 48 ≤ 140737488355328 := by omega
  have hll : ((l.take k).length + [ofF 19 [m]].length) * 48 ≤ 140737488355328 := by rw [htk, List.length_singleton]; omega
  have law : jumpsJ L = jumpsJ l := by
    rw [hL, hL1, List.append_assoc, List.singleton_append, law_lit, List.take_append_drop]
  have cv := valid_any _ _ _ _ w hs (Nat.le_refl _)
  rw [hvl] at cv
  have HS := Lib.hid hs
  have HS2 := Lib.hid hs2
  have HT := Lib.hid ht
  have CV := Lib.hid cv
  have HVM := Lib.hid hvm
  have HVL := Lib.hid hvl
  have HL := Lib.hid hL
  have HL1 := Lib.hid hL1
  have LAW := Lib.hid law
  have HLL := Lib.hid hLl
  have HLL1 := Lib.hid hLl1
  have HLW := Lib.hid hll
  have HTK := Lib.hid htk
  clear hs hs2 ht cv hvm hvl hL hL1 law hLl hLl1 hll htk hz hz1
  go_enter Tryz.func15, Tryz.ntmps15
  go_wp2_with fail
  refine (CV.out).mono ?_
  rintro e w1 ⟨rfl, hb1⟩
  have cm := valid_any _ _ _ _ w1 (HS2.out.up hb1) (Nat.le_refl _)
  rw [HVM.out] at cm
  have HB1 := Lib.hid hb1
  have CM := Lib.hid cm
  clear cm hb1
  go_wp2_with fail
  refine (CM.out).mono ?_
  rintro e w2 ⟨rfl, hb2⟩
  obtain ⟨W, hW⟩ : ∃ W, W = ((w2.alloc (.cells #[.slice a2 m.length cap2] 22)).alloc (.cells #[.int .i64 19, .int .i64 0, .int .i64 0, .slice (some ⟨w2.heap.size, 0, none⟩) 1 1] 27)).alloc (.cells #[.int .i64 19, .int .i64 0, .int .i64 0, .slice (some ⟨w2.heap.size, 0, none⟩) 1 1] 27) := ⟨_, rfl⟩
  have hb02 := bseq HB1.out hb2
  obtain ⟨hb3, hz3, hs3⟩ := one_list (HS2.out.up hb02) hW
  obtain ⟨V, hV⟩ : ∃ V, V = W.drew := ⟨_, rfl⟩
  have hbv : Below W.heap.size W V := by rw [hV]; exact (Below.refl _ _).drew
  have hb0v := bseq (bseq hb02 hb3) hbv
  have c4 := with_any (l.take k) [ofF 19 [m]] _ _ _ 1 V ((HS.out.up hb0v).take k) (hs3.up hbv) (by simp) HLW.out
  rw [← HL1.out, HTK.out] at c4
  have HBV := Lib.hid hb0v
  have C4 := Lib.hid c4
  have HV := Lib.hid (hV.trans (by rw [hW]))
  clear hb2 hb02 hb3 hz3 hs3 hbv hb0v c4 hV hW
  go_upto_region 5 with fail
  obtain ⟨bx, ox, hax, he⟩ := HS.out.en (by rintro rfl; simp at hk)
  obtain ⟨rfl, rfl⟩ : b = bx ∧ o = ox := by simpa using hax
  have hkd : l.drop k ≠ [] := by intro h; have := congrArg List.length h; rw [List.length_drop] at this; simp at this; omega
  have HE := Lib.hid ((he.drop k).keep (w' := V) (fun j hj => HBV.out.block j hj) HBV.out.size)
  have HKD := Lib.hid hkd
  clear he hax hkd
  go_region_law (first
    | (go_simp; go_at_call 25; refine (of_any 19 _ 1 1 _).mono ?_; rintro e _ ⟨rfl, rfl⟩)
    | (go_simp; go_at_call 24; rw [← HV.out]; refine (C4.out).mono ?_; rintro e w6 ⟨g6, cap6, rfl, hrw6, hb6⟩)
    | (refine step_app rfl _ _ rfl HL.out hrw6 (by rfl) (by rw [List.length_drop]; rfl) (EL.keep (w' := w6) (fun j hj => hb6.block j hj) (Nat.le_refl _) HE.out) HKD.out HLL.out hb6.size ?_; intro g7 cap7 w7 hrw7 hb7))
  have hb67 := hb6.trans hb7
  have HS7 := Lib.hid (hrw7.sl HLL.out hb67.size)
  have HB7 := Lib.hid (bseq HBV.out hb67)
  clear hrw6 hb6 hrw7 hb7 hb67
  have cvv := valid_any _ _ _ _ w7 HS7.out (Nat.le_refl _)
  have CVV := Lib.hid cvv
  clear cvv
  go_wp2_with fail
  refine (CVV.out).mono ?_
  rintro e w8 ⟨rfl, hb8⟩
  have HB8 := Lib.hid (bseq HB7.out hb8)
  have HS8 := Lib.hid (HS7.out.up hb8)
  clear hb8
  cases hv : validL L with
  | false =>
    clear hv
    go_wp2_with fail
    go_ret
    exact ⟨rfl, HB8.out⟩
  | true =>
    have cj := jumps_any _ _ _ w8 HS8.out (HT.out.on HB8.out) hv
    rw [LAW.out] at cj
    have CJ := Lib.hid cj
    clear cj hv
    go_wp2_with fail
    refine (CJ.out).mono ?_
    rintro e w9 ⟨rfl, hb9⟩
    have HB9 := Lib.hid (bseq HB8.out hb9)
    clear hb9
    have cjl := jumps_any _ _ _ w9 (HS.out.up HB9.out) (HT.out.on HB9.out) HVL.out
    have CJL := Lib.hid cjl
    clear cjl
    go_wp2_with fail
    refine (CJL.out).mono ?_
    rintro e w10 ⟨rfl, hb10⟩
    have HB10 := Lib.hid (bseq HB9.out hb10)
    have heq : (jumpsJ l == jumpsJ l) = true := by simp
    clear hb10
    go_wp2_with fail
    refine (works_any w10 (HT.out.on HB10.out)).mono ?_
    rintro e w11 ⟨rfl, hb11⟩
    go_wp2_with fail
    go_ret
    exact ⟨rfl, bseq HB10.out hb11⟩
set_option maxRecDepth 100000 in
set_option maxHeartbeats 8000000 in
theorem fnLiteral_main2 (l m : List Fl) (k : Nat) (hk : k = l.length) (hlen : ¬ (l.length : Int) > 2147483647) (hlenm : ¬ (m.length : Int) > 2147483647) (hvl : validL l = true) (hvm : validL m = true) (q : Addr) (cap : Nat) (hcl : ¬ cap = l.length) (a2 : Option Addr) (cap2 : Nat) (w : World) (hs : SL w w.heap.size (some q) cap l) (hs2 : SL w w.heap.size a2 cap2 m) (ht : Tab w) : Calls Tryz.prog 15 #[.slice (some q) l.length cap, .slice a2 m.length cap2, .int .i64 k] w (RetB w true) := by
  have hkI2 : (k : Int) ≤ (l.length : Int) := by omega
  have hk0 : (0 : Int) ≤ (k : Int) := by omega
  have hcap := hs.1
  have hkc : (k : Int) ≤ (cap : Int) := by omega
  have hcI : (l.length : Int) ≤ (cap : Int) := by omega
  obtain ⟨L1, hL1⟩ : ∃ L1, L1 = l.take k ++ [ofF 19 [m]] := ⟨_, rfl⟩
  obtain ⟨L, hL⟩ : ∃ L, L = L1 ++ l.drop k := ⟨_, rfl⟩
  have htk : (l.take k).length = k := by rw [List.length_take]; omega
  have hz1 : L1.length = k + 1 := by rw [hL1, List.length_append, htk]; rfl
  have hz : L.length = l.length + 1 := by rw [hL, List.length_append, hz1, List.length_drop]; omega
  have hLl1 : L1.length * 48 ≤ 140737488355328 := by omega
  have hLl : L.length * 48 ≤ 140737488355328 := by omega
  have hll : ((l.take k).length + [ofF 19 [m]].length) * 48 ≤ 140737488355328 := by rw [htk, List.length_singleton]; omega
  have law : jumpsJ L = jumpsJ l := by
    rw [hL, hL1, List.append_assoc, List.singleton_append, law_lit, List.take_append_drop]
  have cv := valid_any _ _ _ _ w hs (Nat.le_refl _)
  rw [hvl] at cv
  have HS := Lib.hid hs
  have HS2 := Lib.hid hs2
  have HT := Lib.hid ht
  have CV := Lib.hid cv
  have HVM := Lib.hid hvm
  have HVL := Lib.hid hvl
  have HL := Lib.hid hL
  have HL1 := Lib.hid hL1
  have LAW := Lib.hid law
  have HLL := Lib.hid hLl
  have HLL1 := Lib.hid hLl1
  have HLW := Lib.hid hll
  have HTK := Lib.hid htk
  clear hs hs2 ht cv hvm hvl hL hL1 law hLl hLl1 hll htk hz hz1
  go_enter Tryz.func15, Tryz.ntmps15
  go_wp2_with fail
  refine (CV.out).mono ?_
  rintro e w1 ⟨rfl, hb1⟩
  have cm := valid_any _ _ _ _ w1 (HS2.out.up hb1) (Nat.le_refl _)
  rw [HVM.out] at cm
  have HB1 := Lib.hid hb1
  have CM := Lib.hid cm
  clear cm hb1
  go_wp2_with fail
  refine (CM.out).mono ?_
  rintro e w2 ⟨rfl, hb2⟩
  obtain ⟨W, hW⟩ : ∃ W, W = ((w2.alloc (.cells #[.slice a2 m.length cap2] 22)).alloc (.cells #[.int .i64 19, .int .i64 0, .int .i64 0, .slice (some ⟨w2.heap.size, 0, none⟩) 1 1] 27)).alloc (.cells #[.int .i64 19, .int .i64 0, .int .i64 0, .slice (some ⟨w2.heap.size, 0, none⟩) 1 1] 27) := ⟨_, rfl⟩
  have hb02 := bseq HB1.out hb2
  obtain ⟨hb3, hz3, hs3⟩ := one_list (HS2.out.up hb02) hW
  obtain ⟨V, hV⟩ : ∃ V, V = W.drew := ⟨_, rfl⟩
  have hbv : Below W.heap.size W V := by rw [hV]; exact (Below.refl _ _).drew
  have hb0v := bseq (bseq hb02 hb3) hbv
  have c4 := with_any (l.take k) [ofF 19 [m]] _ _ _ 1 V ((HS.out.up hb0v).take k) (hs3.up hbv) (by simp) HLW.out
  rw [← HL1.out, HTK.out] at c4
  have HBV := Lib.hid hb0v
  have C4 := Lib.hid c4
  have HV := Lib.hid (hV.trans (by rw [hW]))
  clear hb2 hb02 hb3 hz3 hs3 hbv hb0v c4 hV hW
  go_upto_region 5 with fail
  have hdk : l.drop k = [] := List.drop_eq_nil_of_le (by omega)
  obtain rfl : L = L1 := by rw [HL.out, hdk, List.append_nil]
  rw [hk] at C4
  clear hdk
  go_region_law (first
    | (go_simp; go_at_call 25; refine (of_any 19 _ 1 1 _).mono ?_; rintro e _ ⟨rfl, rfl⟩)
    | (go_simp; go_at_call 24; rw [← HV.out]; refine (C4.out).mono ?_; rintro e w7 ⟨g7, cap7, rfl, hrw6, hb6⟩; have hs7 := hrw6.sl HLL.out hb6.size; have hcap7 := hs7.1))
  have HS7 := Lib.hid hs7
  have HB7 := Lib.hid (bseq HBV.out hb6)
  clear hrw6 hb6 hs7
  have cvv := valid_any _ _ _ _ w7 HS7.out (Nat.le_refl _)
  have CVV := Lib.hid cvv
  clear cvv
  go_wp2_with fail
  refine (CVV.out).mono ?_
  rintro e w8 ⟨rfl, hb8⟩
  have HB8 := Lib.hid (bseq HB7.out hb8)
  have HS8 := Lib.hid (HS7.out.up hb8)
  clear hb8
  cases hv : validL L with
  | false =>
    clear hv
    go_wp2_with fail
    go_ret
    exact ⟨rfl, HB8.out⟩
  | true =>
    have cj := jumps_any _ _ _ w8 HS8.out (HT.out.on HB8.out) hv
    rw [LAW.out] at cj
    have CJ := Lib.hid cj
    clear cj hv
    go_wp2_with fail
    refine (CJ.out).mono ?_
    rintro e w9 ⟨rfl, hb9⟩
    have HB9 := Lib.hid (bseq HB8.out hb9)
    clear hb9
    have cjl := jumps_any _ _ _ w9 (HS.out.up HB9.out) (HT.out.on HB9.out) HVL.out
    have CJL := Lib.hid cjl
    clear cjl
    go_wp2_with fail
    refine (CJL.out).mono ?_
    rintro e w10 ⟨rfl, hb10⟩
    have HB10 := Lib.hid (bseq HB9.out hb10)
    have heq : (jumpsJ l == jumpsJ l) = true := by simp
    clear hb10
    go_wp2_with fail
    refine (works_any w10 (HT.out.on HB10.out)).mono ?_
    rintro e w11 ⟨rfl, hb11⟩
    go_wp2_with fail
    go_ret
    exact ⟨rfl, bseq HB10.out hb11⟩
set_option maxRecDepth 100000 in
set_option maxHeartbeats 8000000 in
theorem fnLiteral_main4 (l m : List Fl) (k : Nat) (hk : k = l.length) (hlen : ¬ (l.length : Int) > 2147483647) (hlenm : ¬ (m.length : Int) > 2147483647) (hvl : validL l = true) (hvm : validL m = true) (q : Addr) (cap : Nat) (hcl : cap = l.length) (a2 : Option Addr) (cap2 : Nat) (w : World) (hs : SL w w.heap.size (some q) cap l) (hs2 : SL w w.heap.size a2 cap2 m) (ht : Tab w) : Calls Tryz.prog 15 #[.slice (some q) l.length cap, .slice a2 m.length cap2, .int .i64 k] w (RetB w true) := by
  subst hcl
  have hkI2 : (k : Int) ≤ (l.length : Int) := by omega
  have hk0 : (0 : Int) ≤ (k : Int) := by omega
  have hcap := hs.1
  have hkc : (k : Int) ≤ (l.length : Int) := by omega
  have hcI : (l.length : Int) ≤ (l.length : Int) := by omega
  obtain ⟨L1, hL1⟩ : ∃ L1, L1 = l.take k ++ [ofF 19 [m]] := ⟨_, rfl⟩
  obtain ⟨L, hL⟩ : ∃ L, L = L1 ++ l.drop k := ⟨_, rfl⟩
  have htk : (l.take k).length = k := by rw [List.length_take]; omega
  have hz1 : L1.length = k + 1 := by rw [hL1, List.length_append, htk]; rfl
  have hz : L.length = l.length + 1 := by rw [hL, List.length_append, hz1, List.length_drop]; omega
  have hLl1 : L1.length * 48 ≤ 140737488355328 := by omega
  have hLl : L.length * 48 ≤ 140737488355328 := by omega
  have hll : ((l.take k).length + [ofF 19 [m]].length) * 48 ≤ 140737488355328 := by rw [htk, List.length_singleton]; omega
  have law : jumpsJ L = jumpsJ l := by
    rw [hL, hL1, List.append_assoc, List.singleton_append, law_lit, List.take_append_drop]
  have cv := valid_any _ _ _ _ w hs (Nat.le_refl _)
  rw [hvl] at cv
  have HS := Lib.hid hs
  have HS2 := Lib.hid hs2
  have HT := Lib.hid ht
  have CV := Lib.hid cv
  have HVM := Lib.hid hvm
  have HVL := Lib.hid hvl
  have HL := Lib.hid hL
  have HL1 := Lib.hid hL1
  have LAW := Lib.hid law
  have HLL := Lib.hid hLl
  have HLL1 := Lib.hid hLl1
  have HLW := Lib.hid hll
  have HTK := Lib.hid htk
  clear hs hs2 ht cv hvm hvl hL hL1 law hLl hLl1 hll htk hz hz1
  go_enter Tryz.func15, Tryz.ntmps15
  go_wp2_with fail
  refine (CV.out).mono ?_
  rintro e w1 ⟨rfl, hb1⟩
  have cm := valid_any _ _ _ _ w1 (HS2.out.up hb1) (Nat.le_refl _)
  rw [HVM.out] at cm
  have HB1 := Lib.hid hb1
  have CM := Lib.hid cm
  clear cm hb1
  go_wp2_with fail
  refine (CM.out).mono ?_
  rintro e w2 ⟨rfl, hb2⟩
  obtain ⟨W, hW⟩ : ∃ W, W = ((w2.alloc (.cells #[.slice a2 m.length cap2] 22)).alloc (.cells #[.int .i64 19, .int .i64 0, .int .i64 0, .slice (some ⟨w2.heap.size, 0, none⟩) 1 1] 27)).alloc (.cells #[.int .i64 19, .int .i64 0, .int .i64 0, .slice (some ⟨w2.heap.size, 0, none⟩) 1 1] 27) := ⟨_, rfl⟩
  have hb02 := bseq HB1.out hb2
  obtain ⟨hb3, hz3, hs3⟩ := one_list (HS2.out.up hb02) hW
  obtain ⟨V, hV⟩ : ∃ V, V = W.drew := ⟨_, rfl⟩
  have hbv : Below W.heap.size W V := by rw [hV]; exact (Below.refl _ _).drew
  have hb0v := bseq (bseq hb02 hb3) hbv
  have c4 := with_any (l.take k) [ofF 19 [m]] _ _ _ 1 V ((HS.out.up hb0v).take k) (hs3.up hbv) (by simp) HLW.out
  rw [← HL1.out, HTK.out] at c4
  have HBV := Lib.hid hb0v
  have C4 := Lib.hid c4
  have HV := Lib.hid (hV.trans (by rw [hW]))
  clear hb2 hb02 hb3 hz3 hs3 hbv hb0v c4 hV hW
  go_upto_region 5 with fail
  have hdk : l.drop k = [] := List.drop_eq_nil_of_le (by omega)
  obtain rfl : L = L1 := by rw [HL.out, hdk, List.append_nil]
  rw [hk] at C4
  clear hdk
  go_region_law (first
    | (go_simp; go_at_call 25; refine (of_any 19 _ 1 1 _).mono ?_; rintro e _ ⟨rfl, rfl⟩)
    | (go_simp; go_at_call 24; rw [← HV.out]; refine (C4.out).mono ?_; rintro e w7 ⟨g7, cap7, rfl, hrw6, hb6⟩; have hs7 := hrw6.sl HLL.out hb6.size; have hcap7 := hs7.1))
  have HS7 := Lib.hid hs7
  have HB7 := Lib.hid (bseq HBV.out hb6)
  clear hrw6 hb6 hs7
  have cvv := valid_any _ _ _ _ w7 HS7.out (Nat.le_refl _)
  have CVV := Lib.hid cvv
  clear cvv
  go_wp2_with fail
  refine (CVV.out).mono ?_
  rintro e w8 ⟨rfl, hb8⟩
  have HB8 := Lib.hid (bseq HB7.out hb8)
  have HS8 := Lib.hid (HS7.out.up hb8)
  clear hb8
  cases hv : validL L with
  | false =>
    clear hv
    go_wp2_with fail
    go_ret
    exact ⟨rfl, HB8.out⟩
  | true =>
    have cj := jumps_any _ _ _ w8 HS8.out (HT.out.on HB8.out) hv
    rw [LAW.out] at cj
    have CJ := Lib.hid cj
    clear cj hv
    go_wp2_with fail
    refine (CJ.out).mono ?_
    rintro e w9 ⟨rfl, hb9⟩
    have HB9 := Lib.hid (bseq HB8.out hb9)
    clear hb9
    have cjl := jumps_any _ _ _ w9 (HS.out.up HB9.out) (HT.out.on HB9.out) HVL.out
    have CJL := Lib.hid cjl
    clear cjl
    go_wp2_with fail
    refine (CJL.out).mono ?_
    rintro e w10 ⟨rfl, hb10⟩
    have HB10 := Lib.hid (bseq HB9.out hb10)
    have heq : (jumpsJ l == jumpsJ l) = true := by simp
    clear hb10
    go_wp2_with fail
    refine (works_any w10 (HT.out.on HB10.out)).mono ?_
    rintro e w11 ⟨rfl, hb11⟩
    go_wp2_with fail
    go_ret
    exact ⟨rfl, bseq HB10.out hb11⟩
set_option maxRecDepth 100000 in
set_option maxHeartbeats 8000000 in
theorem fnLiteral_main3 (l m : List Fl) (k : Nat) (hk : k = l.length) (hlen : ¬ (l.length : Int) > 2147483647) (hlenm : ¬ (m.length : Int) > 2147483647) (hvl : validL l = true) (hvm : validL m = true)  (cap : Nat) (a2 : Option Addr) (cap2 : Nat) (w : World) (hs : SL w w.heap.size none cap l) (hs2 : SL w w.heap.size a2 cap2 m) (ht : Tab w) : Calls Tryz.prog 15 #[.slice none l.length cap, .slice a2 m.length cap2, .int .i64 k] w (RetB w true) := by
  have hkI2 : (k : Int) ≤ (l.length : Int) := by omega
  have hk0 : (0 : Int) ≤ (k : Int) := by omega
  have hcap := hs.1
  have hkc : (k : Int) ≤ (cap : Int) := by omega
  have hcI : (l.length : Int) ≤ (cap : Int) := by omega
  obtain ⟨L1, hL1⟩ : ∃ L1, L1 = l.take k ++ [ofF 19 [m]] := ⟨_, rfl⟩
  obtain ⟨L, hL⟩ : ∃ L, L = L1 ++ l.drop k := ⟨_, rfl⟩
  have htk : (l.take k).length = k := by rw [List.length_take]; omega
  have hz1 : L1.length = k + 1 := by rw [hL1, List.length_append, htk]; rfl
  have hz : L.length = l.length + 1 := by rw [hL, List.length_append, hz1, List.length_drop]; omega
  have hLl1 : L1.length * 48 ≤ 140737488355328 := by omega
  have hLl : L.length * 48 ≤ 140737488355328 := by omega
  have hll : ((l.take k).length + [ofF 19 [m]].length) * 48 ≤ 140737488355328 := by rw [htk, List.length_singleton]; omega
  have law : jumpsJ L = jumpsJ l := by
    rw [hL, hL1, List.append_assoc, List.singleton_append, law_lit, List.take_append_drop]
  have cv := valid_any _ _ _ _ w hs (Nat.le_refl _)
  rw [hvl] at cv
  have HS := Lib.hid hs
  have HS2 := Lib.hid hs2
  have HT := Lib.hid ht
  have CV := Lib.hid cv
  have HVM := Lib.hid hvm
  have HVL := Lib.hid hvl
  have HL := Lib.hid hL
  have HL1 := Lib.hid hL1
  have LAW := Lib.hid law
  have HLL := Lib.hid hLl
  have HLL1 := Lib.hid hLl1
  have HLW := Lib.hid hll
  have HTK := Lib.hid htk
  clear hs hs2 ht cv hvm hvl hL hL1 law hLl hLl1 hll htk hz hz1
  go_enter Tryz.func15, Tryz.ntmps15
  go_wp2_with fail
  refine (CV.out).mono ?_
  rintro e w1 ⟨rfl, hb1⟩
  have cm := valid_any _ _ _ _ w1 (HS2.out.up hb1) (Nat.le_refl _)
  rw [HVM.out] at cm
  have HB1 := Lib.hid hb1
  have CM := Lib.hid cm
  clear cm hb1
  go_wp2_with fail
  refine (CM.out).mono ?_
  rintro e w2 ⟨rfl, hb2⟩
  obtain ⟨W, hW⟩ : ∃ W, W = ((w2.alloc (.cells #[.slice a2 m.length cap2] 22)).alloc (.cells #[.int .i64 19, .int .i64 0, .int .i64 0, .slice (some ⟨w2.heap.size, 0, none⟩) 1 1] 27)).alloc (.cells #[.int .i64 19, .int .i64 0, .int .i64 0, .slice (some ⟨w2.heap.size, 0, none⟩) 1 1] 27) := ⟨_, rfl⟩
  have hb02 := bseq HB1.out hb2
  obtain ⟨hb3, hz3, hs3⟩ := one_list (HS2.out.up hb02) hW
  obtain ⟨V, hV⟩ : ∃ V, V = W.drew := ⟨_, rfl⟩
  have hbv : Below W.heap.size W V := by rw [hV]; exact (Below.refl _ _).drew
  have hb0v := bseq (bseq hb02 hb3) hbv
  have c4 := with_any (l.take k) [ofF 19 [m]] _ _ _ 1 V ((HS.out.up hb0v).take k) (hs3.up hbv) (by simp) HLW.out
  rw [← HL1.out, HTK.out] at c4
  have HBV := Lib.hid hb0v
  have C4 := Lib.hid c4
  have HV := Lib.hid (hV.trans (by rw [hW]))
  clear hb2 hb02 hb3 hz3 hs3 hbv hb0v c4 hV hW
  go_upto_region 5 with fail
  have hdk : l.drop k = [] := List.drop_eq_nil_of_le (by omega)
  obtain rfl : L = L1 := by rw [HL.out, hdk, List.append_nil]
  rw [hk] at C4
  clear hdk
  go_region_law (first
    | (go_simp; go_at_call 25; refine (of_any 19 _ 1 1 _).mono ?_; rintro e _ ⟨rfl, rfl⟩)
    | (go_simp; go_at_call 24; rw [← HV.out]; refine (C4.out).mono ?_; rintro e w7 ⟨g7, cap7, rfl, hrw6, hb6⟩; have hs7 := hrw6.sl HLL.out hb6.size; have hcap7 := hs7.1))
  have HS7 := Lib.hid hs7
  have HB7 := Lib.hid (bseq HBV.out hb6)
  clear hrw6 hb6 hs7
  have cvv := valid_any _ _ _ _ w7 HS7.out (Nat.le_refl _)
  have CVV := Lib.hid cvv
  clear cvv
  go_wp2_with fail
  refine (CVV.out).mono ?_
  rintro e w8 ⟨rfl, hb8⟩
  have HB8 := Lib.hid (bseq HB7.out hb8)
  have HS8 := Lib.hid (HS7.out.up hb8)
  clear hb8
  cases hv : validL L with
  | false =>
    clear hv
    go_wp2_with fail
    go_ret
    exact ⟨rfl, HB8.out⟩
  | true =>
    have cj := jumps_any _ _ _ w8 HS8.out (HT.out.on HB8.out) hv
    rw [LAW.out] at cj
    have CJ := Lib.hid cj
    clear cj hv
    go_wp2_with fail
    refine (CJ.out).mono ?_
    rintro e w9 ⟨rfl, hb9⟩
    have HB9 := Lib.hid (bseq HB8.out hb9)
    clear hb9
    have cjl := jumps_any _ _ _ w9 (HS.out.up HB9.out) (HT.out.on HB9.out) HVL.out
    have CJL := Lib.hid cjl
    clear cjl
    go_wp2_with fail
    refine (CJL.out).mono ?_
    rintro e w10 ⟨rfl, hb10⟩
    have HB10 := Lib.hid (bseq HB9.out hb10)
    have heq : (jumpsJ l == jumpsJ l) = true := by simp
    clear hb10
    go_wp2_with fail
    refine (works_any w10 (HT.out.on HB10.out)).mono ?_
    rintro e w11 ⟨rfl, hb11⟩
    go_wp2_with fail
    go_ret
    exact ⟨rfl, bseq HB10.out hb11⟩
set_option maxHeartbeats 8000000 in
theorem fnLiteral_any (l m : List Fl) (n : Int) (a : Option Addr) (cap : Nat) (a2 : Option Addr) (cap2 : Nat) (w : World) (hs : SL w w.heap.size a cap l) (hs2 : SL w w.heap.size a2 cap2 m) (ht : Tab w) : Calls Tryz.prog 15 #[.slice a l.length cap, .slice a2 m.length cap2, .int .i64 n] w (RetB w true) := by
  by_cases hlen : (l.length : Int) > 2147483647
  · clear hs hs2 ht
    go_enter Tryz.func15, Tryz.ntmps15
    go_wp2_with fail
    (try simp only [Exit.inBlock, Exit.then])
    refine bodyPost_ret (results_tmp rfl _ _ _) rfl ?_
    exact ⟨rfl, Below.refl _ _⟩
  by_cases hlenm : (m.length : Int) > 2147483647
  · clear hs hs2 ht
    go_enter Tryz.func15, Tryz.ntmps15
    go_wp2_with fail
    (try simp only [Exit.inBlock, Exit.then])
    refine bodyPost_ret (results_tmp rfl _ _ _) rfl ?_
    exact ⟨rfl, Below.refl _ _⟩
  by_cases hn : n < 0
  · clear hs hs2 ht
    go_enter Tryz.func15, Tryz.ntmps15
    go_wp2_with fail
    (try simp only [Exit.inBlock, Exit.then])
    refine bodyPost_ret (results_tmp rfl _ _ _) rfl ?_
    exact ⟨rfl, Below.refl _ _⟩
  by_cases hn2 : (l.length : Int) < n
  · clear hs hs2 ht
    go_enter Tryz.func15, Tryz.ntmps15
    go_wp2_with fail
    (try simp only [Exit.inBlock, Exit.then])
    refine bodyPost_ret (results_tmp rfl _ _ _) rfl ?_
    exact ⟨rfl, Below.refl _ _⟩
  obtain ⟨k, rfl⟩ : ∃ k : Nat, n = (k : Int) := ⟨n.toNat, by omega⟩
  have hkl : k ≤ l.length := by omega
  cases hv : validL l with
  | false =>
    have cv := valid_any _ _ _ _ w hs (Nat.le_refl _)
    rw [hv] at cv
    have CV := Lib.hid cv
    have hk0 : (0 : Int) ≤ (k : Int) := by omega
    clear cv hs hs2 ht hv hn
    go_enter Tryz.func15, Tryz.ntmps15
    go_wp2_with fail
    refine (CV.out).mono ?_
    rintro e w1 ⟨rfl, hb1⟩
    go_wp2_with fail
    (try simp only [Exit.inBlock, Exit.then])
    refine bodyPost_ret (results_tmp rfl _ _ _) rfl ?_
    exact ⟨rfl, hb1⟩
  | true =>
    cases hvm : validL m with
    | false =>
      have cv := valid_any _ _ _ _ w hs (Nat.le_refl _)
      rw [hv] at cv
      have CV := Lib.hid cv
      have HVM := Lib.hid hvm
      have HS2 := Lib.hid hs2
      have hk0 : (0 : Int) ≤ (k : Int) := by omega
      clear cv hs hs2 ht hv hvm hn
      go_enter Tryz.func15, Tryz.ntmps15
      go_wp2_with fail
      refine (CV.out).mono ?_
      rintro e w1 ⟨rfl, hb1⟩
      have cm := valid_any _ _ _ _ w1 (HS2.out.up hb1) (Nat.le_refl _)
      rw [HVM.out] at cm
      have HB1 := Lib.hid hb1
      have CM := Lib.hid cm
      clear cm hb1
      go_wp2_with fail
      refine (CM.out).mono ?_
      rintro e w2 ⟨rfl, hb2⟩
      go_wp2_with fail
      (try simp only [Exit.inBlock, Exit.then])
      refine bodyPost_ret (results_tmp rfl _ _ _) rfl ?_
      exact ⟨rfl, bseq HB1.out hb2⟩
    | true =>
      by_cases hkk : k < l.length
      · obtain ⟨b, o, rfl, _⟩ := hs.en (by rintro rfl; simp at hkk)
        exact fnLiteral_main1 l m k hkk hlen hlenm hv hvm b o cap a2 cap2 w hs hs2 ht
      · cases a with
        | some q =>
          by_cases hcl : cap = l.length
          · exact fnLiteral_main4 l m k (by omega) hlen hlenm hv hvm q cap hcl a2 cap2 w hs hs2 ht
          · exact fnLiteral_main2 l m k (by omega) hlen hlenm hv hvm q cap hcl a2 cap2 w hs hs2 ht
        | none => exact fnLiteral_main3 l m k (by omega) hlen hlenm hv hvm cap a2 cap2 w hs hs2 ht
end Go.Proofs.YtpodifbgfcclbaaGreatDoor
