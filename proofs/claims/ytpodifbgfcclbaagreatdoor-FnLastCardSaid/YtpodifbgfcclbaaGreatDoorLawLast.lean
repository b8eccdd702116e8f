/- FnLast: what the law's function answers. -/
import Derived.Test.YtpodifbgfcclbaaGreatDoorLawApp
import Derived.Test.YtpodifbgfcclbaaGreatDoorOpn1
import Derived.Deep.CutRange
set_option linter.unusedVariables false
set_option linter.unusedSimpArgs false
namespace Go.Proofs.YtpodifbgfcclbaaGreatDoor
open Go.RowKit
attribute [local go_sem] Nat.lt_add_one_of_lt

set_option maxRecDepth 100000 in
/-- A statement among the arguments. -/
theorem open_struct {H : Type} {enc : TypeId × Value → H} {W : World} {base : Nat} {v : Value} {d : DataW H} {p : List MemPlace} (hval : Value.okWide Tryz.prog W .any base 27 v) (h : DataW.Trod enc Tryz.prog W 0 (fun _ => true) true 27 v d p) (hw : ∀ n ∈ d.weights Tryz.prog 27, n ≤ reachBytes) :
    ∃ k l e a cap bd, v = .agg #[.int .i64 k, .int .i64 l, .int .i64 e, .slice a bd.length cap] ∧ SLL W W.heap.size a cap bd := by
  obtain ⟨cs, rfl, hsz⟩ := Go.WideShapes.okWide_struct Tryz.underlying27 hval
  obtain ⟨fuel, h⟩ := h
  obtain ⟨k, l, e, a, cap, bd, he, hs⟩ := (open_all fuel).2.2 _ _ h hw
  have he' : cs.toList = [.int .i64 k, .int .i64 l, .int .i64 e, .slice a bd.length cap] := he
  exact ⟨k, l, e, a, cap, bd, by rw [← Array.toArray_toList (xs := cs), he'], hs⟩
set_option maxHeartbeats 1000000 in
/-- impl.Ends on statements of which each is in order, however many. -/
theorem ends_fi (l : List Fl) (a : Option Addr) (cap : Nat) (w : World) (hs : SL w w.heap.size a cap l) (ht : Tab w) (hfi : fiL l false = true) (hrk : rkL l ≤ 5864062014806100) :
    Calls Tryz.prog 28 #[.slice a l.length cap] w (RetB w (teL l)) := by
  have hms := MS.start w ht
  have hs2 : SL ((w.alloc (.map #[] 0)).alloc (.cells #[.int .i64 0, .map (some w.heap.size)] 47)) w.heap.size a cap l := hs.below (((Below.refl _ _).alloc (Nat.le_refl _) _).alloc (by simp) _) (Nat.le_refl _)
  have hlen : l.length ≤ 8796093022208 := by have := hs.1; have := hs.2.1; omega
  have hmm := @run_makeMap Tryz.prog
  have HMS := Lib.hid hms
  have HS := Lib.hid hs2
  have HF := Lib.hid hfi
  clear hms hs hs2 hfi ht
  go_enter Tryz.func28, Tryz.ntmps28
  go_wp2_with fail
  go_region_held3 (fun w' => w'.cell? ⟨w.heap.size + 1, 1, none⟩ = some (.map (some w.heap.size))) (go_keep)
    (first
      | (go_at_call 39; refine (mkls_all l false w.heap.size (w.heap.size + 2) (w.heap.size + 1) w.heap.size 0 [] _ a cap HF.out (by exact HS.out.below (Below.refl _ _).drew (Nat.le_refl _)) (by exact HMS.out.drew) (by omega)).mono ?_; rintro e w1 ⟨ts, sa, cap2, p2, ps2, rfl, e1, ⟨b, e2, e3⟩, e4, hm, e5⟩; have hc := hm.ms.map1)
      | (go_at_call 38; refine (term_len l ts e1 sa cap2 b 0 _ _ ps2 w.heap.size _ e2 hlen (by exact e3) (Nat.le_refl _) (by exact hm.ms.pan) (by exact hm.ms.szR) (fun q hq => (hm.ms.psn q hq).2)).mono ?_; rintro e w2 ⟨rfl, hb⟩; have hc2 := ((bcell hb).1 (w.heap.size + 1) 1 hm.ms.szM).trans hc))
  all_goals
    go_wp2_with fail
    go_ret
    refine ⟨rfl, ?_⟩
    have hsz : w.heap.size ≤ w1.heap.size := by have := hm.size; simp at this; omega
    have hb2 : Below w.heap.size w1 w2 := Below.mono (by exact hb) hsz
    have hm2 : Below w.heap.size _ w1 := hm.mf.below (by simp; omega) (by omega) (by omega)
    exact (((Below.refl _ _).alloc (Nat.le_refl _) _).alloc (by simp) _).drew.trans (hm2.trans hb2)
theorem fits_any (k l d : Int) (a : Option Addr) (n cap : Nat) (w : World) : Calls Tryz.prog 32 #[.agg #[.int .i64 k, .int .i64 l, .int .i64 d, .slice a n cap]] w (RetB w (decide (¬ 2147483647 < (n : Int)))) := by
  by_cases h : 2147483647 < (n : Int)
  · rw [show decide (¬ 2147483647 < (n : Int)) = false from by simp; omega]
    go_enter Tryz.func32, Tryz.ntmps32
    go_wp2_with fail
    (try simp only [Exit.inBlock, Exit.then])
    refine bodyPost_ret (results_tmp rfl _ _ _) rfl ?_
    exact ⟨rfl, (Below.refl _ _).alloc (Nat.le_refl _) _⟩
  · rw [show decide (¬ 2147483647 < (n : Int)) = true from by simp; omega]
    go_enter Tryz.func32, Tryz.ntmps32
    go_wp2_with fail
    go_ret
    exact ⟨rfl, (Below.refl _ _).alloc (Nat.le_refl _) _⟩
theorem fiL_app (m : List Fl) : ∀ l : List Fl, fiL (l ++ m) false = (fiL l false && fiL m false)
  | [] => by rw [fiL]; rfl
  | x :: l => by
    rw [List.cons_append, fiL_cons, fiL_cons, fiL_app m l]
    simp [Bool.and_assoc]
theorem fiL_rep (n : Nat) : fiL (List.replicate n emptyFl) false = true := by
  induction n with
  | zero => rw [List.replicate_zero, fiL]
  | succ n ih =>
    rw [List.replicate_succ, fiL_cons, ih]
    simp [emptyFl, stF]
theorem rkL_app (m : List Fl) : ∀ l : List Fl, rkL (l ++ m) = rkL l + rkL m
  | [] => by rw [rkL]; simp
  | x :: l => by rw [List.cons_append, rkL, rkL, rkL_app m l]; omega
theorem rkL_rep (n : Nat) : rkL (List.replicate n emptyFl) = n := by
  induction n with
  | zero => rw [List.replicate_zero, rkL]
  | succ n ih => rw [List.replicate_succ, rkL, ih, emptyFl, rk_mk, rkB]; omega
theorem RW.up {B Hn : Nat} {w w' : World} {v : Value} {l : List Fl} (h : RW B Hn w v l) (hB : B ≤ w.heap.size) (hb : Below w.heap.size w w') : RW B Hn w' v l := by
  obtain ⟨hn, ⟨xs, hx⟩, en⟩ := h
  refine ⟨hn, ⟨xs, hx.1, ?_⟩, fun g e => ?_⟩
  · rcases hx.2 with h0 | ⟨g, cap, cur, e, h1, h2, h3⟩
    · exact .inl h0
    · exact .inr ⟨g, cap, cur, e, h1, (hb.block g (Array.getElem?_eq_some_iff.1 h2).1).trans h2, h3⟩
  · rcases hx.2 with ⟨rfl, h0⟩ | ⟨g', cap, cur, rfl, h1, h2, h3⟩
    · cases e
    · have hg : g' = g := by simpa [Value.ownBlock] using e
      subst hg
      refine EN_copy (fun k hk => hb.block k (by omega)) (en g' rfl) fun j hj => ?_
      exact hb.cell (p := ⟨g', 0 + j, none⟩) (Array.getElem?_eq_some_iff.1 h2).1
theorem news_readN {w : World} {H b o : Nat} {l : List Fl} (he : EN w H b o l) : ∀ j u, (newsOf w b o (l.length * 4))[j]? = some u → w.cell? (Addr.add ⟨b, o, none⟩ j) = some u := by
  intro i u hi
  have hlt : i < l.length * 4 := by
    have := (List.getElem?_eq_some_iff.1 hi).1
    rwa [newsOf_len] at this
  obtain ⟨u', hu, _⟩ := EN_cell he i hlt
  rw [newsOf_get hlt, hu] at hi
  have hh : u' = u := by simpa using hi
  subst hh
  rw [add_pl]; exact hu
theorem news_oneN {w : World} {H b o : Nat} {l : List Fl} (he : EN w H b o l) : ∀ u ∈ newsOf w b o (l.length * 4), u.oneCell' = true := by
  intro u hu
  obtain ⟨i, hi⟩ := List.getElem?_of_mem hu
  have hlt : i < l.length * 4 := by
    have := (List.getElem?_eq_some_iff.1 hi).1
    rwa [newsOf_len] at this
  obtain ⟨u', hu', ho⟩ := EN_cell he i hlt
  rw [newsOf_get hlt, hu'] at hi
  have hh : u' = u := by simpa using hi
  subst hh
  exact ho
/-- An append to a row that is owned; what is appended may lie anywhere. -/
theorem wpList_appN {w : World} {ops : Array Oper} {rest : List Oper} {o : Oper} {a : Act} {Q : Exit → Act → World → Prop} (hgd : o.guard = none) (s x : Operand)
    (ho : o.op = .call { callee := .builtin .append, args := #[s, x], argTypes := #[22, 22] }) {l m L : List Fl} (hL : L = l ++ m) {B Hn : Nat} {v : Value} (hrw : RW B Hn w v l) {b2 o2 c2 : Nat} (hs : a.eval s = v) (hx : a.eval x = .slice (some ⟨b2, o2, none⟩) m.length c2)
    (h2 : EN w Hn b2 o2 m) (hm : m ≠ []) (hbd : L.length * 48 ≤ 140737488355328) (hB : B ≤ w.heap.size)
    (h : ∀ g cap w', RW B Hn w' (.slice (some ⟨g, 0, none⟩) L.length cap) L → Below B w w' → wpList Tryz.prog ops Q rest (a.put o.dst (.slice (some ⟨g, 0, none⟩) L.length cap)) w') : wpList Tryz.prog ops Q (o :: rest) a w := by
  obtain ⟨j, z, hj, hz, hzs, hj1, hj2⟩ := info27
  obtain ⟨xs, hown⟩ := hrw.own
  have hlen : L.length = l.length + m.length := by rw [hL, List.length_append]
  have hm1 : 0 < m.length := List.length_pos_iff.2 hm
  refine wpList_append_lies w hgd s x 22 ho B 27 j z 4 48 Tryz.underlying22 hj hz hj1 hj2 hzs (by decide) v l.length xs hs hown ⟨b2, o2, none⟩ m.length c2 (newsOf w b2 o2 (m.length * 4)) hx (newsOf_len _ _ _ _) (news_readN h2) (news_oneN h2) hm1 (by unfold maxLen; omega) (by omega) hB w.heap.size rfl ?_
  intro g cap w' hown' hgr _ _
  obtain ⟨q1, q2⟩ := hrw.step hown h2 hB hown' hgr
  rw [← hL] at q1
  have hh := h g cap w' q1 q2
  rw [hlen] at hh
  exact hh
theorem rep_take (L0 : List Fl) (i : Nat) : L0 ++ List.replicate (i + 1) emptyFl = (L0 ++ List.replicate i emptyFl) ++ [emptyFl] := by
  rw [List.replicate_succ', List.append_assoc]
set_option maxRecDepth 100000 in
set_option maxHeartbeats 8000000 in
theorem fnLast_main (l : List Fl) (k lx dx : Int) (bd : List (List Fl)) (q0 : Nat) (hq : q0 ≤ 9) (hk : ¬ k = 20) (hlen : ¬ (l.length : Int) > 2147483647) (hlenx : ¬ 2147483647 < (bd.length : Int)) (hvl : validL (l ++ [.mk k lx dx bd]) = true) (a : Option Addr) (cap : Nat) (a2 : Option Addr) (cap2 : Nat) (w : World) (hs : SL w w.heap.size a cap l) (hs2 : SLL w w.heap.size a2 cap2 bd) (ht : Tab w) :
    Calls Tryz.prog 13 #[.slice a l.length cap, .agg #[.int .i64 k, .int .i64 lx, .int .i64 dx, .slice a2 bd.length cap2], .int .i64 q0] w (RetB w true) := by
  obtain ⟨L0, hL0⟩ : ∃ L0, L0 = l ++ [.mk k lx dx bd] := ⟨_, rfl⟩
  have hz0 : L0.length = l.length + 1 := by rw [hL0, List.length_append]; rfl
  have hL0l : L0.length * 48 ≤ 140737488355328 := by omega
  have hll : (l.length + [Fl.mk k lx dx bd].length) * 48 ≤ 140737488355328 := by rw [List.length_singleton]; omega
  have hni : ∀ i, i ≤ 9 → (L0 ++ List.replicate i emptyFl).length * 48 ≤ 140737488355328 := by intro i hi; rw [List.length_append, List.length_replicate]; omega
  rw [← hL0] at hvl
  have hfi0 : fiL L0 false = true := valid_fi hvl
  have hfx : fiL [.mk k lx dx bd] false = true := by
    rw [hL0, fiL_app, Bool.and_eq_true] at hfi0
    exact hfi0.2
  have hfa : fiL (L0 ++ List.replicate q0 emptyFl) false = true := by rw [fiL_app, hfi0, fiL_rep]; rfl
  have law : teL (L0 ++ List.replicate q0 emptyFl) = teL [.mk k lx dx bd] := by
    rw [hL0, List.append_assoc, List.singleton_append]
    exact law_last (.mk k lx dx bd) hk q0 l
  obtain ⟨W0, hW0⟩ : ∃ W0, W0 = w.alloc (.cells #[.int .i64 k, .int .i64 lx, .int .i64 dx, .slice a2 bd.length cap2] 27) := ⟨_, rfl⟩
  obtain ⟨hb0, hzW0, hsx0⟩ := one_full hs2 hW0
  have cf := fits_any k lx dx a2 bd.length cap2 W0
  rw [show decide (¬ 2147483647 < (bd.length : Int)) = true from by simp; omega] at cf
  obtain ⟨z0, z1, z2, z3, zlt⟩ := one_cells hW0 W0 (Below.refl _ _)
  have HW0 := Lib.hid hW0
  have HB0 := Lib.hid hb0
  have HSX := Lib.hid (hs2.up hb0)
  have CF := Lib.hid cf
  have HS := Lib.hid hs
  have HT := Lib.hid ht
  have HVL := Lib.hid hvl
  have HL0 := Lib.hid hL0
  have HZ0 := Lib.hid hz0
  have HL0L := Lib.hid hL0l
  have HLL := Lib.hid hll
  have HNI := Lib.hid hni
  have HFX := Lib.hid hfx
  have HFA := Lib.hid hfa
  have LAW := Lib.hid law
  have hkq : (k == 20) = false := by simpa using hk
  have hq0 : ¬ (q0 : Int) < 0 := by omega
  have hq1 : ¬ 9 < (q0 : Int) := by omega
  have HK := Lib.hid hk
  clear hW0 hb0 hs2 cf hs ht hvl hL0 hz0 hL0l hll hni hfx hfa law hfi0 hsx0 hzW0 hk
  go_enter Tryz.func13, Tryz.ntmps13
  go_wp2_with fail
  rw [← HW0.out]
  refine (CF.out).mono ?_
  rintro e w1 ⟨rfl, hb1⟩
  have y0 := (hb1.cell (p := ⟨w.heap.size, 0, none⟩) zlt).trans z0
  have y1 := (hb1.cell (p := ⟨w.heap.size, 1, none⟩) zlt).trans z1
  have y2 := (hb1.cell (p := ⟨w.heap.size, 2, none⟩) zlt).trans z2
  have y3 := (hb1.cell (p := ⟨w.heap.size, 3, none⟩) zlt).trans z3
  have ylt : w.heap.size < w1.heap.size := by have := hb1.size; omega
  obtain ⟨W2, hW2⟩ : ∃ W2, W2 = w1.alloc (.cells #[.int .i64 k, .int .i64 lx, .int .i64 dx, .slice a2 bd.length cap2] 27) := ⟨_, rfl⟩
  obtain ⟨hb2, hzW2, hsx2⟩ := one_full (HSX.out.up hb1) hW2
  have hb01 := bseq HB0.out hb1
  have hb02 := bseq hb01 hb2
  have c3 := with_any l [.mk k lx dx bd] a cap _ 1 W2 (HS.out.up hb02) hsx2 (by simp) HLL.out
  rw [← HL0.out] at c3
  have C3 := Lib.hid c3
  have HW2 := Lib.hid hW2
  have HB12 := Lib.hid (bseq hb1 hb2)
  have HBW2 := Lib.hid hb02
  clear hb1 hW2 hb2 hzW2 hsx2 hb01 hb02 c3
  go_wp2_with fail
  rw [← HW2.out]
  refine (C3.out).mono ?_
  rintro e w3 ⟨g3, cap3, rfl, hrw3, hb3⟩
  have hs3 := hrw3.sl HL0L.out hb3.size
  have cv := valid_any _ _ _ _ w3 hs3 (Nat.le_refl _)
  rw [HVL.out] at cv
  have CV := Lib.hid cv
  have HB13 := Lib.hid (bseq HB12.out hb3)
  have HB3 := Lib.hid (bseq HBW2.out hb3)
  clear hrw3 hs3 hb3 cv
  go_wp2_with fail
  refine (CV.out).mono ?_
  rintro e w4 ⟨rfl, hb4⟩
  have hb14 := bseq HB13.out hb4
  have hb04 := bseq HB3.out hb4
  have x0 := (hb14.cell (p := ⟨w.heap.size, 0, none⟩) zlt).trans z0
  have x1 := (hb14.cell (p := ⟨w.heap.size, 1, none⟩) zlt).trans z1
  have x2 := (hb14.cell (p := ⟨w.heap.size, 2, none⟩) zlt).trans z2
  have x3 := (hb14.cell (p := ⟨w.heap.size, 3, none⟩) zlt).trans z3
  have xlt : w.heap.size < w4.heap.size := by have := hb14.size; omega
  obtain ⟨W5, hW5⟩ : ∃ W5, W5 = w4.alloc (.cells #[.int .i64 k, .int .i64 lx, .int .i64 dx, .slice a2 bd.length cap2] 27) := ⟨_, rfl⟩
  obtain ⟨hb5, hzW5, hsx5⟩ := one_full (HSX.out.up hb14) hW5
  have hb05 := bseq hb04 hb5
  have c6 := with_any l [.mk k lx dx bd] a cap _ 1 W5 (HS.out.up hb05) hsx5 (by simp) HLL.out
  rw [← HL0.out] at c6
  have C6 := Lib.hid c6
  have HW5 := Lib.hid hW5
  have HB15 := Lib.hid (bseq hb14 hb5)
  have HBW5 := Lib.hid hb05
  clear y0 y1 y2 y3 ylt hb4 hb14 hb04 hW5 hb5 hzW5 hsx5 hb05 c6
  go_wp2_with fail
  rw [← HW5.out]
  refine (C6.out).mono ?_
  rintro e w6 ⟨g6, cap6, rfl, hrw6, hb6⟩
  have HRW6 := Lib.hid hrw6
  have HB56 := Lib.hid hb6
  clear hrw6 hb6 x0 x1 x2 x3 xlt
  go_wp2_with fail
  go_loopg [7, 40] q0 (fun g v vi wr => ∃ i : Nat, i + g = q0 ∧ vi = .int .i64 i ∧ (∃ gg cc, v = .slice (some ⟨gg, 0, none⟩) (L0 ++ List.replicate i emptyFl).length cc ∧ RW W5.heap.size W5.heap.size wr (.slice (some ⟨gg, 0, none⟩) (L0 ++ List.replicate i emptyFl).length cc) (L0 ++ List.replicate i emptyFl)) ∧ Below W5.heap.size W5 wr)
  case atStart => exact ⟨0, by omega, rfl, ⟨g6, cap6, by rw [List.replicate_zero, List.append_nil], by rw [List.replicate_zero, List.append_nil]; exact HRW6.out⟩, HB56.out⟩
  case round =>
    obtain ⟨i, hi, rfl, ⟨gg, cc, rfl, hrw⟩, hbr⟩ := hrel
    by_cases hlt : i < q0
    · have hiI : (i : Int) < (q0 : Int) := by omega
      obtain ⟨Li, hLi⟩ : ∃ Li, Li = L0 ++ List.replicate i emptyFl := ⟨_, rfl⟩
      obtain ⟨Lj, hLj⟩ : ∃ Lj, Lj = Li ++ [emptyFl] := ⟨_, rfl⟩
      rw [← hLi] at hrw ⊢
      have hj2 : Lj = L0 ++ List.replicate (i + 1) emptyFl := by rw [hLj, hLi, rep_take]
      have hlj := HNI.out (i + 1) (by omega)
      rw [← hj2] at hlj
      obtain ⟨W7, hW7⟩ : ∃ W7, W7 = wr.alloc (.cells #[.int .i64 20, .int .i64 0, .int .i64 0, .slice none 0 0] 27) := ⟨_, rfl⟩
      have hb7 : Below wr.heap.size wr W7 := by rw [hW7]; exact bal _ _
      obtain ⟨e0, e1, e2, e3, elt⟩ := one_cells (n := 0) hW7 W7 (Below.refl _ _)
      have hen : EN W7 W5.heap.size wr.heap.size 0 [emptyFl] := ⟨e0, e1, e2, ⟨none, 0, e3, SLL.nil⟩, trivial⟩
      have HEN := Lib.hid hen
      have HRW := Lib.hid (hrw.up hbr.size hb7)
      have HBR7 := Lib.hid (hbr.trans (Below.mono hb7 hbr.size))
      have HW7 := Lib.hid hW7
      have HLJ := Lib.hid hLj
      have HJ2 := Lib.hid hj2
      have HLLJ := Lib.hid hlj
      have HI := Lib.hid hi
      clear hLi hLj hj2 hlj hW7 hb7 e0 e1 e2 e3 elt hen hrw hbr
      go_wp2_with (at_builtin; rw [← HW7.out]; refine wpList_appN rfl _ _ rfl HLJ.out HRW.out (by rfl) (by rfl) HEN.out (by simp) HLLJ.out HBR7.out.size ?_)
      intro g8 cap8 w8 hrw8 hb8
      have HRW8 := Lib.hid hrw8
      have HB8 := Lib.hid (HBR7.out.trans hb8)
      clear hrw8 hb8
      go_wp2_with fail
      go_roundg (gk - 1)
      case measure => have := HI.out; omega
      have hi2 := HI.out
      exact ⟨i + 1, by omega, by simp, ⟨g8, cap8, by rw [← HJ2.out], by rw [← HJ2.out]; exact HRW8.out⟩, HB8.out⟩
    · have hiI : ¬ (i : Int) < (q0 : Int) := by omega
      obtain rfl : i = q0 := by omega
      obtain ⟨LA, hLA⟩ : ∃ LA, LA = L0 ++ List.replicate i emptyFl := ⟨_, rfl⟩
      have law := LAW.out
      have hfa := HFA.out
      have hla := HNI.out i hq
      have hrkA : rkL (L0 ++ List.replicate i emptyFl) ≤ 5864062014806100 := by
        rw [rkL_app, rkL_rep]
        have h2 : rkL L0 ≤ 5864062014806000 := valid_rk (w := w6) (H := w6.heap.size) (HRW6.out.sl HL0L.out HB56.out.size) HVL.out
        omega
      have hrkX : rkL [Fl.mk k lx dx bd] ≤ 5864062014806100 := by
        have h2 : rkL L0 ≤ 5864062014806000 := valid_rk (w := w6) (H := w6.heap.size) (HRW6.out.sl HL0L.out HB56.out.size) HVL.out
        rw [HL0.out, rkL_app] at h2
        omega
      rw [← hLA] at hrw law hfa hla hrkA ⊢
      have hsA := hrw.sl hla hbr.size
      have hb0r : Below W0.heap.size W0 wr := bseq HB15.out hbr
      have hbwr : Below w.heap.size w wr := bseq HBW5.out hbr
      have v0 := (hb0r.cell (p := ⟨w.heap.size, 0, none⟩) zlt).trans z0
      have v1 := (hb0r.cell (p := ⟨w.heap.size, 1, none⟩) zlt).trans z1
      have v2 := (hb0r.cell (p := ⟨w.heap.size, 2, none⟩) zlt).trans z2
      have v3 := (hb0r.cell (p := ⟨w.heap.size, 3, none⟩) zlt).trans z3
      have vlt : w.heap.size < wr.heap.size := by have := hb0r.size; omega
      obtain ⟨U1, hU1⟩ : ∃ U1, U1 = wr.drew := ⟨_, rfl⟩
      have hbU1 : Below wr.heap.size wr U1 := by rw [hU1]; exact (Below.refl _ _).drew
      have cU1 := ends_fi LA _ _ U1 (hsA.up hbU1) (HT.out.on (bseq hbwr hbU1)) hfa hrkA
      obtain ⟨X2, hX2⟩ : ∃ X2, X2 = wr.alloc (.cells #[.int .i64 k, .int .i64 lx, .int .i64 dx, .slice a2 bd.length cap2] 27) := ⟨_, rfl⟩
      obtain ⟨hbX2, _, hsX2⟩ := one_full (HSX.out.up hb0r) hX2
      obtain ⟨U2, hU2⟩ : ∃ U2, U2 = X2.drew := ⟨_, rfl⟩
      have hbU2' : Below X2.heap.size X2 U2 := by rw [hU2]; exact (Below.refl _ _).drew
      have hbU2 := bseq hbX2 hbU2'
      have cU2 := ends_fi LA _ _ U2 (hsA.up hbU2) (HT.out.on (bseq hbwr hbU2)) hfa hrkA
      rw [law] at cU1 cU2
      have HX2 := Lib.hid (hsX2.up hbU2')
      have CU1 := Lib.hid cU1
      have CU2 := Lib.hid cU2
      have HU1 := Lib.hid hU1
      have HU2 := Lib.hid (hU2.trans (by rw [hX2]))
      have HBU1 := Lib.hid hbU1
      have HBU2 := Lib.hid hbU2
      have HBWR := Lib.hid hbwr
      have HB0R := Lib.hid hb0r
      have HRKX := Lib.hid hrkX
      have heq : (teL [.mk k lx dx bd] == teL [.mk k lx dx bd]) = true := by simp
      clear hLA law hfa hla hrkA hrkX hrw hsA hb0r hbwr hU1 hbU1 cU1 hX2 hbX2 hsX2 hU2 hbU2' hbU2 cU2 hbr z0 z1 z2 z3 zlt hi
      go_upto_region 10 with fail
      go_region_law (first
        | (go_simp; go_at_call 28; rw [← HU1.out]; refine (CU1.out).mono ?_; rintro e w8 ⟨rfl, hb8⟩; have hbw8 := bseq HBWR.out (bseq HBU1.out hb8); have hb08 := bseq HB0R.out (bseq HBU1.out hb8); have hbr8 := bseq HBU1.out hb8; have u0 := (hbr8.cell (p := ⟨w.heap.size, 0, none⟩) vlt).trans v0; have u1 := (hbr8.cell (p := ⟨w.heap.size, 1, none⟩) vlt).trans v1; have u2 := (hbr8.cell (p := ⟨w.heap.size, 2, none⟩) vlt).trans v2; have u3 := (hbr8.cell (p := ⟨w.heap.size, 3, none⟩) vlt).trans v3; have ult : w.heap.size < w8.heap.size := (by have := hbr8.size; omega); obtain ⟨X3, hX3⟩ : ∃ X3, X3 = w8.alloc (.cells #[.int .i64 k, .int .i64 lx, .int .i64 dx, .slice a2 bd.length cap2] 27) := ⟨_, rfl⟩; obtain ⟨hbX3, _, hsX3⟩ := one_full (HSX.out.up hb08) hX3; have HX3 := Lib.hid hX3; clear hX3)
        | (go_simp; go_at_call 28; rw [← HU2.out]; refine (CU2.out).mono ?_; rintro e w8 ⟨rfl, hb8⟩; have hbw8 := bseq HBWR.out (bseq HBU2.out hb8); have hsX8 := HX2.out.up hb8)
        | (go_simp; go_at_call 28; rw [← HX3.out]; refine (ends_fi _ _ _ X3 hsX3 (HT.out.on (bseq hbw8 hbX3)) HFX.out HRKX.out).mono ?_; rintro e w9 ⟨rfl, hb9⟩; have hbw9 := bseq (bseq hbw8 hbX3) hb9)
        | (go_simp; go_at_call 28; refine (ends_fi _ _ _ w8 hsX8 (HT.out.on hbw8) HFX.out HRKX.out).mono ?_; rintro e w9 ⟨rfl, hb9⟩; have hbw9 := bseq hbw8 hb9)
        | (go_simp; go_at_call 27; refine (works_any w9 (HT.out.on hbw9)).mono ?_; rintro e w10 ⟨rfl, hb10⟩; have hbw10 := bseq hbw9 hb10))
      all_goals
        go_wp2_with fail
        go_ret
        exact ⟨rfl, hbw10⟩
set_option maxHeartbeats 8000000 in
theorem fnLast_any (l : List Fl) (k lx dx : Int) (bd : List (List Fl)) (n : Int) (a : Option Addr) (cap : Nat) (a2 : Option Addr) (cap2 : Nat) (w : World) (hs : SL w w.heap.size a cap l) (hs2 : SLL w w.heap.size a2 cap2 bd) (ht : Tab w) :
    Calls Tryz.prog 13 #[.slice a l.length cap, .agg #[.int .i64 k, .int .i64 lx, .int .i64 dx, .slice a2 bd.length cap2], .int .i64 n] w (RetB w true) := by
  by_cases hlen : (l.length : Int) > 2147483647
  · clear hs hs2 ht
    go_enter Tryz.func13, Tryz.ntmps13
    go_wp2_with fail
    (try simp only [Exit.inBlock, Exit.then])
    refine bodyPost_ret (results_tmp rfl _ _ _) rfl ?_
    exact ⟨rfl, (Below.refl _ _).alloc (Nat.le_refl _) _⟩
  by_cases hlenx : 2147483647 < (bd.length : Int)
  · have cf := fits_any k lx dx a2 bd.length cap2 (w.alloc (.cells #[.int .i64 k, .int .i64 lx, .int .i64 dx, .slice a2 bd.length cap2] 27))
    rw [show decide (¬ 2147483647 < (bd.length : Int)) = false from by simp; omega] at cf
    have CF := Lib.hid cf
    clear cf hs hs2 ht
    go_enter Tryz.func13, Tryz.ntmps13
    go_wp2_with fail
    refine (CF.out).mono ?_
    rintro e w1 ⟨rfl, hb1⟩
    go_wp2_with fail
    (try simp only [Exit.inBlock, Exit.then])
    refine bodyPost_ret (results_tmp rfl _ _ _) rfl ?_
    exact ⟨rfl, bseq (bal _ _) hb1⟩
  by_cases hn : n < 0
  · have cf := fits_any k lx dx a2 bd.length cap2 (w.alloc (.cells #[.int .i64 k, .int .i64 lx, .int .i64 dx, .slice a2 bd.length cap2] 27))
    rw [show decide (¬ 2147483647 < (bd.length : Int)) = true from by simp; omega] at cf
    have CF := Lib.hid cf
    obtain ⟨z0, z1, z2, z3, zlt⟩ := one_cells (rfl : w.alloc (.cells #[.int .i64 k, .int .i64 lx, .int .i64 dx, .slice a2 bd.length cap2] 27) = _) _ (Below.refl _ _)
    obtain ⟨W0, hW0⟩ : ∃ W0, W0 = w.alloc (.cells #[.int .i64 k, .int .i64 lx, .int .i64 dx, .slice a2 bd.length cap2] 27) := ⟨_, rfl⟩
    rw [← hW0] at z0 z1 z2 z3 zlt CF
    have hb0 : Below w.heap.size w W0 := by rw [hW0]; exact bal _ _
    have HB0 := Lib.hid hb0
    have HW0 := Lib.hid hW0
    clear cf hs hs2 ht hW0 hb0 
    go_enter Tryz.func13, Tryz.ntmps13
    go_wp2_with fail
    rw [← HW0.out]
    refine (CF.out).mono ?_
    rintro e w1 ⟨rfl, hb1⟩
    have y0 := (hb1.cell (p := ⟨w.heap.size, 0, none⟩) zlt).trans z0
    have ylt : w.heap.size < w1.heap.size := by have := hb1.size; omega
    go_wp2_with fail
    (try simp only [Exit.inBlock, Exit.then])
    refine bodyPost_ret (results_tmp rfl _ _ _) rfl ?_
    exact ⟨rfl, bseq HB0.out hb1⟩
  by_cases hn9 : 9 < n
  · have cf := fits_any k lx dx a2 bd.length cap2 (w.alloc (.cells #[.int .i64 k, .int .i64 lx, .int .i64 dx, .slice a2 bd.length cap2] 27))
    rw [show decide (¬ 2147483647 < (bd.length : Int)) = true from by simp; omega] at cf
    have CF := Lib.hid cf
    obtain ⟨z0, z1, z2, z3, zlt⟩ := one_cells (rfl : w.alloc (.cells #[.int .i64 k, .int .i64 lx, .int .i64 dx, .slice a2 bd.length cap2] 27) = _) _ (Below.refl _ _)
    obtain ⟨W0, hW0⟩ : ∃ W0, W0 = w.alloc (.cells #[.int .i64 k, .int .i64 lx, .int .i64 dx, .slice a2 bd.length cap2] 27) := ⟨_, rfl⟩
    rw [← hW0] at z0 z1 z2 z3 zlt CF
    have hb0 : Below w.heap.size w W0 := by rw [hW0]; exact bal _ _
    have HB0 := Lib.hid hb0
    have HW0 := Lib.hid hW0
    clear cf hs hs2 ht hW0 hb0 
    go_enter Tryz.func13, Tryz.ntmps13
    go_wp2_with fail
    rw [← HW0.out]
    refine (CF.out).mono ?_
    rintro e w1 ⟨rfl, hb1⟩
    have y0 := (hb1.cell (p := ⟨w.heap.size, 0, none⟩) zlt).trans z0
    have ylt : w.heap.size < w1.heap.size := by have := hb1.size; omega
    go_wp2_with fail
    (try simp only [Exit.inBlock, Exit.then])
    refine bodyPost_ret (results_tmp rfl _ _ _) rfl ?_
    exact ⟨rfl, bseq HB0.out hb1⟩
  by_cases hk : k = 20
  · subst hk
    have cf := fits_any 20 lx dx a2 bd.length cap2 (w.alloc (.cells #[.int .i64 20, .int .i64 lx, .int .i64 dx, .slice a2 bd.length cap2] 27))
    rw [show decide (¬ 2147483647 < (bd.length : Int)) = true from by simp; omega] at cf
    have CF := Lib.hid cf
    obtain ⟨z0, z1, z2, z3, zlt⟩ := one_cells (rfl : w.alloc (.cells #[.int .i64 20, .int .i64 lx, .int .i64 dx, .slice a2 bd.length cap2] 27) = _) _ (Below.refl _ _)
    obtain ⟨W0, hW0⟩ : ∃ W0, W0 = w.alloc (.cells #[.int .i64 20, .int .i64 lx, .int .i64 dx, .slice a2 bd.length cap2] 27) := ⟨_, rfl⟩
    rw [← hW0] at z0 z1 z2 z3 zlt CF
    have hb0 : Below w.heap.size w W0 := by rw [hW0]; exact bal _ _
    have HB0 := Lib.hid hb0
    have HW0 := Lib.hid hW0
    clear cf hs hs2 ht hW0 hb0 
    go_enter Tryz.func13, Tryz.ntmps13
    go_wp2_with fail
    rw [← HW0.out]
    refine (CF.out).mono ?_
    rintro e w1 ⟨rfl, hb1⟩
    have y0 := (hb1.cell (p := ⟨w.heap.size, 0, none⟩) zlt).trans z0
    have ylt : w.heap.size < w1.heap.size := by have := hb1.size; omega
    go_wp2_with fail
    (try simp only [Exit.inBlock, Exit.then])
    refine bodyPost_ret (results_tmp rfl _ _ _) rfl ?_
    exact ⟨rfl, bseq HB0.out hb1⟩
  obtain ⟨q0, rfl⟩ : ∃ q0 : Nat, n = (q0 : Int) := ⟨n.toNat, by omega⟩
  cases hv : validL (l ++ [.mk k lx dx bd]) with
  | true => exact fnLast_main l k lx dx bd q0 (by omega) hk hlen hlenx hv a cap a2 cap2 w hs hs2 ht
  | false =>
    have hz0 : (l ++ [Fl.mk k lx dx bd]).length = l.length + 1 := by rw [List.length_append]; rfl
    have hL0l : (l ++ [Fl.mk k lx dx bd]).length * 48 ≤ 140737488355328 := by omega
    have hll : (l.length + [Fl.mk k lx dx bd].length) * 48 ≤ 140737488355328 := by rw [List.length_singleton]; omega
    obtain ⟨W0, hW0⟩ : ∃ W0, W0 = w.alloc (.cells #[.int .i64 k, .int .i64 lx, .int .i64 dx, .slice a2 bd.length cap2] 27) := ⟨_, rfl⟩
    obtain ⟨hb0, hzW0, hsx0⟩ := one_full hs2 hW0
    have cf := fits_any k lx dx a2 bd.length cap2 W0
    rw [show decide (¬ 2147483647 < (bd.length : Int)) = true from by simp; omega] at cf
    obtain ⟨z0, z1, z2, z3, zlt⟩ := one_cells hW0 W0 (Below.refl _ _)
    obtain ⟨L0, hL0⟩ : ∃ L0, L0 = l ++ [.mk k lx dx bd] := ⟨_, rfl⟩
    rw [← hL0] at hL0l hv
    have HW0 := Lib.hid hW0
    have HB0 := Lib.hid hb0
    have HSX := Lib.hid (hs2.up hb0)
    have CF := Lib.hid cf
    have HS := Lib.hid hs
    have HV := Lib.hid hv
    have HL0L := Lib.hid hL0l
    have HLL := Lib.hid hll
    have HL0 := Lib.hid hL0
    have hkq : (k == 20) = false := by simpa using hk
    clear hW0 hb0 hs2 cf hs ht hv hL0l hll hsx0 hzW0 hz0 hk hL0
    go_enter Tryz.func13, Tryz.ntmps13
    go_wp2_with fail
    rw [← HW0.out]
    refine (CF.out).mono ?_
    rintro e w1 ⟨rfl, hb1⟩
    have y0 := (hb1.cell (p := ⟨w.heap.size, 0, none⟩) zlt).trans z0
    have y1 := (hb1.cell (p := ⟨w.heap.size, 1, none⟩) zlt).trans z1
    have y2 := (hb1.cell (p := ⟨w.heap.size, 2, none⟩) zlt).trans z2
    have y3 := (hb1.cell (p := ⟨w.heap.size, 3, none⟩) zlt).trans z3
    have ylt : w.heap.size < w1.heap.size := by have := hb1.size; omega
    obtain ⟨W2, hW2⟩ : ∃ W2, W2 = w1.alloc (.cells #[.int .i64 k, .int .i64 lx, .int .i64 dx, .slice a2 bd.length cap2] 27) := ⟨_, rfl⟩
    obtain ⟨hb2, hzW2, hsx2⟩ := one_full (HSX.out.up hb1) hW2
    have hb02 := bseq (bseq HB0.out hb1) hb2
    have c3 := with_any l [.mk k lx dx bd] a cap _ 1 W2 (HS.out.up hb02) hsx2 (by simp) HLL.out
    rw [← HL0.out] at c3
    have C3 := Lib.hid c3
    have HW2 := Lib.hid hW2
    have HBW2 := Lib.hid hb02
    clear hb1 hW2 hb2 hzW2 hsx2 hb02 c3
    go_wp2_with fail
    rw [← HW2.out]
    refine (C3.out).mono ?_
    rintro e w3 ⟨g3, cap3, rfl, hrw3, hb3⟩
    have hs3 := hrw3.sl HL0L.out hb3.size
    have cv := valid_any _ _ _ _ w3 hs3 (Nat.le_refl _)
    rw [HV.out] at cv
    have CV := Lib.hid cv
    have HB3 := Lib.hid (bseq HBW2.out hb3)
    clear hrw3 hs3 hb3 cv
    go_wp2_with fail
    refine (CV.out).mono ?_
    rintro e w4 ⟨rfl, hb4⟩
    go_wp2_with fail
    (try simp only [Exit.inBlock, Exit.then])
    refine bodyPost_ret (results_tmp rfl _ _ _) rfl ?_
    exact ⟨rfl, bseq HB3.out hb4⟩
end Go.Proofs.YtpodifbgfcclbaaGreatDoor
