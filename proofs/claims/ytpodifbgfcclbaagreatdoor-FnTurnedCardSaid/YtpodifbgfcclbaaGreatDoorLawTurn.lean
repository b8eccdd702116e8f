/- FnTurned: what the law's function answers. -/
import Derived.Test.YtpodifbgfcclbaaGreatDoorLawApp
import Derived.Deep.CutRange
import Derived.Deep.RegionHeldLaw
set_option linter.unusedVariables false
set_option linter.unusedSimpArgs false
namespace Go.Proofs.YtpodifbgfcclbaaGreatDoor
open Go.RowKit
attribute [local go_sem] Nat.lt_add_one_of_lt

/-- Lists at block g whose own statements lie below Hn. -/
def EN2 (w : World) (Hn g : Nat) : Nat → List (List Fl) → Prop
  | _, [] => True
  | o, y :: ys => (∃ a cap, w.cell? ⟨g, o, none⟩ = some (.slice a y.length cap) ∧ SL w Hn a cap y) ∧ EN2 w Hn g (o + 1) ys
theorem ELL.en {w : World} {H b : Nat} : ∀ {l : List (List Fl)} {o : Nat}, ELL w H b o l → EN2 w H b o l
  | [], _, _ => trivial
  | y :: ys, o, h => by
    obtain ⟨h1, h2, h3⟩ := ELL_cons.1 h
    exact ⟨h2, ELL.en h3⟩
theorem EN2.ell {w : World} {Hn g H : Nat} (hg : g < H) (hH : Hn ≤ H) : ∀ {l : List (List Fl)} {o : Nat}, EN2 w Hn g o l → ELL w H g o l
  | [], _, _ => ELL_nil
  | y :: ys, o, h => by
    obtain ⟨⟨a, cap, h5, h6⟩, h7⟩ := h
    exact ELL_cons.2 ⟨hg, ⟨a, cap, h5, h6.keep (fun _ _ => rfl) hH⟩, EN2.ell hg hH h7⟩
theorem EN2_cell {w : World} {H b : Nat} : ∀ {l : List (List Fl)} {o : Nat}, EN2 w H b o l → ∀ j, j < l.length → ∃ u, w.cell? ⟨b, o + j, none⟩ = some u ∧ u.oneCell' = true
  | [], o, h, j, hj => by simp at hj
  | y :: ys, o, h, 0, hj => by
    obtain ⟨⟨a, cap, h5, _⟩, _⟩ := h
    exact ⟨_, h5, rfl⟩
  | y :: ys, o, h, j + 1, hj => by
    have := EN2_cell h.2 j (by simp only [List.length_cons] at hj; omega)
    rw [show o + (j + 1) = o + 1 + j by omega]
    exact this
theorem EN2_copy {w w' : World} {Hn b g : Nat} (hk : ∀ k, k < Hn → w'.heap[k]? = w.heap[k]?) : ∀ {l : List (List Fl)} {o o' : Nat}, EN2 w Hn b o l → (∀ j, j < l.length → w'.cell? ⟨g, o' + j, none⟩ = w.cell? ⟨b, o + j, none⟩) → EN2 w' Hn g o' l
  | [], _, _, _, _ => trivial
  | y :: ys, o, o', h, hc => by
    obtain ⟨⟨a, cap, h5, h6⟩, h10⟩ := h
    have c0 := hc 0 (by simp)
    exact ⟨⟨a, cap, c0.trans h5, h6.keep hk (Nat.le_refl _)⟩, EN2_copy hk h10 fun j hj => by
      have := hc (j + 1) (by simp only [List.length_cons]; omega)
      rw [show o' + (j + 1) = o' + 1 + j by omega, show o + (j + 1) = o + 1 + j by omega] at this
      exact this⟩
theorem EN2_append {w : World} {H b : Nat} {m : List (List Fl)} : ∀ {l : List (List Fl)} {o : Nat}, EN2 w H b o l → EN2 w H b (o + l.length) m → EN2 w H b o (l ++ m)
  | [], o, _, h => by simpa using h
  | y :: ys, o, h, hm => by
    obtain ⟨h5, h10⟩ := h
    exact ⟨h5, EN2_append h10 (by
      rw [List.length_cons] at hm
      rw [show o + 1 + ys.length = o + (ys.length + 1) by omega]
      exact hm)⟩
theorem ELL.take {w : World} {H b : Nat} : ∀ {l : List (List Fl)} {o : Nat} (n : Nat), ELL w H b o l → ELL w H b o (l.take n)
  | _, _, 0, _ => by simpa using ELL_nil
  | [], _, n + 1, _ => by simpa using ELL_nil
  | y :: ys, o, n + 1, h => by
    obtain ⟨h1, h5, h10⟩ := ELL_cons.1 h
    rw [List.take_succ_cons]
    exact ELL_cons.2 ⟨h1, h5, ELL.take n h10⟩
theorem ELL.drop {w : World} {H b : Nat} : ∀ {l : List (List Fl)} {o : Nat} (n : Nat), ELL w H b o l → ELL w H b (o + n) (l.drop n)
  | l, o, 0, h => by simpa using h
  | [], _, n + 1, _ => by simpa using ELL_nil
  | y :: ys, o, n + 1, h => by
    obtain ⟨h1, h5, h10⟩ := ELL_cons.1 h
    rw [List.drop_succ_cons, show o + (n + 1) = o + 1 + n by omega]
    exact ELL.drop n h10
theorem row1_cell {w : World} {base n g cap : Nat} {xs : List Value} (h : w.ownsRow base 22 1 (.slice (some ⟨g, 0, none⟩) n cap) n xs) : base ≤ g ∧ g < w.heap.size ∧ n ≤ cap ∧ ∀ j, j < n → w.cell? ⟨g, j, none⟩ = xs[j]? := by
  rcases h.2 with ⟨h1, _⟩ | ⟨g', cap', cur, h1, h2, h3, h4, h5, h6, h7⟩
  · cases h1
  · cases h1
    refine ⟨h2, (Array.getElem?_eq_some_iff.1 h3).1, h4, fun j hj => ?_⟩
    rw [blk_cell h3, ← h7, List.getElem?_take, if_pos (by omega)]
    simp
theorem info22 : ∃ j z, Tryz.prog.info? 22 = some j ∧ j.zero = some z ∧ z.cells.size = 1 ∧ j.size = 1 ∧ j.bytes = 24 := by
  have h : (Tryz.prog.info? 22).map (fun j => (j.zero.map (fun z => z.cells.size), j.size, j.bytes)) = some (some 1, 1, 24) := by kernel_rfl
  cases hj : Tryz.prog.info? 22 with
  | none => rw [hj] at h; cases h
  | some j =>
    rw [hj] at h
    simp only [Option.map_some, Option.some.injEq, Prod.mk.injEq] at h
    obtain ⟨h1, h2, h3⟩ := h
    cases hz : j.zero with
    | none => rw [hz] at h1; cases h1
    | some z => rw [hz] at h1; simp at h1; exact ⟨j, z, rfl, hz, h1, h2, h3⟩
/-- A row of lists that is owned. -/
structure RW2 (B Hn : Nat) (w : World) (v : Value) (l : List (List Fl)) : Prop where
  hn : Hn ≤ B
  own : ∃ xs, w.ownsRow B 22 1 v l.length xs
  en : ∀ g, v.ownBlock = some g → EN2 w Hn g 0 l
theorem RW2.nil {B Hn : Nat} {w : World} (h : Hn ≤ B) : RW2 B Hn w (.slice none 0 0) [] := ⟨h, ⟨[], rfl, .inl ⟨rfl, rfl⟩⟩, fun g e => by cases e⟩
theorem RW2.step {B Hn g' cap' b o : Nat} {w w1 : World} {l m : List (List Fl)} {v : Value} {xs : List Value} (h : RW2 B Hn w v l) (hx : w.ownsRow B 22 1 v l.length xs) (hm : EN2 w Hn b o m) (hB : B ≤ w.heap.size)
    (hown : w1.ownsRow B 22 1 (.slice (some ⟨g', 0, none⟩) (l.length + m.length) cap') (l.length + m.length) (xs ++ newsOf w b o m.length)) (hgr : w.grownBy w1 v.ownBlock) :
    RW2 B Hn w1 (.slice (some ⟨g', 0, none⟩) (l ++ m).length cap') (l ++ m) ∧ Below B w w1 := by
  have hb : Below B w w1 := ⟨hgr.os, hgr.tape, hgr.output, hgr.size, fun k hk => hgr.block k (by omega) fun e => by
    obtain ⟨_, _, _, h3⟩ := row_blk hx e.symm
    have := (row_blk hx e.symm).1
    omega⟩
  have hn := h.hn
  have hlen : xs.length = l.length := by have := hx.1; omega
  obtain ⟨r1, r2, r3, r4⟩ := row1_cell hown
  refine ⟨⟨hn, ⟨_, by rw [List.length_append]; exact hown⟩, fun g e => ?_⟩, hb⟩
  simp only [Value.ownBlock, Option.map_some, Option.some.injEq] at e
  subst e
  have hlow : ∀ k, k < Hn → w1.heap[k]? = w.heap[k]? := fun k hk => hb.block k (by omega)
  refine EN2_append ?_ ?_
  · by_cases hl : l = []
    · subst hl; trivial
    · rcases hx.2 with ⟨_, h0⟩ | ⟨g0, cap0, cur, rfl, _⟩
      · exact absurd (List.length_eq_zero_iff.1 h0) hl
      · have hen := h.en g0 rfl
        obtain ⟨_, _, _, q4⟩ := row1_cell hx
        refine EN2_copy hlow hen fun j hj => ?_
        rw [Nat.zero_add, r4 j (by omega), q4 j (by omega), List.getElem?_append_left (by omega)]
  · refine EN2_copy hlow hm fun j hj => ?_
    rw [Nat.zero_add, r4 (l.length + j) (by omega), List.getElem?_append_right (by omega), hlen, Nat.add_sub_cancel_left, newsOf_get hj]
    obtain ⟨u, hu, _⟩ := EN2_cell hm j hj
    rw [hu]; rfl
theorem RW2.sl {B Hn g n cap : Nat} {w : World} {l : List (List Fl)} (h : RW2 B Hn w (.slice (some ⟨g, 0, none⟩) n cap) l) (hs : l.length * 24 ≤ 140737488355328) (hB : B ≤ w.heap.size) : SLL w w.heap.size (some ⟨g, 0, none⟩) cap l := by
  obtain ⟨xs, hx⟩ := h.own
  have hn := h.hn
  obtain ⟨a', cap', e, h1, _⟩ : ∃ a' cap', Value.slice (some ⟨g, 0, none⟩) n cap = .slice a' l.length cap' ∧ l.length ≤ cap' ∧ True := by
    rcases hx.2 with ⟨e, _⟩ | ⟨g0, cap0, cur, e, _, _, h4, _⟩
    · cases e
    · exact ⟨_, cap0, e, h4, trivial⟩
  cases e
  obtain ⟨r1, r2, r3, r4⟩ := row1_cell hx
  exact ⟨r3, hs, g, 0, fun _ => rfl, EN2.ell r2 (by omega) (h.en g rfl)⟩
theorem news_read2 {w : World} {H b o : Nat} {l : List (List Fl)} (he : ELL w H b o l) : ∀ j u, (newsOf w b o l.length)[j]? = some u → w.cell? (Addr.add ⟨b, o, none⟩ j) = some u := by
  intro i u hi
  have hlt : i < l.length := by
    have := (List.getElem?_eq_some_iff.1 hi).1
    rwa [newsOf_len] at this
  obtain ⟨u', hu, _⟩ := EN2_cell he.en i hlt
  rw [newsOf_get hlt, hu] at hi
  have hh : u' = u := by simpa using hi
  subst hh
  rw [add_pl]; exact hu
theorem news_one2 {w : World} {H b o : Nat} {l : List (List Fl)} (he : ELL w H b o l) : ∀ u ∈ newsOf w b o l.length, u.oneCell' = true := by
  intro u hu
  obtain ⟨i, hi⟩ := List.getElem?_of_mem hu
  have hlt : i < l.length := by
    have := (List.getElem?_eq_some_iff.1 hi).1
    rwa [newsOf_len] at this
  obtain ⟨u', hu', ho⟩ := EN2_cell he.en i hlt
  rw [newsOf_get hlt, hu'] at hi
  have hh : u' = u := by simpa using hi
  subst hh
  exact ho
/-- An append of lists to a row that is owned, at a step of a region that draws. -/
theorem step_app2 {w : World} {ops : Array Oper} {o : Oper} {a : Act} {K : Act → World → Prop} {Q : Exit → Act → World → Prop} {E : Prop} (hgd : o.guard = none) (s x : Operand)
    (ho : o.op = .call { callee := .builtin .append, args := #[s, x], argTypes := #[25, 25] }) {l m L : List (List Fl)} (hL : L = l ++ m) {B Hn : Nat} {v : Value} (hrw : RW2 B Hn w v l) {b2 o2 c2 : Nat} (hs : a.eval s = v) (hx : a.eval x = .slice (some ⟨b2, o2, none⟩) m.length c2)
    (h2 : ELL w Hn b2 o2 m) (hm : m ≠ []) (hbd : L.length * 24 ≤ 140737488355328) (hB : B ≤ w.heap.size)
    (h : ∀ g cap w', RW2 B Hn w' (.slice (some ⟨g, 0, none⟩) L.length cap) L → Below B w w' → K (a.put o.dst (.slice (some ⟨g, 0, none⟩) L.length cap)) w') :
    if Region.wanted o (yielded ops a.tmps) = true then Oper.wp Tryz.prog o a w K Q else E := by
  obtain ⟨j, z, hj, hz, hzs, hj1, hj2⟩ := info22
  obtain ⟨xs, hown⟩ := hrw.own
  have hlen : L.length = l.length + m.length := by rw [hL, List.length_append]
  have hm1 : 0 < m.length := List.length_pos_iff.2 hm
  refine step_append_lies w hgd s x 25 ho B 22 j z 1 24 Tryz.underlying25 hj hz hj1 hj2 hzs (by decide) v l.length xs hs hown ⟨b2, o2, none⟩ m.length c2 (newsOf w b2 o2 m.length) hx (by rw [newsOf_len]; omega) (news_read2 h2) (news_one2 h2) hm1 (by unfold maxLen; omega) (by omega) hB w.heap.size rfl ?_
  intro g cap w' hown' hgr _ _
  obtain ⟨q1, q2⟩ := hrw.step hown h2.en hB hown' hgr
  rw [← hL] at q1
  have hh := h g cap w' q1 q2
  rw [hlen] at hh
  exact hh
theorem SLL.en {w : World} {H : Nat} {a : Option Addr} {cap : Nat} {l : List (List Fl)} (h : SLL w H a cap l) (hl : l ≠ []) : ∃ b o, a = some ⟨b, o, none⟩ ∧ ELL w H b o l := by
  obtain ⟨_, _, b, o, h1, h2⟩ := h
  exact ⟨b, o, h1 hl, h2⟩
set_option maxRecDepth 100000 in
set_option maxHeartbeats 8000000 in
theorem fnTurned_main17 (l : List (List Fl)) (n : Int) (hn0 : 0 ≤ n) (hn1 : n < (l.length : Int)) (hq : 0 < l.length) (hlen : ¬ (l.length : Int) > 2147483647) (b o cap : Nat) (w : World) (hs : SLL w w.heap.size (some ⟨b, o, none⟩) cap l) (ht : Tab w) : Calls Tryz.prog 18 #[.slice (some ⟨b, o, none⟩) l.length cap, .int .i64 7, .int .i64 n, .int .i64 0] w (RetB w true) := by
  have hle : ¬ l.length = 0 := by omega
  have hcap := hs.1
  have hcI : (l.length : Int) ≤ (cap : Int) := by omega
  have hck : ¬ cap = 0 := by omega
  obtain ⟨L, hL⟩ : ∃ L, L = l := ⟨_, rfl⟩
  have hz : L.length = l.length := by rw [hL]
  have hLl : L.length * 24 ≤ 140737488355328 := by omega
  have hLl1 : l.length * 24 ≤ 140737488355328 := by omega
  have law : teL [.mk 7 0 n l] = teL [.mk 7 0 0 L] := by
    have h := law_turned 7 n 0 (by decide) l 0 hn0 hn1 (by omega) (by omega)
    rw [hL]
    simpa using h
  have hkd : l ≠ [] := by rintro rfl; simp at hq
  obtain ⟨W1, hW1⟩ : ∃ W1, W1 = w.alloc (.cells #[.int .i64 7, .int .i64 0, .int .i64 n, .slice (some ⟨b, o, none⟩) l.length cap] 27) := ⟨_, rfl⟩
  obtain ⟨hb1, hz1, hs1⟩ := one_full hs hW1
  obtain ⟨V, hV⟩ : ∃ V, V = W1.drew := ⟨_, rfl⟩
  have hbv : Below W1.heap.size W1 V := by rw [hV]; exact (Below.refl _ _).drew
  have hb0v := bseq hb1 hbv
  obtain ⟨bx, ox, hax, he⟩ := hs.en (by rintro rfl; simp at hq)
  obtain ⟨rfl, rfl⟩ : b = bx ∧ o = ox := by simpa using hax
  have hev : ELL V V.heap.size b o l := he.keep (fun j hj => hb0v.block j hj) hb0v.size
  have HED := Lib.hid hev
  have HS := Lib.hid hs
  have HT := Lib.hid ht
  have HL := Lib.hid hL
  have LAW := Lib.hid law
  have HLL := Lib.hid hLl
  have HLL1 := Lib.hid hLl1
  have HKD := Lib.hid hkd
  have HSX := Lib.hid (hs1.up hbv)
  have HBV := Lib.hid hb0v
  have HV := Lib.hid (hV.trans (by rw [hW1]))
  have HZL := Lib.hid hz
  clear hs ht hL law hLl hLl1 hkd hW1 hb1 hz1 hs1 hV hbv hb0v hax he hev hz
  have hn2 : ¬ n < 0 := by omega
  have hn3 : ¬ (l.length : Int) ≤ n := by omega
  go_enter Tryz.func18, Tryz.ntmps18
  go_upto_region 6 with fail
  go_cut [10] from 45 to 56 (fun s10 wx => ∃ g capx, s10 = .slice (some ⟨g, 0, none⟩) 1 1 ∧ SL wx wx.heap.size (some ⟨g, 0, none⟩) 1 [.mk 7 0 0 L] ∧ Below w.heap.size w wx ∧ SL wx wx.heap.size (some ⟨w.heap.size, 0, none⟩) 1 [.mk 7 0 n l] ∧ capx = 0)
  case first =>
    go_region_held_law (fun _ => True) (trivial) (first
      | (rw [← HV.out]; refine step_app2 rfl _ _ rfl (l := []) (m := l) (L := l) (by rw [List.nil_append]) (RW2.nil (B := V.heap.size) (Hn := V.heap.size) (Nat.le_refl _)) (by rfl) (by rfl) HED.out HKD.out HLL1.out (Nat.le_refl _) ?_; intro g1 cap1 w1 hrw1 hb1; have hs1 := hrw1.sl HLL1.out hb1.size; have hcap1 := hs1.1))
    all_goals
      go_wp2_with fail
      go_meet
      obtain rfl : L = l := HL.out
      exact ⟨_, 0, rfl, (one_full hs1 rfl).2.2, bseq (bseq HBV.out hb1) (one_full hs1 rfl).1, (HSX.out.up hb1).up (one_full hs1 rfl).1, rfl⟩
  case rest =>
  obtain ⟨g7, cap7, rfl, hs7, hb7, hsx7, rfl⟩ := hcut
  have cvx := valid_any _ _ _ _ wc hsx7 (Nat.le_refl _)
  have CVX := Lib.hid cvx
  have HS7 := Lib.hid hs7
  have HSX7 := Lib.hid hsx7
  have HB7 := Lib.hid hb7
  clear hs7 hsx7 hb7 cvx
  go_wp2_with fail
  refine (CVX.out).mono ?_
  rintro e w8 ⟨rfl, hb8⟩
  have HB8 := Lib.hid (bseq HB7.out hb8)
  have HSA8 := Lib.hid (HSX7.out.up hb8)
  have HSB8 := Lib.hid (HS7.out.up hb8)
  clear hb8
  cases hva : validL [.mk 7 0 n l] with
  | false =>
    clear hva
    go_wp2_with fail
    go_ret
    exact ⟨rfl, HB8.out⟩
  | true =>
    have cvb := valid_any _ _ _ _ w8 HSB8.out (Nat.le_refl _)
    have CVB := Lib.hid cvb
    have HVA := Lib.hid hva
    clear cvb hva
    go_wp2_with fail
    refine (CVB.out).mono ?_
    rintro e w9 ⟨rfl, hb9⟩
    have HB9 := Lib.hid (bseq HB8.out hb9)
    have HSA9 := Lib.hid (HSA8.out.up hb9)
    have HSB9 := Lib.hid (HSB8.out.up hb9)
    clear hb9
    cases hvb : validL [.mk 7 0 0 L] with
    | false =>
      clear hvb
      go_wp2_with fail
      go_ret
      exact ⟨rfl, HB9.out⟩
    | true =>
      have cea := ends_any _ _ _ w9 HSA9.out (HT.out.on HB9.out) HVA.out
      rw [LAW.out] at cea
      have CEA := Lib.hid cea
      have HVB := Lib.hid hvb
      clear cea hvb
      go_wp2_with fail
      refine (CEA.out).mono ?_
      rintro e w10 ⟨rfl, hb10⟩
      have HB10 := Lib.hid (bseq HB9.out hb10)
      have HSB10 := Lib.hid (HSB9.out.up hb10)
      clear hb10
      have ceb := ends_any _ _ _ w10 HSB10.out (HT.out.on HB10.out) HVB.out
      have CEB := Lib.hid ceb
      clear ceb
      go_wp2_with fail
      refine (CEB.out).mono ?_
      rintro e w11 ⟨rfl, hb11⟩
      have HB11 := Lib.hid (bseq HB10.out hb11)
      have heq : (teL [.mk 7 0 0 L] == teL [.mk 7 0 0 L]) = true := by simp
      clear hb11
      go_wp2_with fail
      refine (works_any w11 (HT.out.on HB11.out)).mono ?_
      rintro e w12 ⟨rfl, hb12⟩
      go_wp2_with fail
      go_ret
      exact ⟨rfl, bseq HB11.out hb12⟩
set_option maxRecDepth 100000 in
set_option maxHeartbeats 8000000 in
theorem fnTurned_main27 (l : List (List Fl)) (n : Int) (hn0 : 0 ≤ n) (hn1 : n < (l.length : Int)) (q0 : Nat) (hq : q0 < l.length) (hq0 : 0 < q0) (hlen : ¬ (l.length : Int) > 2147483647) (b o cap : Nat) (w : World) (hs : SLL w w.heap.size (some ⟨b, o, none⟩) cap l) (ht : Tab w) : Calls Tryz.prog 18 #[.slice (some ⟨b, o, none⟩) l.length cap, .int .i64 7, .int .i64 n, .int .i64 q0] w (RetB w true) := by
  have hkI2 : (q0 : Int) ≤ (l.length : Int) := by omega
  have hkI3 : (q0 : Int) < (l.length : Int) := by omega
  have hkI4 : ¬ (l.length : Int) ≤ (q0 : Int) := by omega
  have hkI5 : ¬ l.length ≤ q0 := by omega
  have hk0 : (0 : Int) ≤ (q0 : Int) := by omega
  have hcap := hs.1
  have hkc : (q0 : Int) ≤ (cap : Int) := by omega
  have hcI : (l.length : Int) ≤ (cap : Int) := by omega
  have hck : ¬ cap = q0 := by omega
  obtain ⟨L, hL⟩ : ∃ L, L = l.drop q0 ++ l.take q0 := ⟨_, rfl⟩
  have hz : L.length = l.length := by rw [hL, List.length_append, List.length_drop, List.length_take]; omega
  have hLl : L.length * 24 ≤ 140737488355328 := by omega
  have hLl1 : (l.drop q0).length * 24 ≤ 140737488355328 := by rw [List.length_drop]; omega
  have law : teL [.mk 7 0 n l] = teL [.mk 7 0 q0 L] := by rw [hL]; exact law_turned 7 n q0 (by decide) l q0 hn0 hn1 hk0 hkI3
  have hkd : l.drop q0 ≠ [] := by intro h; have := congrArg List.length h; rw [List.length_drop] at this; simp at this; omega
  have hdl : (l.drop q0).length = l.length - q0 := List.length_drop
  have htk : (l.take q0).length = q0 := by rw [List.length_take]; omega
  obtain ⟨W1, hW1⟩ : ∃ W1, W1 = w.alloc (.cells #[.int .i64 7, .int .i64 0, .int .i64 n, .slice (some ⟨b, o, none⟩) l.length cap] 27) := ⟨_, rfl⟩
  obtain ⟨hb1, hz1, hs1⟩ := one_full hs hW1
  obtain ⟨V, hV⟩ : ∃ V, V = W1.drew := ⟨_, rfl⟩
  have hbv : Below W1.heap.size W1 V := by rw [hV]; exact (Below.refl _ _).drew
  have hb0v := bseq hb1 hbv
  obtain ⟨bx, ox, hax, he⟩ := hs.en (by rintro rfl; simp at hq)
  obtain ⟨rfl, rfl⟩ : b = bx ∧ o = ox := by simpa using hax
  have hev : ELL V V.heap.size b o l := he.keep (fun j hj => hb0v.block j hj) hb0v.size
  have HED := Lib.hid (hev.drop q0)
  have HET := Lib.hid (hev.take q0)
  have HDL := Lib.hid hdl
  have HTK := Lib.hid htk
  have HS := Lib.hid hs
  have HT := Lib.hid ht
  have HL := Lib.hid hL
  have LAW := Lib.hid law
  have HLL := Lib.hid hLl
  have HLL1 := Lib.hid hLl1
  have HKD := Lib.hid hkd
  have HSX := Lib.hid (hs1.up hbv)
  have HBV := Lib.hid hb0v
  have HV := Lib.hid (hV.trans (by rw [hW1]))
  have HZL := Lib.hid hz
  clear hs ht hL law hLl hLl1 hkd hW1 hb1 hz1 hs1 hV hbv hb0v hax he hev hz
  clear hdl htk
  have hn2 : ¬ n < 0 := by omega
  have hn3 : ¬ (l.length : Int) ≤ n := by omega
  go_enter Tryz.func18, Tryz.ntmps18
  go_upto_region 6 with fail
  go_cut [10] from 45 to 56 (fun s10 wx => ∃ g capx, s10 = .slice (some ⟨g, 0, none⟩) 1 1 ∧ SL wx wx.heap.size (some ⟨g, 0, none⟩) 1 [.mk 7 0 q0 L] ∧ Below w.heap.size w wx ∧ SL wx wx.heap.size (some ⟨w.heap.size, 0, none⟩) 1 [.mk 7 0 n l] ∧ capx = 0)
  case first =>
    have htn : l.take q0 ≠ [] := by intro h; have := congrArg List.length h; rw [HTK.out] at this; simp at this; omega
    have HTN := Lib.hid htn
    clear htn
    go_region_held_law (fun _ => True) (trivial) (first
      | (rw [← HV.out]; refine step_app2 rfl _ _ rfl (l := []) (m := l.drop q0) (L := l.drop q0) (by rw [List.nil_append]) (RW2.nil (B := V.heap.size) (Hn := V.heap.size) (Nat.le_refl _)) (by rfl) (by rw [HDL.out]; rfl) HED.out HKD.out HLL1.out (Nat.le_refl _) ?_; intro g1 cap1 w1 hrw1 hb1; have hs1 := hrw1.sl HLL1.out hb1.size; have hcap1 := hs1.1)
      | (refine step_app2 rfl _ _ rfl HL.out hrw1 (by rfl) (by rw [HTK.out]; rfl) (ELL.keep (w' := w1) (fun j hj => hb1.block j hj) (Nat.le_refl _) HET.out) HTN.out HLL.out hb1.size ?_; intro g2 cap2 w2 hrw2 hb2))
    all_goals
      go_wp2_with fail
      go_meet
      have hb12 := hb1.trans hb2
      have hs2 := hrw2.sl HLL.out hb12.size
      exact ⟨_, 0, rfl, (one_full hs2 rfl).2.2, bseq (bseq HBV.out hb12) (one_full hs2 rfl).1, (HSX.out.up hb12).up (one_full hs2 rfl).1, rfl⟩
  case rest =>
  obtain ⟨g7, cap7, rfl, hs7, hb7, hsx7, rfl⟩ := hcut
  have cvx := valid_any _ _ _ _ wc hsx7 (Nat.le_refl _)
  have CVX := Lib.hid cvx
  have HS7 := Lib.hid hs7
  have HSX7 := Lib.hid hsx7
  have HB7 := Lib.hid hb7
  clear hs7 hsx7 hb7 cvx
  go_wp2_with fail
  refine (CVX.out).mono ?_
  rintro e w8 ⟨rfl, hb8⟩
  have HB8 := Lib.hid (bseq HB7.out hb8)
  have HSA8 := Lib.hid (HSX7.out.up hb8)
  have HSB8 := Lib.hid (HS7.out.up hb8)
  clear hb8
  cases hva : validL [.mk 7 0 n l] with
  | false =>
    clear hva
    go_wp2_with fail
    go_ret
    exact ⟨rfl, HB8.out⟩
  | true =>
    have cvb := valid_any _ _ _ _ w8 HSB8.out (Nat.le_refl _)
    have CVB := Lib.hid cvb
    have HVA := Lib.hid hva
    clear cvb hva
    go_wp2_with fail
    refine (CVB.out).mono ?_
    rintro e w9 ⟨rfl, hb9⟩
    have HB9 := Lib.hid (bseq HB8.out hb9)
    have HSA9 := Lib.hid (HSA8.out.up hb9)
    have HSB9 := Lib.hid (HSB8.out.up hb9)
    clear hb9
    cases hvb : validL [.mk 7 0 q0 L] with
    | false =>
      clear hvb
      go_wp2_with fail
      go_ret
      exact ⟨rfl, HB9.out⟩
    | true =>
      have cea := ends_any _ _ _ w9 HSA9.out (HT.out.on HB9.out) HVA.out
      rw [LAW.out] at cea
      have CEA := Lib.hid cea
      have HVB := Lib.hid hvb
      clear cea hvb
      go_wp2_with fail
      refine (CEA.out).mono ?_
      rintro e w10 ⟨rfl, hb10⟩
      have HB10 := Lib.hid (bseq HB9.out hb10)
      have HSB10 := Lib.hid (HSB9.out.up hb10)
      clear hb10
      have ceb := ends_any _ _ _ w10 HSB10.out (HT.out.on HB10.out) HVB.out
      have CEB := Lib.hid ceb
      clear ceb
      go_wp2_with fail
      refine (CEB.out).mono ?_
      rintro e w11 ⟨rfl, hb11⟩
      have HB11 := Lib.hid (bseq HB10.out hb11)
      have heq : (teL [.mk 7 0 q0 L] == teL [.mk 7 0 q0 L]) = true := by simp
      clear hb11
      go_wp2_with fail
      refine (works_any w11 (HT.out.on HB11.out)).mono ?_
      rintro e w12 ⟨rfl, hb12⟩
      go_wp2_with fail
      go_ret
      exact ⟨rfl, bseq HB11.out hb12⟩
set_option maxRecDepth 100000 in
set_option maxHeartbeats 8000000 in
theorem fnTurned_main18 (l : List (List Fl)) (n : Int) (hn0 : 0 ≤ n) (hn1 : n < (l.length : Int)) (hq : 0 < l.length) (hlen : ¬ (l.length : Int) > 2147483647) (b o cap : Nat) (w : World) (hs : SLL w w.heap.size (some ⟨b, o, none⟩) cap l) (ht : Tab w) : Calls Tryz.prog 18 #[.slice (some ⟨b, o, none⟩) l.length cap, .int .i64 8, .int .i64 n, .int .i64 0] w (RetB w true) := by
  have hle : ¬ l.length = 0 := by omega
  have hcap := hs.1
  have hcI : (l.length : Int) ≤ (cap : Int) := by omega
  have hck : ¬ cap = 0 := by omega
  obtain ⟨L, hL⟩ : ∃ L, L = l := ⟨_, rfl⟩
  have hz : L.length = l.length := by rw [hL]
  have hLl : L.length * 24 ≤ 140737488355328 := by omega
  have hLl1 : l.length * 24 ≤ 140737488355328 := by omega
  have law : teL [.mk 8 0 n l] = teL [.mk 8 0 0 L] := by
    have h := law_turned 8 n 0 (by decide) l 0 hn0 hn1 (by omega) (by omega)
    rw [hL]
    simpa using h
  have hkd : l ≠ [] := by rintro rfl; simp at hq
  obtain ⟨W1, hW1⟩ : ∃ W1, W1 = w.alloc (.cells #[.int .i64 8, .int .i64 0, .int .i64 n, .slice (some ⟨b, o, none⟩) l.length cap] 27) := ⟨_, rfl⟩
  obtain ⟨hb1, hz1, hs1⟩ := one_full hs hW1
  obtain ⟨V, hV⟩ : ∃ V, V = W1.drew := ⟨_, rfl⟩
  have hbv : Below W1.heap.size W1 V := by rw [hV]; exact (Below.refl _ _).drew
  have hb0v := bseq hb1 hbv
  obtain ⟨bx, ox, hax, he⟩ := hs.en (by rintro rfl; simp at hq)
  obtain ⟨rfl, rfl⟩ : b = bx ∧ o = ox := by simpa using hax
  have hev : ELL V V.heap.size b o l := he.keep (fun j hj => hb0v.block j hj) hb0v.size
  have HED := Lib.hid hev
  have HS := Lib.hid hs
  have HT := Lib.hid ht
  have HL := Lib.hid hL
  have LAW := Lib.hid law
  have HLL := Lib.hid hLl
  have HLL1 := Lib.hid hLl1
  have HKD := Lib.hid hkd
  have HSX := Lib.hid (hs1.up hbv)
  have HBV := Lib.hid hb0v
  have HV := Lib.hid (hV.trans (by rw [hW1]))
  have HZL := Lib.hid hz
  clear hs ht hL law hLl hLl1 hkd hW1 hb1 hz1 hs1 hV hbv hb0v hax he hev hz
  have hn2 : ¬ n < 0 := by omega
  have hn3 : ¬ (l.length : Int) ≤ n := by omega
  go_enter Tryz.func18, Tryz.ntmps18
  go_upto_region 6 with fail
  go_cut [10] from 45 to 56 (fun s10 wx => ∃ g capx, s10 = .slice (some ⟨g, 0, none⟩) 1 1 ∧ SL wx wx.heap.size (some ⟨g, 0, none⟩) 1 [.mk 8 0 0 L] ∧ Below w.heap.size w wx ∧ SL wx wx.heap.size (some ⟨w.heap.size, 0, none⟩) 1 [.mk 8 0 n l] ∧ capx = 0)
  case first =>
    go_region_held_law (fun _ => True) (trivial) (first
      | (rw [← HV.out]; refine step_app2 rfl _ _ rfl (l := []) (m := l) (L := l) (by rw [List.nil_append]) (RW2.nil (B := V.heap.size) (Hn := V.heap.size) (Nat.le_refl _)) (by rfl) (by rfl) HED.out HKD.out HLL1.out (Nat.le_refl _) ?_; intro g1 cap1 w1 hrw1 hb1; have hs1 := hrw1.sl HLL1.out hb1.size; have hcap1 := hs1.1))
    all_goals
      go_wp2_with fail
      go_meet
      obtain rfl : L = l := HL.out
      exact ⟨_, 0, rfl, (one_full hs1 rfl).2.2, bseq (bseq HBV.out hb1) (one_full hs1 rfl).1, (HSX.out.up hb1).up (one_full hs1 rfl).1, rfl⟩
  case rest =>
  obtain ⟨g7, cap7, rfl, hs7, hb7, hsx7, rfl⟩ := hcut
  have cvx := valid_any _ _ _ _ wc hsx7 (Nat.le_refl _)
  have CVX := Lib.hid cvx
  have HS7 := Lib.hid hs7
  have HSX7 := Lib.hid hsx7
  have HB7 := Lib.hid hb7
  clear hs7 hsx7 hb7 cvx
  go_wp2_with fail
  refine (CVX.out).mono ?_
  rintro e w8 ⟨rfl, hb8⟩
  have HB8 := Lib.hid (bseq HB7.out hb8)
  have HSA8 := Lib.hid (HSX7.out.up hb8)
  have HSB8 := Lib.hid (HS7.out.up hb8)
  clear hb8
  cases hva : validL [.mk 8 0 n l] with
  | false =>
    clear hva
    go_wp2_with fail
    go_ret
    exact ⟨rfl, HB8.out⟩
  | true =>
    have cvb := valid_any _ _ _ _ w8 HSB8.out (Nat.le_refl _)
    have CVB := Lib.hid cvb
    have HVA := Lib.hid hva
    clear cvb hva
    go_wp2_with fail
    refine (CVB.out).mono ?_
    rintro e w9 ⟨rfl, hb9⟩
    have HB9 := Lib.hid (bseq HB8.out hb9)
    have HSA9 := Lib.hid (HSA8.out.up hb9)
    have HSB9 := Lib.hid (HSB8.out.up hb9)
    clear hb9
    cases hvb : validL [.mk 8 0 0 L] with
    | false =>
      clear hvb
      go_wp2_with fail
      go_ret
      exact ⟨rfl, HB9.out⟩
    | true =>
      have cea := ends_any _ _ _ w9 HSA9.out (HT.out.on HB9.out) HVA.out
      rw [LAW.out] at cea
      have CEA := Lib.hid cea
      have HVB := Lib.hid hvb
      clear cea hvb
      go_wp2_with fail
      refine (CEA.out).mono ?_
      rintro e w10 ⟨rfl, hb10⟩
      have HB10 := Lib.hid (bseq HB9.out hb10)
      have HSB10 := Lib.hid (HSB9.out.up hb10)
      clear hb10
      have ceb := ends_any _ _ _ w10 HSB10.out (HT.out.on HB10.out) HVB.out
      have CEB := Lib.hid ceb
      clear ceb
      go_wp2_with fail
      refine (CEB.out).mono ?_
      rintro e w11 ⟨rfl, hb11⟩
      have HB11 := Lib.hid (bseq HB10.out hb11)
      have heq : (teL [.mk 8 0 0 L] == teL [.mk 8 0 0 L]) = true := by simp
      clear hb11
      go_wp2_with fail
      refine (works_any w11 (HT.out.on HB11.out)).mono ?_
      rintro e w12 ⟨rfl, hb12⟩
      go_wp2_with fail
      go_ret
      exact ⟨rfl, bseq HB11.out hb12⟩
set_option maxRecDepth 100000 in
set_option maxHeartbeats 8000000 in
theorem fnTurned_main28 (l : List (List Fl)) (n : Int) (hn0 : 0 ≤ n) (hn1 : n < (l.length : Int)) (q0 : Nat) (hq : q0 < l.length) (hq0 : 0 < q0) (hlen : ¬ (l.length : Int) > 2147483647) (b o cap : Nat) (w : World) (hs : SLL w w.heap.size (some ⟨b, o, none⟩) cap l) (ht : Tab w) : Calls Tryz.prog 18 #[.slice (some ⟨b, o, none⟩) l.length cap, .int .i64 8, .int .i64 n, .int .i64 q0] w (RetB w true) := by
  have hkI2 : (q0 : Int) ≤ (l.length : Int) := by omega
  have hkI3 : (q0 : Int) < (l.length : Int) := by omega
  have hkI4 : ¬ (l.length : Int) ≤ (q0 : Int) := by omega
  have hkI5 : ¬ l.length ≤ q0 := by omega
  have hk0 : (0 : Int) ≤ (q0 : Int) := by omega
  have hcap := hs.1
  have hkc : (q0 : Int) ≤ (cap : Int) := by omega
  have hcI : (l.length : Int) ≤ (cap : Int) := by omega
  have hck : ¬ cap = q0 := by omega
  obtain ⟨L, hL⟩ : ∃ L, L = l.drop q0 ++ l.take q0 := ⟨_, rfl⟩
  have hz : L.length = l.length := by rw [hL, List.length_append, List.length_drop, List.length_take]; omega
  have hLl : L.length * 24 ≤ 140737488355328 := by omega
  have hLl1 : (l.drop q0).length * 24 ≤ 140737488355328 := by rw [List.length_drop]; omega
  have law : teL [.mk 8 0 n l] = teL [.mk 8 0 q0 L] := by rw [hL]; exact law_turned 8 n q0 (by decide) l q0 hn0 hn1 hk0 hkI3
  have hkd : l.drop q0 ≠ [] := by intro h; have := congrArg List.length h; rw [List.length_drop] at this; simp at this; omega
  have hdl : (l.drop q0).length = l.length - q0 := List.length_drop
  have htk : (l.take q0).length = q0 := by rw [List.length_take]; omega
  obtain ⟨W1, hW1⟩ : ∃ W1, W1 = w.alloc (.cells #[.int .i64 8, .int .i64 0, .int .i64 n, .slice (some ⟨b, o, none⟩) l.length cap] 27) := ⟨_, rfl⟩
  obtain ⟨hb1, hz1, hs1⟩ := one_full hs hW1
  obtain ⟨V, hV⟩ : ∃ V, V = W1.drew := ⟨_, rfl⟩
  have hbv : Below W1.heap.size W1 V := by rw [hV]; exact (Below.refl _ _).drew
  have hb0v := bseq hb1 hbv
  obtain ⟨bx, ox, hax, he⟩ := hs.en (by rintro rfl; simp at hq)
  obtain ⟨rfl, rfl⟩ : b = bx ∧ o = ox := by simpa using hax
  have hev : ELL V V.heap.size b o l := he.keep (fun j hj => hb0v.block j hj) hb0v.size
  have HED := Lib.hid (hev.drop q0)
  have HET := Lib.hid (hev.take q0)
  have HDL := Lib.hid hdl
  have HTK := Lib.hid htk
  have HS := Lib.hid hs
  have HT := Lib.hid ht
  have HL := Lib.hid hL
  have LAW := Lib.hid law
  have HLL := Lib.hid hLl
  have HLL1 := Lib.hid hLl1
  have HKD := Lib.hid hkd
  have HSX := Lib.hid (hs1.up hbv)
  have HBV := Lib.hid hb0v
  have HV := Lib.hid (hV.trans (by rw [hW1]))
  have HZL := Lib.hid hz
  clear hs ht hL law hLl hLl1 hkd hW1 hb1 hz1 hs1 hV hbv hb0v hax he hev hz
  clear hdl htk
  have hn2 : ¬ n < 0 := by omega
  have hn3 : ¬ (l.length : Int) ≤ n := by omega
  go_enter Tryz.func18, Tryz.ntmps18
  go_upto_region 6 with fail
  go_cut [10] from 45 to 56 (fun s10 wx => ∃ g capx, s10 = .slice (some ⟨g, 0, none⟩) 1 1 ∧ SL wx wx.heap.size (some ⟨g, 0, none⟩) 1 [.mk 8 0 q0 L] ∧ Below w.heap.size w wx ∧ SL wx wx.heap.size (some ⟨w.heap.size, 0, none⟩) 1 [.mk 8 0 n l] ∧ capx = 0)
  case first =>
    have htn : l.take q0 ≠ [] := by intro h; have := congrArg List.length h; rw [HTK.out] at this; simp at this; omega
    have HTN := Lib.hid htn
    clear htn
    go_region_held_law (fun _ => True) (trivial) (first
      | (rw [← HV.out]; refine step_app2 rfl _ _ rfl (l := []) (m := l.drop q0) (L := l.drop q0) (by rw [List.nil_append]) (RW2.nil (B := V.heap.size) (Hn := V.heap.size) (Nat.le_refl _)) (by rfl) (by rw [HDL.out]; rfl) HED.out HKD.out HLL1.out (Nat.le_refl _) ?_; intro g1 cap1 w1 hrw1 hb1; have hs1 := hrw1.sl HLL1.out hb1.size; have hcap1 := hs1.1)
      | (refine step_app2 rfl _ _ rfl HL.out hrw1 (by rfl) (by rw [HTK.out]; rfl) (ELL.keep (w' := w1) (fun j hj => hb1.block j hj) (Nat.le_refl _) HET.out) HTN.out HLL.out hb1.size ?_; intro g2 cap2 w2 hrw2 hb2))
    all_goals
      go_wp2_with fail
      go_meet
      have hb12 := hb1.trans hb2
      have hs2 := hrw2.sl HLL.out hb12.size
      exact ⟨_, 0, rfl, (one_full hs2 rfl).2.2, bseq (bseq HBV.out hb12) (one_full hs2 rfl).1, (HSX.out.up hb12).up (one_full hs2 rfl).1, rfl⟩
  case rest =>
  obtain ⟨g7, cap7, rfl, hs7, hb7, hsx7, rfl⟩ := hcut
  have cvx := valid_any _ _ _ _ wc hsx7 (Nat.le_refl _)
  have CVX := Lib.hid cvx
  have HS7 := Lib.hid hs7
  have HSX7 := Lib.hid hsx7
  have HB7 := Lib.hid hb7
  clear hs7 hsx7 hb7 cvx
  go_wp2_with fail
  refine (CVX.out).mono ?_
  rintro e w8 ⟨rfl, hb8⟩
  have HB8 := Lib.hid (bseq HB7.out hb8)
  have HSA8 := Lib.hid (HSX7.out.up hb8)
  have HSB8 := Lib.hid (HS7.out.up hb8)
  clear hb8
  cases hva : validL [.mk 8 0 n l] with
  | false =>
    clear hva
    go_wp2_with fail
    go_ret
    exact ⟨rfl, HB8.out⟩
  | true =>
    have cvb := valid_any _ _ _ _ w8 HSB8.out (Nat.le_refl _)
    have CVB := Lib.hid cvb
    have HVA := Lib.hid hva
    clear cvb hva
    go_wp2_with fail
    refine (CVB.out).mono ?_
    rintro e w9 ⟨rfl, hb9⟩
    have HB9 := Lib.hid (bseq HB8.out hb9)
    have HSA9 := Lib.hid (HSA8.out.up hb9)
    have HSB9 := Lib.hid (HSB8.out.up hb9)
    clear hb9
    cases hvb : validL [.mk 8 0 q0 L] with
    | false =>
      clear hvb
      go_wp2_with fail
      go_ret
      exact ⟨rfl, HB9.out⟩
    | true =>
      have cea := ends_any _ _ _ w9 HSA9.out (HT.out.on HB9.out) HVA.out
      rw [LAW.out] at cea
      have CEA := Lib.hid cea
      have HVB := Lib.hid hvb
      clear cea hvb
      go_wp2_with fail
      refine (CEA.out).mono ?_
      rintro e w10 ⟨rfl, hb10⟩
      have HB10 := Lib.hid (bseq HB9.out hb10)
      have HSB10 := Lib.hid (HSB9.out.up hb10)
      clear hb10
      have ceb := ends_any _ _ _ w10 HSB10.out (HT.out.on HB10.out) HVB.out
      have CEB := Lib.hid ceb
      clear ceb
      go_wp2_with fail
      refine (CEB.out).mono ?_
      rintro e w11 ⟨rfl, hb11⟩
      have HB11 := Lib.hid (bseq HB10.out hb11)
      have heq : (teL [.mk 8 0 q0 L] == teL [.mk 8 0 q0 L]) = true := by simp
      clear hb11
      go_wp2_with fail
      refine (works_any w11 (HT.out.on HB11.out)).mono ?_
      rintro e w12 ⟨rfl, hb12⟩
      go_wp2_with fail
      go_ret
      exact ⟨rfl, bseq HB11.out hb12⟩
set_option maxHeartbeats 8000000 in
theorem fnTurned_any (l : List (List Fl)) (k n q : Int) (a : Option Addr) (cap : Nat) (w : World) (hs : SLL w w.heap.size a cap l) (ht : Tab w) : Calls Tryz.prog 18 #[.slice a l.length cap, .int .i64 k, .int .i64 n, .int .i64 q] w (RetB w true) := by
  by_cases hlen : (l.length : Int) > 2147483647
  · clear hs ht
    go_enter Tryz.func18, Tryz.ntmps18
    go_wp2_with fail
    (try simp only [Exit.inBlock, Exit.then])
    refine bodyPost_ret (results_tmp rfl _ _ _) rfl ?_
    exact ⟨rfl, Below.refl _ _⟩
  by_cases hk : k = 7 ∨ k = 8
  · rcases hk with rfl | rfl
    · by_cases hn0 : n < 0
      · clear hs ht
        go_enter Tryz.func18, Tryz.ntmps18
        go_wp2_with fail
        (try simp only [Exit.inBlock, Exit.then])
        refine bodyPost_ret (results_tmp rfl _ _ _) rfl ?_
        exact ⟨rfl, Below.refl _ _⟩
      by_cases hn1 : (l.length : Int) ≤ n
      · clear hs ht
        go_enter Tryz.func18, Tryz.ntmps18
        go_wp2_with fail
        (try simp only [Exit.inBlock, Exit.then])
        refine bodyPost_ret (results_tmp rfl _ _ _) rfl ?_
        exact ⟨rfl, Below.refl _ _⟩
      by_cases hq0 : q < 0
      · clear hs ht
        go_enter Tryz.func18, Tryz.ntmps18
        go_wp2_with fail
        (try simp only [Exit.inBlock, Exit.then])
        refine bodyPost_ret (results_tmp rfl _ _ _) rfl ?_
        exact ⟨rfl, Below.refl _ _⟩
      by_cases hq1 : (l.length : Int) ≤ q
      · clear hs ht
        go_enter Tryz.func18, Tryz.ntmps18
        go_wp2_with fail
        (try simp only [Exit.inBlock, Exit.then])
        refine bodyPost_ret (results_tmp rfl _ _ _) rfl ?_
        exact ⟨rfl, Below.refl _ _⟩
      obtain ⟨q0, rfl⟩ : ∃ q0 : Nat, q = (q0 : Int) := ⟨q.toNat, by omega⟩
      have hql : q0 < l.length := by omega
      obtain ⟨b, o, rfl, _⟩ := hs.en (by rintro rfl; simp at hql)
      by_cases hz : q0 = 0
      · subst hz
        exact fnTurned_main17 l n (by omega) (by omega) hql hlen b o cap w hs ht
      · exact fnTurned_main27 l n (by omega) (by omega) q0 hql (by omega) hlen b o cap w hs ht
    · by_cases hn0 : n < 0
      · clear hs ht
        go_enter Tryz.func18, Tryz.ntmps18
        go_wp2_with fail
        (try simp only [Exit.inBlock, Exit.then])
        refine bodyPost_ret (results_tmp rfl _ _ _) rfl ?_
        exact ⟨rfl, Below.refl _ _⟩
      by_cases hn1 : (l.length : Int) ≤ n
      · clear hs ht
        go_enter Tryz.func18, Tryz.ntmps18
        go_wp2_with fail
        (try simp only [Exit.inBlock, Exit.then])
        refine bodyPost_ret (results_tmp rfl _ _ _) rfl ?_
        exact ⟨rfl, Below.refl _ _⟩
      by_cases hq0 : q < 0
      · clear hs ht
        go_enter Tryz.func18, Tryz.ntmps18
        go_wp2_with fail
        (try simp only [Exit.inBlock, Exit.then])
        refine bodyPost_ret (results_tmp rfl _ _ _) rfl ?_
        exact ⟨rfl, Below.refl _ _⟩
      by_cases hq1 : (l.length : Int) ≤ q
      · clear hs ht
        go_enter Tryz.func18, Tryz.ntmps18
        go_wp2_with fail
        (try simp only [Exit.inBlock, Exit.then])
        refine bodyPost_ret (results_tmp rfl _ _ _) rfl ?_
        exact ⟨rfl, Below.refl _ _⟩
      obtain ⟨q0, rfl⟩ : ∃ q0 : Nat, q = (q0 : Int) := ⟨q.toNat, by omega⟩
      have hql : q0 < l.length := by omega
      obtain ⟨b, o, rfl, _⟩ := hs.en (by rintro rfl; simp at hql)
      by_cases hz : q0 = 0
      · subst hz
        exact fnTurned_main18 l n (by omega) (by omega) hql hlen b o cap w hs ht
      · exact fnTurned_main28 l n (by omega) (by omega) q0 hql (by omega) hlen b o cap w hs ht
  · have h7 : (k != 7) = true := by simp; omega
    have h8 : (k != 8) = true := by simp; omega
    clear hk
    clear hs ht
    go_enter Tryz.func18, Tryz.ntmps18
    go_wp2_with fail
    (try simp only [Exit.inBlock, Exit.then])
    refine bodyPost_ret (results_tmp rfl _ _ _) rfl ?_
    exact ⟨rfl, Below.refl _ _⟩
end Go.Proofs.YtpodifbgfcclbaaGreatDoor
