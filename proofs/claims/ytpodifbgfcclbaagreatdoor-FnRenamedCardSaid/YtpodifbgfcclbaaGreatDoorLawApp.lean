/- Appends of statements, for the laws. -/
import Derived.Test.YtpodifbgfcclbaaGreatDoorLawLab
import Derived.Test.YtpodifbgfcclbaaGreatDoorLawHas
import Derived.Deep.RegionHeld3
import Derived.Deep.RegionLawGrows
import Derived.Deep.AppendLies
set_option linter.unusedVariables false
set_option linter.unusedSimpArgs false
namespace Go.Proofs.YtpodifbgfcclbaaGreatDoor
open Go.RowKit
attribute [local go_sem] Nat.lt_add_one_of_lt

theorem hasl_any (n : Int) (l : List Fl) (a : Option Addr) (cap : Nat) (w : World) (hs : SL w w.heap.size a cap l) : Calls Tryz.prog 21 #[.slice a l.length cap, .int .i64 n] w (RetB w (hasL n l)) :=
  has_any n _ l (Nat.lt_succ_self _) a cap _ w hs (Nat.le_refl _)
theorem SL_two {w : World} {H b T cap cap2 : Nat} {k l d k2 l2 d2 : Int} {a a2 : Option Addr} {bd bd2 : List (List Fl)} (h : w.heap[b]? = some (.cells #[.int .i64 k, .int .i64 l, .int .i64 d, .slice a bd.length cap, .int .i64 k2, .int .i64 l2, .int .i64 d2, .slice a2 bd2.length cap2] T)) (hb : b < H) (hs : SLL w H a cap bd) (hs2 : SLL w H a2 cap2 bd2) : SL w H (some ⟨b, 0, none⟩) 2 [.mk k l d bd, .mk k2 l2 d2 bd2] :=
  ⟨by simp, by simp, b, 0, fun _ => rfl, EL_cons.2 ⟨hb, by rw [blk_cell h]; rfl, by rw [blk_cell h]; rfl, by rw [blk_cell h]; rfl, ⟨a, cap, by rw [blk_cell h]; rfl, hs⟩, EL_cons.2 ⟨hb, by rw [blk_cell h]; rfl, by rw [blk_cell h]; rfl, by rw [blk_cell h]; rfl, ⟨a2, cap2, by rw [blk_cell h]; rfl, hs2⟩, EL_nil⟩⟩⟩
/-- Two statements in a block of their own. -/
theorem two_full {w W : World} {a a2 : Option Addr} {cap cap2 : Nat} {bd bd2 : List (List Fl)} {k l d k2 l2 d2 : Int} (hs : SLL w w.heap.size a cap bd) (hs2 : SLL w w.heap.size a2 cap2 bd2) (hW : W = w.alloc (.cells #[.int .i64 k, .int .i64 l, .int .i64 d, .slice a bd.length cap, .int .i64 k2, .int .i64 l2, .int .i64 d2, .slice a2 bd2.length cap2] 27)) :
    Below w.heap.size w W ∧ W.heap.size = w.heap.size + 1 ∧ SL W W.heap.size (some ⟨w.heap.size, 0, none⟩) 2 [.mk k l d bd, .mk k2 l2 d2 bd2] := by
  have hb := bal w (.cells #[.int .i64 k, .int .i64 l, .int .i64 d, .slice a bd.length cap, .int .i64 k2, .int .i64 l2, .int .i64 d2, .slice a2 bd2.length cap2] 27)
  have c1 : W.heap[w.heap.size]? = some (.cells #[.int .i64 k, .int .i64 l, .int .i64 d, .slice a bd.length cap, .int .i64 k2, .int .i64 l2, .int .i64 d2, .slice a2 bd2.length cap2] 27) := by rw [hW]; exact blk_new _ _ _
  rw [← hW] at hb
  have hz : W.heap.size = w.heap.size + 1 := by rw [hW]; simp
  exact ⟨hb, hz, SL_two c1 (by omega) (hs.up hb) (hs2.up hb)⟩
theorem EL.take {w : World} {H b : Nat} : ∀ {l : List Fl} {o : Nat} (n : Nat), EL w H b o l → EL w H b o (l.take n)
  | _, _, 0, _ => by simpa using EL_nil
  | [], _, n + 1, _ => by simpa using EL_nil
  | .mk k l d bd :: xs, o, n + 1, h => by
    obtain ⟨h1, h2, h3, h4, h5, h10⟩ := EL_cons.1 h
    rw [List.take_succ_cons]
    exact EL_cons.2 ⟨h1, h2, h3, h4, h5, EL.take n h10⟩
theorem EL.drop {w : World} {H b : Nat} : ∀ {l : List Fl} {o : Nat} (n : Nat), EL w H b o l → EL w H b (o + n * 4) (l.drop n)
  | l, o, 0, h => by simpa using h
  | [], _, n + 1, _ => by simpa using EL_nil
  | .mk k l d bd :: xs, o, n + 1, h => by
    obtain ⟨h1, h2, h3, h4, h5, h10⟩ := EL_cons.1 h
    rw [List.drop_succ_cons, show o + (n + 1) * 4 = o + 4 + n * 4 by omega]
    exact EL.drop n h10
theorem SL.take {w : World} {H cap : Nat} {a : Option Addr} {l : List Fl} (n : Nat) (h : SL w H a cap l) : SL w H a cap (l.take n) := by
  obtain ⟨h1, h2, b, o, h3, h4⟩ := h
  refine ⟨by rw [List.length_take]; omega, by rw [List.length_take]; omega, b, o, fun hn => h3 (by rintro rfl; simp at hn), h4.take n⟩
/-- A row that is copied to a new place together with another. -/
theorem grown_sl {w w' : World} {b1 o1 b2 o2 cap1 c2 : Nat} {l m L : List Fl} {v : Value} (hL : L = l ++ m) (h1 : SL w w.heap.size (some ⟨b1, o1, none⟩) cap1 l) (h2 : SL w w.heap.size (some ⟨b2, o2, none⟩) c2 m) (hl : l ≠ []) (hm : m ≠ [])
    (hbd : L.length * 48 ≤ 140737488355328) (hown : w'.ownsRow w.heap.size 27 4 v (l.length + m.length) (newsOf w b1 o1 (l.length * 4) ++ newsOf w b2 o2 (m.length * 4))) (hgr : w.grownBy w' none) :
    ∃ g cap, v = .slice (some ⟨g, 0, none⟩) L.length cap ∧ SL w' w'.heap.size (some ⟨g, 0, none⟩) cap L ∧ Below w.heap.size w w' := by
  have hb : Below w.heap.size w w' := ⟨hgr.os, hgr.tape, hgr.output, hgr.size, fun k hk => hgr.block k hk (by simp)⟩
  obtain ⟨x1, e1, he1⟩ := h1.en hl
  obtain ⟨x2, e2, he2⟩ := h2.en hm
  obtain ⟨rfl, rfl⟩ : b1 = x1 ∧ o1 = e1 := by simpa using he1.1
  obtain ⟨rfl, rfl⟩ : b2 = x2 ∧ o2 = e2 := by simpa using he2.1
  have hel1 := he1.2
  have hel2 := he2.2
  have hlen : L.length = l.length + m.length := by rw [hL, List.length_append]
  have hm0 : 0 < m.length := List.length_pos_iff.2 hm
  obtain ⟨g, cap, rfl⟩ : ∃ g cap, v = .slice (some ⟨g, 0, none⟩) (l.length + m.length) cap := by
    rcases hown.2 with ⟨_, h0⟩ | ⟨g', cap', cur, h1, _⟩
    · omega
    · exact ⟨g', cap', h1⟩
  obtain ⟨r1, r2, r3, r4⟩ := row4_cell hown
  have n1 := newsOf_len w b1 o1 (l.length * 4)
  have n2 := newsOf_len w b2 o2 (m.length * 4)
  refine ⟨g, cap, by rw [hlen], ⟨by omega, hbd, g, 0, fun _ => rfl, ?_⟩, hb⟩
  rw [hL]
  have hlow : ∀ k, k < w.heap.size → w'.heap[k]? = w.heap[k]? := fun k hk => hb.block k hk
  refine EL_append ?_ ?_
  · refine EL_copy hlow r2 hb.size hel1 fun j hj => ?_
    rw [Nat.zero_add, r4 j (by omega), List.getElem?_append_left (by omega), newsOf_get hj]
    obtain ⟨u, hu, _⟩ := EL_cell hel1 j hj
    rw [hu]; rfl
  · refine EL_copy hlow r2 hb.size hel2 fun j hj => ?_
    rw [Nat.zero_add, r4 (l.length * 4 + j) (by omega), List.getElem?_append_right (by omega), n1, Nat.add_sub_cancel_left, newsOf_get hj]
    obtain ⟨u, hu, _⟩ := EL_cell hel2 j hj
    rw [hu]; rfl
theorem add_any (b o j : Nat) : Addr.add ⟨b, o, none⟩ j = ⟨b, o + j, none⟩ := add_pl ..
/-- An append that has to grow, in a plain list of operations. -/
theorem wpList_grow {w : World} {ops : Array Oper} {rest : List Oper} {o : Oper} {a : Act} {Q : Exit → Act → World → Prop} (hgd : o.guard = none) (s x : Operand)
    (ho : o.op = .call { callee := .builtin .append, args := #[s, x], argTypes := #[22, 22] }) {l m L : List Fl} (hL : L = l ++ m) {b1 o1 b2 o2 cap1 c2 : Nat} (hs : a.eval s = .slice (some ⟨b1, o1, none⟩) l.length cap1) (hx : a.eval x = .slice (some ⟨b2, o2, none⟩) m.length c2)
    (h1 : SL w w.heap.size (some ⟨b1, o1, none⟩) cap1 l) (h2 : SL w w.heap.size (some ⟨b2, o2, none⟩) c2 m) (hl : l ≠ []) (hm : m ≠ []) (hfull : cap1 < l.length + m.length) (hbd : L.length * 48 ≤ 140737488355328)
    (h : ∀ g cap w', SL w' w'.heap.size (some ⟨g, 0, none⟩) cap L → Below w.heap.size w w' → wpList Tryz.prog ops Q rest (a.put o.dst (.slice (some ⟨g, 0, none⟩) L.length cap)) w') : wpList Tryz.prog ops Q (o :: rest) a w := by
  obtain ⟨j, z, hj, hz, hzs, hj1, hj2⟩ := info27
  obtain ⟨x1, e1, he1⟩ := h1.en hl
  obtain ⟨x2, e2, he2⟩ := h2.en hm
  obtain ⟨rfl, rfl⟩ : b1 = x1 ∧ o1 = e1 := by simpa using he1.1
  obtain ⟨rfl, rfl⟩ : b2 = x2 ∧ o2 = e2 := by simpa using he2.1
  have hlen : L.length = l.length + m.length := by rw [hL, List.length_append]
  refine wpList_append_grows w hgd s x 22 ho 27 j z 4 48 Tryz.underlying22 hj hz hj1 hj2 hzs (by decide) (some ⟨b1, o1, none⟩) l.length cap1 (newsOf w b1 o1 (l.length * 4)) hs (fun e => by cases e) (newsOf_len _ _ _ _) (fun b e i u hi => by cases e; exact news_read he1.2 i u hi) ⟨b2, o2, none⟩ m.length c2 (newsOf w b2 o2 (m.length * 4)) hx (newsOf_len _ _ _ _) (news_read he2.2) (news_one he2.2) hfull (by unfold maxLen; omega) (by omega) ?_
  intro v w' hown hgr
  obtain ⟨g, cap, rfl, hsl, hb⟩ := grown_sl hL h1 h2 hl hm hbd hown hgr
  exact h g cap w' hsl hb
/-- The same at a step of a region that draws. -/
theorem step_grow {w : World} {ops : Array Oper} {o : Oper} {a : Act} {K : Act → World → Prop} {Q : Exit → Act → World → Prop} {E : Prop} (hgd : o.guard = none) (s x : Operand)
    (ho : o.op = .call { callee := .builtin .append, args := #[s, x], argTypes := #[22, 22] }) {l m L : List Fl} (hL : L = l ++ m) {b1 o1 b2 o2 cap1 c2 : Nat} (hs : a.eval s = .slice (some ⟨b1, o1, none⟩) l.length cap1) (hx : a.eval x = .slice (some ⟨b2, o2, none⟩) m.length c2)
    (h1 : SL w w.heap.size (some ⟨b1, o1, none⟩) cap1 l) (h2 : SL w w.heap.size (some ⟨b2, o2, none⟩) c2 m) (hl : l ≠ []) (hm : m ≠ []) (hfull : cap1 < l.length + m.length) (hbd : L.length * 48 ≤ 140737488355328)
    (h : ∀ g cap w', SL w' w'.heap.size (some ⟨g, 0, none⟩) cap L → Below w.heap.size w w' → K (a.put o.dst (.slice (some ⟨g, 0, none⟩) L.length cap)) w') :
    if Region.wanted o (yielded ops a.tmps) = true then Oper.wp Tryz.prog o a w K Q else E := by
  obtain ⟨j, z, hj, hz, hzs, hj1, hj2⟩ := info27
  obtain ⟨x1, e1, he1⟩ := h1.en hl
  obtain ⟨x2, e2, he2⟩ := h2.en hm
  obtain ⟨rfl, rfl⟩ : b1 = x1 ∧ o1 = e1 := by simpa using he1.1
  obtain ⟨rfl, rfl⟩ : b2 = x2 ∧ o2 = e2 := by simpa using he2.1
  have hlen : L.length = l.length + m.length := by rw [hL, List.length_append]
  refine step_append_grows hgd s x 22 ho 27 j z 4 48 Tryz.underlying22 hj hz hj1 hj2 hzs (by decide) (some ⟨b1, o1, none⟩) l.length cap1 (newsOf w b1 o1 (l.length * 4)) hs (fun e => by cases e) (newsOf_len _ _ _ _) (fun b e i u hi => by cases e; exact news_read he1.2 i u hi) ⟨b2, o2, none⟩ m.length c2 (newsOf w b2 o2 (m.length * 4)) hx (newsOf_len _ _ _ _) (news_read he2.2) (news_one he2.2) hfull (by unfold maxLen; omega) (by omega) ?_
  intro v w' hown hgr
  obtain ⟨g, cap, rfl, hsl, hb⟩ := grown_sl hL h1 h2 hl hm hbd hown hgr
  exact h g cap w' hsl hb
/-- An append to a row that is owned. -/
theorem wpList_app {w : World} {ops : Array Oper} {rest : List Oper} {o : Oper} {a : Act} {Q : Exit → Act → World → Prop} (hgd : o.guard = none) (s x : Operand)
    (ho : o.op = .call { callee := .builtin .append, args := #[s, x], argTypes := #[22, 22] }) {l m L : List Fl} (hL : L = l ++ m) {B Hn : Nat} {v : Value} (hrw : RW B Hn w v l) {b2 o2 c2 : Nat} (hs : a.eval s = v) (hx : a.eval x = .slice (some ⟨b2, o2, none⟩) m.length c2)
    (h2 : EL w Hn b2 o2 m) (hm : m ≠ []) (hbd : L.length * 48 ≤ 140737488355328) (hB : B ≤ w.heap.size)
    (h : ∀ g cap w', RW B Hn w' (.slice (some ⟨g, 0, none⟩) L.length cap) L → Below B w w' → wpList Tryz.prog ops Q rest (a.put o.dst (.slice (some ⟨g, 0, none⟩) L.length cap)) w') : wpList Tryz.prog ops Q (o :: rest) a w := by
  obtain ⟨j, z, hj, hz, hzs, hj1, hj2⟩ := info27
  obtain ⟨xs, hown⟩ := hrw.own
  have hlen : L.length = l.length + m.length := by rw [hL, List.length_append]
  have hm1 : 0 < m.length := List.length_pos_iff.2 hm
  refine wpList_append_lies w hgd s x 22 ho B 27 j z 4 48 Tryz.underlying22 hj hz hj1 hj2 hzs (by decide) v l.length xs hs hown ⟨b2, o2, none⟩ m.length c2 (newsOf w b2 o2 (m.length * 4)) hx (newsOf_len _ _ _ _) (news_read h2) (news_one h2) hm1 (by unfold maxLen; omega) (by omega) hB w.heap.size rfl ?_
  intro g cap w' hown' hgr _ _
  obtain ⟨q1, q2⟩ := hrw.step hown h2.en hB hown' hgr
  rw [← hL] at q1
  have hh := h g cap w' q1 q2
  rw [hlen] at hh
  exact hh
/-- The same at a step of a region that draws. -/
theorem step_app {w : World} {ops : Array Oper} {o : Oper} {a : Act} {K : Act → World → Prop} {Q : Exit → Act → World → Prop} {E : Prop} (hgd : o.guard = none) (s x : Operand)
    (ho : o.op = .call { callee := .builtin .append, args := #[s, x], argTypes := #[22, 22] }) {l m L : List Fl} (hL : L = l ++ m) {B Hn : Nat} {v : Value} (hrw : RW B Hn w v l) {b2 o2 c2 : Nat} (hs : a.eval s = v) (hx : a.eval x = .slice (some ⟨b2, o2, none⟩) m.length c2)
    (h2 : EL w Hn b2 o2 m) (hm : m ≠ []) (hbd : L.length * 48 ≤ 140737488355328) (hB : B ≤ w.heap.size)
    (h : ∀ g cap w', RW B Hn w' (.slice (some ⟨g, 0, none⟩) L.length cap) L → Below B w w' → K (a.put o.dst (.slice (some ⟨g, 0, none⟩) L.length cap)) w') :
    if Region.wanted o (yielded ops a.tmps) = true then Oper.wp Tryz.prog o a w K Q else E := by
  obtain ⟨j, z, hj, hz, hzs, hj1, hj2⟩ := info27
  obtain ⟨xs, hown⟩ := hrw.own
  have hlen : L.length = l.length + m.length := by rw [hL, List.length_append]
  have hm1 : 0 < m.length := List.length_pos_iff.2 hm
  refine step_append_lies w hgd s x 22 ho B 27 j z 4 48 Tryz.underlying22 hj hz hj1 hj2 hzs (by decide) v l.length xs hs hown ⟨b2, o2, none⟩ m.length c2 (newsOf w b2 o2 (m.length * 4)) hx (newsOf_len _ _ _ _) (news_read h2) (news_one h2) hm1 (by unfold maxLen; omega) (by omega) hB w.heap.size rfl ?_
  intro g cap w' hown' hgr _ _
  obtain ⟨q1, q2⟩ := hrw.step hown h2.en hB hown' hgr
  rw [← hL] at q1
  have hh := h g cap w' q1 q2
  rw [hlen] at hh
  exact hh
end Go.Proofs.YtpodifbgfcclbaaGreatDoor
