/- Statements and some more; a statement with a label. -/
import Derived.Test.YtpodifbgfcclbaaGreatDoorJm1
set_option linter.unusedVariables false
set_option linter.unusedSimpArgs false
namespace Go.Proofs.YtpodifbgfcclbaaGreatDoor
open Go.RowKit
attribute [local go_sem] Nat.lt_add_one_of_lt

theorem add_pl (b o n : Nat) : Addr.add ⟨b, o, none⟩ n = ⟨b, o + n, none⟩ := by
  unfold Addr.add
  split
  · subst_vars; rfl
  · rfl
def newsOf (w : World) (b o n : Nat) : List Value := (List.range n).map fun j => (w.cell? ⟨b, o + j, none⟩).getD .nilIface
theorem newsOf_len (w : World) (b o n : Nat) : (newsOf w b o n).length = n := by simp [newsOf]
theorem newsOf_get {w : World} {b o n j : Nat} (h : j < n) : (newsOf w b o n)[j]? = some ((w.cell? ⟨b, o + j, none⟩).getD .nilIface) := by
  simp [newsOf, h]
theorem EL_cell {w : World} {H b : Nat} : ∀ {l : List Fl} {o : Nat}, EL w H b o l → ∀ j, j < l.length * 4 → ∃ u, w.cell? ⟨b, o + j, none⟩ = some u ∧ u.oneCell' = true
  | [], o, h, j, hj => by simp at hj
  | .mk k l d bd :: xs, o, h, j, hj => by
    obtain ⟨h1, h2, h3, h4, ⟨a, cap, h5, _⟩, h10⟩ := EL_cons.1 h
    match j, hj with
    | 0, _ => exact ⟨_, h2, rfl⟩
    | 1, _ => exact ⟨_, h3, rfl⟩
    | 2, _ => exact ⟨_, h4, rfl⟩
    | 3, _ => exact ⟨_, h5, rfl⟩
    | j + 4, hj =>
      have := EL_cell h10 j (by simp only [List.length_cons] at hj; omega)
      rw [show o + (j + 4) = o + 4 + j by omega]
      exact this
theorem EL_copy {w w' : World} {H H' b g : Nat} (hk : ∀ k, k < H → w'.heap[k]? = w.heap[k]?) (hg : g < H') (hH : H ≤ H') : ∀ {l : List Fl} {o o' : Nat}, EL w H b o l → (∀ j, j < l.length * 4 → w'.cell? ⟨g, o' + j, none⟩ = w.cell? ⟨b, o + j, none⟩) → EL w' H' g o' l
  | [], _, _, _, _ => EL_nil
  | .mk k l d bd :: xs, o, o', h, hc => by
    obtain ⟨h1, h2, h3, h4, ⟨a, cap, h5, h6⟩, h10⟩ := EL_cons.1 h
    have c0 := hc 0 (by simp)
    have c1 := hc 1 (by simp only [List.length_cons]; omega)
    have c2 := hc 2 (by simp only [List.length_cons]; omega)
    have c3 := hc 3 (by simp only [List.length_cons]; omega)
    exact EL_cons.2 ⟨hg, c0.trans h2, c1.trans h3, c2.trans h4, ⟨a, cap, c3.trans h5, h6.keep hk hH⟩, EL_copy hk hg hH h10 fun j hj => by
      have := hc (j + 4) (by simp only [List.length_cons]; omega)
      rw [show o' + (j + 4) = o' + 4 + j by omega, show o + (j + 4) = o + 4 + j by omega] at this
      exact this⟩
theorem EL_append {w : World} {H b : Nat} {m : List Fl} : ∀ {l : List Fl} {o : Nat}, EL w H b o l → EL w H b (o + l.length * 4) m → EL w H b o (l ++ m)
  | [], o, _, h => by simpa using h
  | .mk k l d bd :: xs, o, h, hm => by
    obtain ⟨h1, h2, h3, h4, h5, h10⟩ := EL_cons.1 h
    exact EL_cons.2 ⟨h1, h2, h3, h4, h5, EL_append h10 (by
      rw [List.length_cons] at hm
      rw [show o + 4 + xs.length * 4 = o + (xs.length + 1) * 4 by omega]
      exact hm)⟩
theorem row4_cell {w : World} {base n g cap : Nat} {xs : List Value} (h : w.ownsRow base 27 4 (.slice (some ⟨g, 0, none⟩) n cap) n xs) : base ≤ g ∧ g < w.heap.size ∧ n ≤ cap ∧ ∀ j, j < n * 4 → w.cell? ⟨g, j, none⟩ = xs[j]? := by
  rcases h.2 with ⟨h1, _⟩ | ⟨g', cap', cur, h1, h2, h3, h4, h5, h6, h7⟩
  · cases h1
  · cases h1
    refine ⟨h2, (Array.getElem?_eq_some_iff.1 h3).1, h4, fun j hj => ?_⟩
    rw [blk_cell h3, ← h7, List.getElem?_take, if_pos hj]
    simp
theorem info27 : ∃ j z, Tryz.prog.info? 27 = some j ∧ j.zero = some z ∧ z.cells.size = 4 ∧ j.size = 4 ∧ j.bytes = 48 := by
  have h : (Tryz.prog.info? 27).map (fun j => (j.zero.map (fun z => z.cells.size), j.size, j.bytes)) = some (some 4, 4, 48) := by kernel_rfl
  cases hj : Tryz.prog.info? 27 with
  | none => rw [hj] at h; cases h
  | some j =>
    rw [hj] at h
    simp only [Option.map_some, Option.some.injEq, Prod.mk.injEq] at h
    obtain ⟨h1, h2, h3⟩ := h
    cases hz : j.zero with
    | none => rw [hz] at h1; cases h1
    | some z => rw [hz] at h1; simp at h1; exact ⟨j, z, rfl, hz, h1, h2, h3⟩
/-- Statements at block g whose own lists lie below Hn. -/
def EN (w : World) (Hn g : Nat) : Nat → List Fl → Prop
  | _, [] => True
  | o, .mk k l d bd :: xs => w.cell? ⟨g, o, none⟩ = some (.int .i64 k) ∧ w.cell? ⟨g, o + 1, none⟩ = some (.int .i64 l) ∧ w.cell? ⟨g, o + 2, none⟩ = some (.int .i64 d) ∧ (∃ a cap, w.cell? ⟨g, o + 3, none⟩ = some (.slice a bd.length cap) ∧ SLL w Hn a cap bd) ∧ EN w Hn g (o + 4) xs
theorem EL.en {w : World} {H b : Nat} : ∀ {l : List Fl} {o : Nat}, EL w H b o l → EN w H b o l
  | [], _, _ => trivial
  | .mk k l d bd :: xs, o, h => by
    obtain ⟨h1, h2, h3, h4, h5, h6⟩ := EL_cons.1 h
    exact ⟨h2, h3, h4, h5, EL.en h6⟩
theorem EN.el {w : World} {Hn g H : Nat} (hg : g < H) (hH : Hn ≤ H) : ∀ {l : List Fl} {o : Nat}, EN w Hn g o l → EL w H g o l
  | [], _, _ => EL_nil
  | .mk k l d bd :: xs, o, h => by
    obtain ⟨h2, h3, h4, ⟨a, cap, h5, h6⟩, h7⟩ := h
    exact EL_cons.2 ⟨hg, h2, h3, h4, ⟨a, cap, h5, h6.keep (fun _ _ => rfl) hH⟩, EN.el hg hH h7⟩
theorem EN_cell {w : World} {H b : Nat} : ∀ {l : List Fl} {o : Nat}, EN w H b o l → ∀ j, j < l.length * 4 → ∃ u, w.cell? ⟨b, o + j, none⟩ = some u ∧ u.oneCell' = true
  | [], o, h, j, hj => by simp at hj
  | .mk k l d bd :: xs, o, h, j, hj => by
    obtain ⟨h2, h3, h4, ⟨a, cap, h5, _⟩, h10⟩ := h
    match j, hj with
    | 0, _ => exact ⟨_, h2, rfl⟩
    | 1, _ => exact ⟨_, h3, rfl⟩
    | 2, _ => exact ⟨_, h4, rfl⟩
    | 3, _ => exact ⟨_, h5, rfl⟩
    | j + 4, hj =>
      have := EN_cell h10 j (by simp only [List.length_cons] at hj; omega)
      rw [show o + (j + 4) = o + 4 + j by omega]
      exact this
theorem EN_copy {w w' : World} {Hn b g : Nat} (hk : ∀ k, k < Hn → w'.heap[k]? = w.heap[k]?) : ∀ {l : List Fl} {o o' : Nat}, EN w Hn b o l → (∀ j, j < l.length * 4 → w'.cell? ⟨g, o' + j, none⟩ = w.cell? ⟨b, o + j, none⟩) → EN w' Hn g o' l
  | [], _, _, _, _ => trivial
  | .mk k l d bd :: xs, o, o', h, hc => by
    obtain ⟨h2, h3, h4, ⟨a, cap, h5, h6⟩, h10⟩ := h
    have c0 := hc 0 (by simp)
    have c1 := hc 1 (by simp only [List.length_cons]; omega)
    have c2 := hc 2 (by simp only [List.length_cons]; omega)
    have c3 := hc 3 (by simp only [List.length_cons]; omega)
    exact ⟨c0.trans h2, c1.trans h3, c2.trans h4, ⟨a, cap, c3.trans h5, h6.keep hk (Nat.le_refl _)⟩, EN_copy hk h10 fun j hj => by
      have := hc (j + 4) (by simp only [List.length_cons]; omega)
      rw [show o' + (j + 4) = o' + 4 + j by omega, show o + (j + 4) = o + 4 + j by omega] at this
      exact this⟩
theorem EN_append {w : World} {H b : Nat} {m : List Fl} : ∀ {l : List Fl} {o : Nat}, EN w H b o l → EN w H b (o + l.length * 4) m → EN w H b o (l ++ m)
  | [], o, _, h => by simpa using h
  | .mk k l d bd :: xs, o, h, hm => by
    obtain ⟨h2, h3, h4, h5, h10⟩ := h
    exact ⟨h2, h3, h4, h5, EN_append h10 (by
      rw [List.length_cons] at hm
      rw [show o + 4 + xs.length * 4 = o + (xs.length + 1) * 4 by omega]
      exact hm)⟩
/-- A row of statements that is owned: it lies behind block B, what its statements hold below Hn. -/
structure RW (B Hn : Nat) (w : World) (v : Value) (l : List Fl) : Prop where
  hn : Hn ≤ B
  own : ∃ xs, w.ownsRow B 27 4 v l.length xs
  en : ∀ g, v.ownBlock = some g → EN w Hn g 0 l
theorem RW.nil {B Hn : Nat} {w : World} (h : Hn ≤ B) : RW B Hn w (.slice none 0 0) [] := ⟨h, ⟨[], rfl, .inl ⟨rfl, rfl⟩⟩, fun g e => by cases e⟩
theorem RW.step {B Hn g' cap' b o : Nat} {w w1 : World} {l m : List Fl} {v : Value} {xs : List Value} (h : RW B Hn w v l) (hx : w.ownsRow B 27 4 v l.length xs) (hm : EN w Hn b o m) (hB : B ≤ w.heap.size)
    (hown : w1.ownsRow B 27 4 (.slice (some ⟨g', 0, none⟩) (l.length + m.length) cap') (l.length + m.length) (xs ++ newsOf w b o (m.length * 4))) (hgr : w.grownBy w1 v.ownBlock) :
    RW B Hn w1 (.slice (some ⟨g', 0, none⟩) (l ++ m).length cap') (l ++ m) ∧ Below B w w1 := by
  have hb : Below B w w1 := ⟨hgr.os, hgr.tape, hgr.output, hgr.size, fun k hk => hgr.block k (by omega) fun e => by
    obtain ⟨_, _, _, h3⟩ := row_blk hx e.symm
    have := (row_blk hx e.symm).1
    omega⟩
  have hn := h.hn
  have hlen : xs.length = l.length * 4 := hx.1
  obtain ⟨r1, r2, r3, r4⟩ := row4_cell hown
  refine ⟨⟨hn, ⟨_, by rw [List.length_append]; exact hown⟩, fun g e => ?_⟩, hb⟩
  simp only [Value.ownBlock, Option.map_some, Option.some.injEq] at e
  subst e
  have hlow : ∀ k, k < Hn → w1.heap[k]? = w.heap[k]? := fun k hk => hb.block k (by omega)
  refine EN_append ?_ ?_
  · by_cases hl : l = []
    · subst hl; trivial
    · rcases hx.2 with ⟨_, h0⟩ | ⟨g0, cap0, cur, rfl, _⟩
      · exact absurd (List.length_eq_zero_iff.1 h0) hl
      · have hen := h.en g0 rfl
        obtain ⟨_, _, _, q4⟩ := row4_cell hx
        refine EN_copy hlow hen fun j hj => ?_
        rw [Nat.zero_add, r4 j (by omega), q4 j (by omega), List.getElem?_append_left (by omega)]
  · refine EN_copy hlow hm fun j hj => ?_
    rw [Nat.zero_add, r4 (l.length * 4 + j) (by omega), List.getElem?_append_right (by omega), hlen, Nat.add_sub_cancel_left, newsOf_get hj]
    obtain ⟨u, hu, _⟩ := EN_cell hm j hj
    rw [hu]; rfl
theorem RW.sl {B Hn g n cap : Nat} {w : World} {l : List Fl} (h : RW B Hn w (.slice (some ⟨g, 0, none⟩) n cap) l) (hs : l.length * 48 ≤ 140737488355328) (hB : B ≤ w.heap.size) : SL w w.heap.size (some ⟨g, 0, none⟩) cap l := by
  obtain ⟨xs, hx⟩ := h.own
  have hn := h.hn
  obtain ⟨a', cap', e, h1, _⟩ : ∃ a' cap', Value.slice (some ⟨g, 0, none⟩) n cap = .slice a' l.length cap' ∧ l.length ≤ cap' ∧ True := by
    rcases hx.2 with ⟨e, _⟩ | ⟨g0, cap0, cur, e, _, _, h4, _⟩
    · cases e
    · exact ⟨_, cap0, e, h4, trivial⟩
  cases e
  obtain ⟨r1, r2, r3, r4⟩ := row4_cell hx
  exact ⟨r3, hs, g, 0, fun _ => rfl, EN.el r2 (by omega) (h.en g rfl)⟩
theorem RW.len {B Hn g n cap : Nat} {w : World} {l : List Fl} (h : RW B Hn w (.slice (some ⟨g, 0, none⟩) n cap) l) : n = l.length := by
  obtain ⟨xs, hx⟩ := h.own
  rcases hx.2 with ⟨e, _⟩ | ⟨g0, cap0, cur, e, _⟩
  · cases e
  · cases e; rfl
theorem SL.en {w : World} {H : Nat} {a : Option Addr} {cap : Nat} {l : List Fl} (h : SL w H a cap l) (hl : l ≠ []) : ∃ b o, a = some ⟨b, o, none⟩ ∧ EL w H b o l := by
  obtain ⟨_, _, b, o, h1, h2⟩ := h
  exact ⟨b, o, h1 hl, h2⟩
theorem news_read {w : World} {H b o : Nat} {l : List Fl} (he : EL w H b o l) : ∀ j u, (newsOf w b o (l.length * 4))[j]? = some u → w.cell? (Addr.add ⟨b, o, none⟩ j) = some u := by
  intro i u hi
  have hlt : i < l.length * 4 := by
    have := (List.getElem?_eq_some_iff.1 hi).1
    rwa [newsOf_len] at this
  obtain ⟨u', hu, _⟩ := EL_cell he i hlt
  rw [newsOf_get hlt, hu] at hi
  have hh : u' = u := by simpa using hi
  subst hh
  rw [add_pl]; exact hu
theorem news_one {w : World} {H b o : Nat} {l : List Fl} (he : EL w H b o l) : ∀ u ∈ newsOf w b o (l.length * 4), u.oneCell' = true := by
  intro u hu
  obtain ⟨i, hi⟩ := List.getElem?_of_mem hu
  have hlt : i < l.length * 4 := by
    have := (List.getElem?_eq_some_iff.1 hi).1
    rwa [newsOf_len] at this
  obtain ⟨u', hu', ho⟩ := EL_cell he i hlt
  rw [newsOf_get hlt, hu'] at hi
  have hh : u' = u := by simpa using hi
  subst hh
  exact ho
set_option maxRecDepth 100000 in
set_option maxHeartbeats 4000000 in
theorem with_any (l m : List Fl) (a : Option Addr) (cap : Nat) (a2 : Option Addr) (cap2 : Nat) (w : World) (hs : SL w w.heap.size a cap l) (hs2 : SL w w.heap.size a2 cap2 m) (hm : m ≠ []) (hb : (l.length + m.length) * 48 ≤ 140737488355328) :
    Calls Tryz.prog 24 #[.slice a l.length cap, .slice a2 m.length cap2] w fun e w' => ∃ g cap', e = .returned (.slice (some ⟨g, 0, none⟩) (l ++ m).length cap') ∧ RW w.heap.size w.heap.size w' (.slice (some ⟨g, 0, none⟩) (l ++ m).length cap') (l ++ m) ∧ Below w.heap.size w w' := by
  obtain ⟨j, z, hj, hz, hzs, hj1, hj2⟩ := info27
  obtain ⟨b2, o2, rfl, he2⟩ := hs2.en hm
  have hm1 : 0 < m.length := List.length_pos_iff.2 hm
  have hrm : ∀ (W : World), Below w.heap.size w W → EN W w.heap.size b2 o2 m ∧ EL W w.heap.size b2 o2 m := fun W hbW => ⟨(he2.keep (fun k hk => hbW.block k hk) (Nat.le_refl _)).en, he2.keep (fun k hk => hbW.block k hk) (Nat.le_refl _)⟩
  by_cases hl : l = []
  · subst hl
    obtain ⟨hen2, hel2⟩ := hrm w (Below.refl _ _)
    have HEN2 := Lib.hid hen2
    have HEL2 := Lib.hid hel2
    clear hs hs2 he2 hrm hen2 hel2
    cases a
    all_goals
      go_enter Tryz.func24, Tryz.ntmps24
      go_wp2_with (at_builtin; refine wpList_append_lies _ rfl _ _ 22 rfl w.heap.size 27 j z 4 48 Tryz.underlying22 hj hz hj1 hj2 hzs (by decide) (.slice none 0 0) 0 [] (by rfl) ⟨rfl, .inl ⟨rfl, rfl⟩⟩ ⟨b2, o2, none⟩ m.length cap2 (newsOf w b2 o2 (m.length * 4)) (by rfl) (newsOf_len _ _ _ _) ?d1 ?d2 hm1 ?d3 ?d4 ?d5 w.heap.size rfl ?_)
      case d1 => exact news_read HEL2.out
      case d2 => exact news_one HEL2.out
      case d3 => unfold maxLen; omega
      case d4 => omega
      case d5 => exact Nat.le_refl _
      intro g1 cap1 w1 hown1 hgr1 hat1 hlt1
      have hnil : RW w.heap.size w.heap.size w (.slice none 0 0) [] := RW.nil (Nat.le_refl _)
      obtain ⟨hrw1, hb1⟩ := hnil.step (xs := []) (g' := g1) (cap' := cap1) (w1 := w1) ⟨rfl, .inl ⟨rfl, rfl⟩⟩ HEN2.out (Nat.le_refl _) (by simpa using hown1) hgr1
      rw [List.nil_append] at hrw1
      have HRW1 := Lib.hid hrw1
      have HB1 := Lib.hid hb1
      clear hrw1 hb1 hown1 hgr1 hat1 hnil
      go_wp2_with fail
      go_ret
      exact ⟨g1, cap1, rfl, HRW1.out, HB1.out⟩
  · obtain ⟨b1, o1, rfl, he1⟩ := hs.en hl
    have hl1 : 0 < l.length := List.length_pos_iff.2 hl
    have HE1 := Lib.hid he1
    have HRM := Lib.hid hrm
    clear hs hs2 he1 he2 hrm
    go_enter Tryz.func24, Tryz.ntmps24
    go_wp2_with (at_builtin; refine wpList_append_lies _ rfl _ _ 22 rfl w.heap.size 27 j z 4 48 Tryz.underlying22 hj hz hj1 hj2 hzs (by decide) (.slice none 0 0) 0 [] (by rfl) ⟨rfl, .inl ⟨rfl, rfl⟩⟩ ⟨b1, o1, none⟩ l.length cap (newsOf w b1 o1 (l.length * 4)) (by rfl) (newsOf_len _ _ _ _) ?c1 ?c2 hl1 ?c3 ?c4 ?c5 w.heap.size rfl ?_)
    case c1 => exact news_read HE1.out
    case c2 => exact news_one HE1.out
    case c3 => unfold maxLen; omega
    case c4 => omega
    case c5 => exact Nat.le_refl _
    intro g1 cap1 w1 hown1 hgr1 hat1 hlt1
    have hnil : RW w.heap.size w.heap.size w (.slice none 0 0) [] := RW.nil (Nat.le_refl _)
    obtain ⟨hrw1, hb1⟩ := hnil.step (xs := []) (g' := g1) (cap' := cap1) (w1 := w1) ⟨rfl, .inl ⟨rfl, rfl⟩⟩ HE1.out.en (Nat.le_refl _) (by simpa using hown1) hgr1
    rw [List.nil_append] at hrw1
    obtain ⟨xs1, hx1⟩ := hrw1.own
    obtain ⟨hen2, hel2⟩ := HRM.out w1 hb1
    have hsz1 : w.heap.size ≤ w1.heap.size := hb1.size
    have HRW1 := Lib.hid hrw1
    have HX1 := Lib.hid hx1
    have HB1 := Lib.hid hb1
    have HEN2 := Lib.hid hen2
    have HEL2 := Lib.hid hel2
    clear hrw1 hx1 hb1 hen2 hel2 hown1 hgr1 hat1 hnil
    go_wp2_with (at_builtin; refine wpList_append_lies _ rfl _ _ 22 rfl w.heap.size 27 j z 4 48 Tryz.underlying22 hj hz hj1 hj2 hzs (by decide) (.slice (some ⟨g1, 0, none⟩) l.length cap1) l.length xs1 (by rfl) HX1.out ⟨b2, o2, none⟩ m.length cap2 (newsOf w1 b2 o2 (m.length * 4)) (by rfl) (newsOf_len _ _ _ _) ?d1 ?d2 hm1 ?d3 ?d4 ?d5 w1.heap.size rfl ?_)
    case d1 => exact news_read HEL2.out
    case d2 => exact news_one HEL2.out
    case d3 => unfold maxLen; omega
    case d4 => omega
    case d5 => exact hsz1
    intro g2 cap2' w2 hown2 hgr2 hat2 hlt2
    obtain ⟨hrw2, hb2⟩ := HRW1.out.step HX1.out HEN2.out hsz1 hown2 hgr2
    have HRW2 := Lib.hid hrw2
    have HB2 := Lib.hid hb2
    clear hrw2 hb2 hown2 hgr2 hat2
    go_wp2_with fail
    go_ret
    exact ⟨g2, cap2', by rw [List.length_append]; rfl, HRW2.out, HB1.out.trans HB2.out⟩
end Go.Proofs.YtpodifbgfcclbaaGreatDoor
