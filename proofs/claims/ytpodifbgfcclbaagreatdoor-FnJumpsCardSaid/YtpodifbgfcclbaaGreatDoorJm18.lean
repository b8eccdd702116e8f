/- A label is declared: what the state is then. -/
import Derived.Test.YtpodifbgfcclbaaGreatDoorJm15
set_option linter.unusedVariables false
set_option linter.unusedSimpArgs false
namespace Go.Proofs.YtpodifbgfcclbaaGreatDoor
open Go.RowKit
attribute [local go_sem] Nat.lt_add_one_of_lt

theorem take_succ_of {α : Type} {l : List α} {k : Nat} {x : α} (h : l[k]? = some x) : l.take (k + 1) = l.take k ++ [x] := by
  rw [List.take_add_one, h]; rfl
theorem row_set {w : World} {base e n g cap : Nat} {xs : List Value} (h : w.ownsRow base e 1 (.slice (some ⟨g, 0, none⟩) n cap) n xs) (i : Nat) (v : Value) : (w.setCell ⟨g, i, none⟩ v).ownsRow base e 1 (.slice (some ⟨g, 0, none⟩) n cap) n (xs.set i v) := by
  refine ⟨by rw [List.length_set]; exact h.1, ?_⟩
  rcases h.2 with ⟨h1, _⟩ | ⟨g', cap', cur, h1, h2, h3, h4, h5, h6, h7⟩
  · cases h1
  · cases h1
    refine .inr ⟨g, cap, _, rfl, h2, blk_set h3 v, h4, h5, by rw [Array.size_setIfInBounds]; exact h6, ?_⟩
    rw [← h7, Array.toList_setIfInBounds, List.take_set]
theorem LSt.alloc {lo H0 C A M0 n : Nat} {up : List BE} {lst : CUR} {gd : GD} {rep : Nat} {labs : List Int} {fs : List (Nat × Int)} {bs : List Nat} {w : World} (h : LSt lo H0 C A M0 n up lst gd rep labs fs bs w) (o : Obj) : LSt lo H0 C A M0 n up lst gd rep labs fs bs (w.alloc o) :=
  h.nested (h.g.alloc o) ((GF.refl _ _ _ w).alloc h.g.sz (Nat.le_refl _) o) fun _ h => h
theorem LSt.lt {lo H0 C A M0 n : Nat} {up : List BE} {lst : CUR} {gd : GD} {rep : Nat} {labs : List Int} {fs : List (Nat × Int)} {bs : List Nat} {w : World} (h : LSt lo H0 C A M0 n up lst gd rep labs fs bs w) : n + 10 < w.heap.size := (Array.getElem?_eq_some_iff.1 h.fc.z10).1
theorem GSt.fresh {H0 C A M0 k : Nat} {gd : GD} {w : World} (h : GSt H0 C A M0 gd k w) {L : Nat} (hL : w.heap.size ≤ L) : ¬ L ∈ gd.map fun e => e.2.2 := by
  intro hh
  obtain ⟨e, he, rfl⟩ := List.mem_map.1 hh
  obtain ⟨_, _, _, p, h4⟩ := h.lab e he
  have := (Array.getElem?_eq_some_iff.1 h4).1
  omega
/-- The label is put into its block. -/
theorem LSt.put {lo H0 C A M0 n : Nat} {up : List BE} {lst : CUR} {gd : GD} {rep : Nat} {labs : List Int} {fs : List (Nat × Int)} {bs : List Nat} {w w' : World} (h : LSt lo H0 C A M0 n up lst gd rep labs fs bs w) {l : Int} {lm : Option Nat} (hl : l ∈ keysG gd)
    (h0 : w.heap[n + 2]? = some (.cells #[ptr (headB up), ptr (lst.map fun x => x.1), .map lm] 159)) (hlm : LM w n M0 w.heap.size lm labs)
    (h1 : ∃ lm', w'.heap[n + 2]? = some (.cells #[ptr (headB up), ptr (lst.map fun x => x.1), .map lm'] 159) ∧ LM w' n M0 w'.heap.size lm' (labs ++ [l]))
    (ho : w'.os = w.os) (ht : w'.tape = w.tape) (hu : w'.output = w.output) (hsz : w.heap.size ≤ w'.heap.size) (hk : ∀ j, j < w.heap.size → j ≠ n + 2 → some j ≠ lm → w'.heap[j]? = w.heap[j]?) :
    LSt lo H0 C A M0 n up lst gd rep (labs ++ [l]) fs bs w' ∧ GF H0 M0 n w w' := by
  have hH := h.hH
  have hM := h.hM
  have hlt := h.lt
  have hml : ∀ m, lm = some m → n ≤ m ∧ m ≠ M0 ∧ ∃ es clk, w.heap[m]? = some (.map es clk) := by
    rintro m rfl
    obtain ⟨_, g1, g2, g3, ks, _, es, clk, g4, _⟩ := hlm
    exact ⟨g1, g3, es, clk, g4⟩
  have hcells : ∀ (j : Nat) (cs : Array Value) (T : Nat) (f : Nat × Nat), w.heap[j]? = some (.cells cs T f) → j ≠ n + 2 → w'.heap[j]? = w.heap[j]? := fun j cs T f hj hn => hk j (Array.getElem?_eq_some_iff.1 hj).1 hn fun e => by
    obtain ⟨_, _, es, clk, hm⟩ := hml j e.symm
    rw [hj] at hm; cases hm
  have hlow : ∀ j, j < n → w'.heap[j]? = w.heap[j]? := fun j hj => hk j (by omega) (by omega) fun e => by
    have := (hml j e.symm).1; omega
  have hgx : ∀ j, Gx M0 w j → w'.heap[j]? = w.heap[j]? := by
    rintro j (rfl | ⟨cs, T, f, hj, hT⟩)
    · exact hlow _ hM
    · refine hcells j cs T f hj ?_
      rintro rfl
      rw [h0] at hj; cases hj; simp at hT
  have hfc : ∀ (j : Nat) (cs : Array Value) (T : Nat), n ≤ j → w.heap[j]? = some (.cells cs T) → T = 69 ∨ T = 91 ∨ T = 155 ∨ T = 160 ∨ T = 162 ∨ T = 163 ∨ T = 164 → w'.heap[j]? = w.heap[j]? := fun j cs T _ hj hT => hcells j cs T _ hj (by rintro rfl; rw [h0] at hj; cases hj; simp at hT)
  have hlv : ∀ (j : Nat) (cs : Array Value) (T : Nat), n ≤ j → w.heap[j]? = some (.cells cs T) → T = 45 ∨ T = 93 ∨ T = 95 → w'.heap[j]? = w.heap[j]? := fun j cs T _ hj hT => hcells j cs T _ hj (by rintro rfl; rw [h0] at hj; cases hj; simp at hT)
  refine ⟨⟨h.g.keep hsz hgx, h.fc.keep hfc, h.lv.keep hlv, Ch.keep (Nat.le_refl _) (fun j hj => hlow j (by omega)) (fun j hj _ => hlow j hj) h.ch, h1, fun x hx => (h.ls x hx).keep fun j hj => hlow j (by omega), hM, hH, fun x hx => (h.gt x hx).keep fun j hj => hlow j (by omega), fun b hb => ⟨(h.gb b hb).1, (h.gb b hb).2.low (h.gb b hb).1 fun j hj => hlow j (by omega)⟩, ?_, h.sg, h.st⟩,
    ⟨ho, ht, hu, hsz, fun j hj => hlow j (by omega), fun j hj _ => hlow j hj⟩⟩
  intro m hm
  rcases List.mem_append.1 hm with hm | hm
  · exact h.sl m hm
  · simp at hm; subst hm; exact hl
/-- Something is reported about the label, whose block stays. -/
theorem LSt.rep1 {lo H0 C A M0 n : Nat} {up : List BE} {lst : CUR} {gd : GD} {rep : Nat} {labs : List Int} {fs : List (Nat × Int)} {bs : List Nat} {w w' : World} (h : LSt lo H0 C A M0 n up lst gd rep labs fs bs w) (hc : Chk H0 C (rep + 1) w') (hf : ChkF H0 C w w') :
    LSt lo H0 C A M0 n up lst gd (rep + 1) labs fs bs w' ∧ GF H0 M0 n w w' := by
  have hlt := h.lt
  have hgf : GF H0 M0 w.heap.size w w' := hf.gf h.g.chk h.g.sz (Nat.le_refl _)
  exact ⟨h.nested (h.g.reported hc hf) hgf fun _ h => h, hgf.mono (by omega)⟩
/-- The label in its block, and what marks it as used. -/
def LabI (H0 l' : Nat) (l : Int) (p : Int) (tw : Bool) (gd1 gdk : GD) (hit : Bool) (w : World) : Prop :=
  H0 ≤ l' ∧ (∃ u, w.heap[l']? = some (.cells #[.int .i64 p, .string (nm l), .bool u] 107)) ∧ (if tw then gdk = gd1 ∧ ¬ l' ∈ gd1.map fun e => e.2.2 else gdk = (if hit then useG l gd1 else gd1) ∧ ∃ u, (l, u, l') ∈ gdk)
theorem useG_twice (l : Int) (gd : GD) : useG l (useG l gd) = useG l gd := by
  unfold useG
  rw [List.map_map]
  refine List.map_congr_left fun e _ => ?_
  simp only [Function.comp]
  split
  · simp
  · rename_i h; simp [h]
theorem keys_useG (l : Int) (gd : GD) : keysG (useG l gd) = keysG gd := useG_map _ _ _ fun _ _ _ _ => rfl
/-- A store to a label that is not among the declared ones. -/
theorem GSt.other {H0 C A M0 k L : Nat} {gd : GD} {w : World} {cs : Array Value} (h : GSt H0 C A M0 gd k w) (hL : w.heap[L]? = some (.cells cs 107)) (hn : ¬ L ∈ gd.map fun e => e.2.2) (v : Value) : GSt H0 C A M0 gd k (w.setCell ⟨L, 2, none⟩ v) := by
  have hk : ∀ (j : Nat), j ≠ L → (w.setCell ⟨L, 2, none⟩ v).heap[j]? = w.heap[j]? := fun j hj => blk_far _ hj
  have hne : ∀ (j : Nat) (cs' : Array Value) (T : Nat) (f : Nat × Nat), w.heap[j]? = some (.cells cs' T f) → T ≠ 107 → j ≠ L := by
    rintro j cs' T f hj hT rfl
    rw [hL] at hj; cases hj; exact hT rfl
  refine ⟨h.chk.keep fun j cs' T f hj hT => hk j (hne j cs' T f hj (by omega)), ?_, ?_, ?_, h.nod, h.key, h.hA, h.hM, by have := h.sz; simpa using this⟩
  · obtain ⟨v', h1, h2⟩ := h.scp
    refine ⟨v', (hk A (hne _ _ _ _ h1 (by decide))).trans h1, row_keep h2 fun g hg => ?_⟩
    obtain ⟨_, _, cs', h3⟩ := row_blk h2 hg
    exact hk g (hne _ _ _ _ h3 (by decide))
  · refine h.map.keep (hk M0 ?_)
    rintro rfl
    obtain ⟨es, clk, hm, _⟩ := h.map
    rw [hL] at hm; cases hm
  · intro e he
    obtain ⟨h1, h2, h3, p, h4⟩ := h.lab e he
    refine ⟨h1, h2, h3, p, (hk _ ?_).trans h4⟩
    rintro rfl
    exact hn (List.mem_map.2 ⟨e, he, rfl⟩)
/-- The label is marked as used. -/
theorem LSt.mark {lo H0 C A M0 n : Nat} {up : List BE} {lst : CUR} {gd1 gdk : GD} {rep : Nat} {labs : List Int} {fs : List (Nat × Int)} {bs : List Nat} {w : World} (h : LSt lo H0 C A M0 n up lst gdk rep labs fs bs w) {L : Nat} {l p : Int} {tw hit : Bool} (hl : LabI H0 L l p tw gd1 gdk hit w) :
    ∃ gd', LSt lo H0 C A M0 n up lst gd' rep labs fs bs (w.setCell ⟨L, 2, none⟩ (.bool true)) ∧ LabI H0 L l p tw gd1 gd' true (w.setCell ⟨L, 2, none⟩ (.bool true)) ∧ GF H0 M0 n w (w.setCell ⟨L, 2, none⟩ (.bool true)) ∧ keysG gd' = keysG gdk := by
  obtain ⟨h0, ⟨u, hL⟩, ht⟩ := hl
  have hlt := h.lt
  have hgf : GF H0 M0 w.heap.size w (w.setCell ⟨L, 2, none⟩ (.bool true)) := (GF.refl _ _ _ w).setCell h0 (.inr (.inr ⟨_, _, _, hL, by simp⟩)) _
  have hL' : ∃ u, (w.setCell ⟨L, 2, none⟩ (.bool true)).heap[L]? = some (.cells #[.int .i64 p, .string (nm l), .bool u] 107) := ⟨true, by rw [blk_set hL]; rfl⟩
  cases tw with
  | true =>
    obtain ⟨rfl, hn⟩ := ht
    exact ⟨gdk, h.nested (h.g.other hL hn _) hgf (fun _ h => h), ⟨h0, hL', rfl, hn⟩, hgf.mono (by omega), rfl⟩
  | false =>
    obtain ⟨he, u', hm⟩ := ht
    have hg := h.g.used hm
    refine ⟨useG l gdk, h.nested hg hgf (fun a ha => by show a ∈ keysG (useG l gdk); rw [keys_useG]; exact ha), ⟨h0, hL', ?_, true, ?_⟩, hgf.mono (by omega), keys_useG _ _⟩
    · rw [he]
      cases hit
      · rfl
      · simp only [if_true]; exact useG_twice l gd1
    · exact List.mem_map.2 ⟨_, hm, by simp⟩
/-- The label's block goes on lying there. -/
theorem LabI.keep {H0 L : Nat} {l p : Int} {tw hit : Bool} {gd1 gdk : GD} {w w' : World} (h : LabI H0 L l p tw gd1 gdk hit w) (hk : ∀ cs, w.heap[L]? = some (.cells cs 107) → w'.heap[L]? = w.heap[L]?) : LabI H0 L l p tw gd1 gdk hit w' := by
  obtain ⟨h0, ⟨u, hL⟩, ht⟩ := h
  exact ⟨h0, ⟨u, (hk _ hL).trans hL⟩, ht⟩
/-- One jump of the row is overwritten by one from behind. -/
theorem LSt.move {lo H0 C A M0 n : Nat} {up : List BE} {lst : CUR} {gd : GD} {rep : Nat} {labs : List Int} {fs fs' : List (Nat × Int)} {bs : List Nat} {w : World} (h : LSt lo H0 C A M0 n up lst gd rep labs fs bs w) {g i m cap : Nat} {x : Nat × Int} (hm : fs.length = m) (h5 : w.heap[n + 5]? = some (.cells #[.slice (some ⟨g, 0, none⟩) m cap] 93)) (hf : fs' = fs.set i x) (hx : GT w lo H0 x.1 x.2) :
    LSt lo H0 C A M0 n up lst gd rep labs fs' bs (w.setCell ⟨g, i, none⟩ (.pointer (some ⟨x.1, 0, none⟩))) ∧ GF H0 M0 n w (w.setCell ⟨g, i, none⟩ (.pointer (some ⟨x.1, 0, none⟩))) := by
  subst hf
  obtain ⟨p, vf, vb, h4, h1, h5', h2, h6, h3, hd⟩ := h.lv
  rw [h5] at h5'
  cases h5'
  obtain ⟨r1, r2, cs, r3⟩ := row_blk h2 rfl
  have hk : ∀ j, j ≠ g → (w.setCell ⟨g, i, none⟩ (.pointer (some ⟨x.1, 0, none⟩))).heap[j]? = w.heap[j]? := fun j hj => blk_far _ hj
  have hne : ∀ (j : Nat) (cs' : Array Value) (T : Nat) (f : Nat × Nat), w.heap[j]? = some (.cells cs' T f) → T ≠ 95 → j ≠ g := by
    rintro j cs' T f hj hT rfl
    rw [r3] at hj; cases hj; exact hT rfl
  refine h.own ⟨rfl, rfl, rfl, by simp, fun j _ _ _ _ h95 => hk j ?_⟩ ⟨p, _, vb, (hk _ (hne _ _ _ _ h4 (by decide))).trans h4, h1, ?_, ?_, (hk _ (hne _ _ _ _ h6 (by decide))).trans h6, row_keep h3 fun g' hg' => ?_, hd⟩ (fun y hy => ?_) h.gb
  · rintro rfl
    exact h95 r1 cs _ r3
  · exact (hk _ (hne _ _ _ _ h5 (by decide))).trans h5
  · have h2' : w.ownsRow n 95 1 (.slice (some ⟨g, 0, none⟩) m cap) m (ptrs (fs.map Prod.fst)) := by
      rw [List.length_map, hm] at h2; exact h2
    have := row_set h2' i (.pointer (some ⟨x.1, 0, none⟩))
    rw [List.length_map, List.length_set, hm]
    have e : ptrs ((fs.set i x).map Prod.fst) = (ptrs (fs.map Prod.fst)).set i (.pointer (some ⟨x.1, 0, none⟩)) := by
      simp [ptrs, List.map_set]
    rw [e]
    exact this
  · refine hk g' ?_
    rintro rfl
    rcases hd with hd | hd
    · cases hd
    · exact hd (by rw [hg']; rfl)
  · rcases List.mem_or_eq_of_mem_set hy with hy | rfl
    · exact h.gt y hy
    · exact hx
/-- The row is cut. -/
theorem LSt.cut {lo H0 C A M0 n : Nat} {up : List BE} {lst : CUR} {gd : GD} {rep : Nat} {labs : List Int} {fs : List (Nat × Int)} {bs : List Nat} {w : World} (h : LSt lo H0 C A M0 n up lst gd rep labs fs bs w) {sa : Option Addr} {i m cap : Nat} (hm : fs.length = m) (h5 : w.heap[n + 5]? = some (.cells #[.slice sa m cap] 93)) (hi : i ≤ m) :
    LSt lo H0 C A M0 n up lst gd rep labs (fs.take i) bs (w.setCell ⟨n + 5, 0, none⟩ (.slice sa i cap)) ∧ GF H0 M0 n w (w.setCell ⟨n + 5, 0, none⟩ (.slice sa i cap)) := by
  obtain ⟨p, vf, vb, h4, h1, h5', h2, h6, h3, hd⟩ := h.lv
  rw [h5] at h5'
  cases h5'
  have hk : ∀ j, j ≠ n + 5 → (w.setCell ⟨n + 5, 0, none⟩ (.slice sa i cap)).heap[j]? = w.heap[j]? := fun j hj => blk_far _ hj
  have hown : (Value.slice sa i cap).ownBlock = (Value.slice sa m cap).ownBlock := by cases sa <;> rfl
  have hbl : ∀ {v : Value} {k : Nat} {xs : List Value} {g : Nat}, w.ownsRow n 95 1 v k xs → v.ownBlock = some g → g ≠ n + 5 := by
    rintro v k xs g hr hg rfl
    obtain ⟨_, _, cs, r⟩ := row_blk hr hg
    rw [h5] at r; cases r
  refine h.own ⟨rfl, rfl, rfl, by simp, fun j _ _ h55 _ _ => hk j h55⟩ ⟨p, .slice sa i cap, vb, (hk _ (by omega)).trans h4, h1, ?_, ?_, (hk _ (by omega)).trans h6, row_keep h3 fun g hg => hk g (hbl h3 hg), by rw [hown]; exact hd⟩ (fun y hy => h.gt y (List.mem_of_mem_take hy)) h.gb
  · rw [blk_set h5]; rfl
  · rw [List.length_map, hm] at h2
    have := row_cut h2 hi
    have e1 : ((fs.take i).map Prod.fst).length = i := by rw [List.length_map, List.length_take]; omega
    have e2 : ptrs ((fs.take i).map Prod.fst) = (ptrs (fs.map Prod.fst)).take i := by simp [ptrs, List.map_take]
    rw [e1, e2]
    exact row_keep this fun g hg => hk g (hbl this hg)

/-! The loop over the jumps ahead. -/
def keptF (l : Int) (fs : List (Nat × Int)) (k : Nat) : List (Nat × Int) := (fs.take k).filter fun x => !(x.2 == l)
def hitF (l : Int) (fs : List (Nat × Int)) (k : Nat) : Bool := (fs.take k).any fun x => x.2 == l
def cntF (l : Int) (fs : List (Nat × Int)) (bs : List Nat) (k : Nat) : Nat := ((fs.take k).filter fun x => x.2 == l && hasN bs x.1).length
theorem kept_len (l : Int) (fs : List (Nat × Int)) (k : Nat) (hk : k ≤ fs.length) : (keptF l fs k).length ≤ k := by
  have := List.length_filter_le (fun x : Nat × Int => !(x.2 == l)) (fs.take k)
  rw [List.length_take] at this
  unfold keptF; omega
theorem loop_hit {l : Int} {fs : List (Nat × Int)} {bs : List Nat} {k : Nat} {x : Nat × Int} (h : fs[k]? = some x) (hx : x.2 = l) : keptF l fs (k + 1) = keptF l fs k ∧ hitF l fs (k + 1) = true ∧ cntF l fs bs (k + 1) = cntF l fs bs k + if hasN bs x.1 then 1 else 0 := by
  unfold keptF hitF cntF
  rw [take_succ_of h]
  simp only [List.filter_append, List.any_append, List.length_append]
  refine ⟨?_, ?_, ?_⟩
  · simp [hx]
  · simp [hx]
  · by_cases hb : hasN bs x.1 = true
    · simp [hx, hb]
    · simp [hx, hb]
theorem loop_miss {l : Int} {fs : List (Nat × Int)} {bs : List Nat} {k : Nat} {x : Nat × Int} (h : fs[k]? = some x) (hx : x.2 ≠ l) : keptF l fs (k + 1) = keptF l fs k ++ [x] ∧ hitF l fs (k + 1) = hitF l fs k ∧ cntF l fs bs (k + 1) = cntF l fs bs k := by
  unfold keptF hitF cntF
  rw [take_succ_of h]
  simp only [List.filter_append, List.any_append, List.length_append]
  refine ⟨?_, ?_, ?_⟩
  · simp [hx]
  · simp [hx]
  · simp [hx]
theorem kept_at {l : Int} {fs : List (Nat × Int)} {k : Nat} {x : Nat × Int} (h : fs[k]? = some x) (hk : k ≤ fs.length) : (keptF l fs k ++ fs.drop (keptF l fs k).length)[k]? = some x := by
  have hl := kept_len l fs k hk
  rw [List.getElem?_append_right hl, List.getElem?_drop]
  rw [show (keptF l fs k).length + (k - (keptF l fs k).length) = k by omega]
  exact h
theorem kept_set {l : Int} {fs : List (Nat × Int)} {k : Nat} {x : Nat × Int} (hk : k < fs.length) : (keptF l fs k ++ fs.drop (keptF l fs k).length).set (keptF l fs k).length x = (keptF l fs k ++ [x]) ++ fs.drop (keptF l fs k ++ [x]).length := by
  have hl := kept_len l fs k (by omega)
  generalize keptF l fs k = ks at *
  rw [List.set_append_right _ _ (Nat.le_refl _), Nat.sub_self, List.append_assoc]
  congr 1
  have : fs.drop ks.length = fs[ks.length] :: fs.drop (ks.length + 1) := List.drop_eq_getElem_cons (by omega)
  rw [this, List.set_cons_zero, List.length_append]
  rfl
theorem kept_total {l : Int} {fs : List (Nat × Int)} {k : Nat} (hk : k ≤ fs.length) : (keptF l fs k ++ fs.drop (keptF l fs k).length).length = fs.length := by
  have hl := kept_len l fs k hk
  rw [List.length_append, List.length_drop]; omega
/-- In round k of the loop. -/
structure LbI (lo H0 C A M0 n : Nat) (up : List BE) (lst : CUR) (gd1 : GD) (rep1 : Nat) (labs : List Int) (fs : List (Nat × Int)) (bs : List Nat) (L : Nat) (l p : Int) (tw : Bool) (vf : Value) (w1 : World) (k : Nat) (wr : World) : Prop where
  ex : ∃ gdk, LSt lo H0 C A M0 n up lst gdk (rep1 + cntF l fs bs k) labs (keptF l fs k ++ fs.drop (keptF l fs k).length) bs wr ∧ LabI H0 L l p tw gd1 gdk (hitF l fs k) wr ∧ keysG gdk = keysG gd1
  gf : GF H0 M0 n w1 wr
  f5 : wr.heap[n + 5]? = some (.cells #[vf] 93)
  le : k ≤ fs.length
theorem LbI.start {lo H0 C A M0 n : Nat} {up : List BE} {lst : CUR} {gd1 : GD} {rep1 : Nat} {labs : List Int} {fs : List (Nat × Int)} {bs : List Nat} {L : Nat} {l p : Int} {tw : Bool} {vf : Value} {w1 : World} (h : LSt lo H0 C A M0 n up lst gd1 rep1 labs fs bs w1) (hl : LabI H0 L l p tw gd1 gd1 false w1) (h5 : w1.heap[n + 5]? = some (.cells #[vf] 93)) :
    LbI lo H0 C A M0 n up lst gd1 rep1 labs fs bs L l p tw vf w1 0 w1 :=
  ⟨⟨gd1, by simpa [keptF, cntF] using h, by simpa [hitF] using hl, rfl⟩, GF.refl _ _ _ _, h5, Nat.zero_le _⟩

theorem LSt.drew' {lo H0 C A M0 n : Nat} {up : List BE} {lst : CUR} {gd : GD} {rep : Nat} {labs : List Int} {fs : List (Nat × Int)} {bs : List Nat} {w : World} (h : LSt lo H0 C A M0 n up lst gd rep labs fs bs w) : LSt lo H0 C A M0 n up lst gd rep labs fs bs w.drew :=
  h.nested h.g.drew (GF.refl _ _ _ w).drew fun _ h => h
theorem LSt.drewN {lo H0 C A M0 n : Nat} {up : List BE} {lst : CUR} {gd : GD} {rep : Nat} {labs : List Int} {fs : List (Nat × Int)} {bs : List Nat} {w : World} (h : LSt lo H0 C A M0 n up lst gd rep labs fs bs w) (m : Nat) : LSt lo H0 C A M0 n up lst gd rep labs fs bs (w.drewN m) :=
  h.nested (h.g.drewN m) ((GF.refl _ _ _ w).drewN m) fun _ h => h
theorem LV.len {n : Nat} {fs bs : List Nat} {w : World} (h : LV n fs bs w) : bs.length ≤ 9223372036854775807 := by
  obtain ⟨p, vf, vb, _, _, _, _, _, h3, _⟩ := h
  obtain ⟨_, cap, _, h1, h2⟩ := row_form h3
  unfold maxLen at h2
  omega
/-- What is read in a round. -/
theorem LbI.read {lo H0 C A M0 n : Nat} {up : List BE} {lst : CUR} {gd1 : GD} {rep1 : Nat} {labs : List Int} {fs : List (Nat × Int)} {bs : List Nat} {L : Nat} {l p : Int} {tw : Bool} {af : Option Addr} {capf : Nat} {w1 : World} {k : Nat} {wr : World} (h : LbI lo H0 C A M0 n up lst gd1 rep1 labs fs bs L l p tw (.slice af fs.length capf) w1 k wr) (hk : k < fs.length) :
    ∃ (g : Nat) (x : Nat × Int) (ii : Nat) (q : Int), af = some ⟨g, 0, none⟩ ∧ fs[k]? = some x ∧ g < wr.heap.size ∧ wr.cell? ⟨g, k, none⟩ = some (.pointer (some ⟨x.1, 0, none⟩)) ∧ (∃ v, wr.cell? ⟨g, (keptF l fs k).length, none⟩ = some v) ∧ wr.frozen? ⟨g, (keptF l fs k).length, none⟩ = false ∧
      x.1 < H0 ∧ ii < H0 ∧ wr.cell? ⟨x.1, 2, none⟩ = some (.pointer (some ⟨ii, 0, none⟩)) ∧ wr.cell? ⟨ii, 0, none⟩ = some (.int .i64 q) ∧ wr.cell? ⟨ii, 1, none⟩ = some (.string (nm x.2)) ∧ -1 ≤ x.2 ∧ x.2 ≤ 9 ∧ Own wr x.1 103 ∧ GT wr lo H0 x.1 x.2 := by
  obtain ⟨gdk, hs, _, _⟩ := h.ex
  obtain ⟨p0, vf, vb, r4, rp, r5, rf, r6, rb, rd⟩ := hs.lv
  rw [h.f5] at r5
  cases r5
  have htot := kept_total (l := l) (fs := fs) (k := k) (by omega)
  rw [List.length_map, htot] at rf
  obtain ⟨x, hx⟩ : ∃ x, fs[k]? = some x := ⟨_, List.getElem?_eq_getElem hk⟩
  have hat := kept_at (l := l) hx (by omega)
  have hkl := kept_len l fs k (by omega)
  obtain ⟨g, e1, e2, e3, e4⟩ := row_at rf hk
  obtain ⟨g', e1', _, e3', e4'⟩ := row_at rf (i := (keptF l fs k).length) (by omega)
  rw [e1] at e1'
  cases e1'
  have hmem : x ∈ keptF l fs k ++ fs.drop (keptF l fs k).length := List.mem_of_getElem? hat
  have hgt := hs.gt x hmem
  obtain ⟨q1, q2, q3, ⟨q4, q5, q6⟩, q7⟩ := hgt
  rw [if_neg q7] at q6
  obtain ⟨ii, q, s1, s2, s3, s4, s5⟩ := q6
  refine ⟨g, x, ii, q, e1, hx, e2, ?_, ?_, e4', q2, s2, s3, s4, s5, q4, q5, q3, hs.gt x hmem⟩
  · rw [e3, ptrs, List.getElem?_map, List.getElem?_map, hat]; rfl
  · rw [e3']
    refine ⟨_, List.getElem?_eq_getElem ?_⟩
    rw [ptrs, List.length_map, List.length_map, htot]
    omega
theorem LbI.drew {lo H0 C A M0 n : Nat} {up : List BE} {lst : CUR} {gd1 : GD} {rep1 : Nat} {labs : List Int} {fs : List (Nat × Int)} {bs : List Nat} {L : Nat} {l p : Int} {tw : Bool} {vf : Value} {w1 : World} {k : Nat} {wr : World} (h : LbI lo H0 C A M0 n up lst gd1 rep1 labs fs bs L l p tw vf w1 k wr) :
    LbI lo H0 C A M0 n up lst gd1 rep1 labs fs bs L l p tw vf w1 k wr.drew := by
  obtain ⟨gdk, hs, hl, hk⟩ := h.ex
  exact ⟨⟨gdk, hs.drew', hl, hk⟩, h.gf.drew, h.f5, h.le⟩
theorem LbI.drewN {lo H0 C A M0 n : Nat} {up : List BE} {lst : CUR} {gd1 : GD} {rep1 : Nat} {labs : List Int} {fs : List (Nat × Int)} {bs : List Nat} {L : Nat} {l p : Int} {tw : Bool} {vf : Value} {w1 : World} {k : Nat} {wr : World} (h : LbI lo H0 C A M0 n up lst gd1 rep1 labs fs bs L l p tw vf w1 k wr) (m : Nat) :
    LbI lo H0 C A M0 n up lst gd1 rep1 labs fs bs L l p tw vf w1 k (wr.drewN m) := by
  obtain ⟨gdk, hs, hl, hk⟩ := h.ex
  exact ⟨⟨gdk, hs.nested (hs.g.drewN m) ((GF.refl _ _ _ wr).drewN m) (fun _ h => h), hl, hk⟩, h.gf.drewN m, h.f5, h.le⟩
/-- No match. -/
theorem LbI.miss {lo H0 C A M0 n : Nat} {up : List BE} {lst : CUR} {gd1 : GD} {rep1 : Nat} {labs : List Int} {fs : List (Nat × Int)} {bs : List Nat} {L : Nat} {l p : Int} {tw : Bool} {g capf : Nat} {w1 : World} {k : Nat} {wr : World} (h : LbI lo H0 C A M0 n up lst gd1 rep1 labs fs bs L l p tw (.slice (some ⟨g, 0, none⟩) fs.length capf) w1 k wr) (hk : k < fs.length) {x : Nat × Int} (hx : fs[k]? = some x) (hne : x.2 ≠ l) (hgt : GT wr lo H0 x.1 x.2) :
    LbI lo H0 C A M0 n up lst gd1 rep1 labs fs bs L l p tw (.slice (some ⟨g, 0, none⟩) fs.length capf) w1 (k + 1) (wr.setCell ⟨g, (keptF l fs k).length, none⟩ (.pointer (some ⟨x.1, 0, none⟩))) := by
  obtain ⟨gdk, hs, hl, hkk⟩ := h.ex
  obtain ⟨m1, m2, m3⟩ := loop_miss (bs := bs) hx hne
  have htot := kept_total (l := l) (fs := fs) (k := k) (by omega)
  obtain ⟨p0, vf, vb, r4, rp, r5, rf, r6, rb, rd⟩ := hs.lv
  have r5' := r5
  rw [h.f5] at r5'
  cases r5'
  obtain ⟨b1, b2, cs, b3⟩ := row_blk rf rfl
  have hmv := hs.move htot h.f5 (kept_set (l := l) (x := x) hk).symm hgt
  refine ⟨⟨gdk, by rw [m1, m3]; exact hmv.1, (by rw [m2]; exact hl.keep fun cs' hc => blk_far _ (by
      rintro rfl
      rw [b3] at hc; cases hc)), hkk⟩, h.gf.trans hmv.2, ?_, hk⟩
  exact (blk_far _ (by
    rintro e
    have e' : n + 5 = g := e
    subst e'
    have := h.f5
    rw [b3] at this; cases this)).trans h.f5
/-- A match: the label is used; behind a declaration something is reported. -/
theorem LbI.hit {lo H0 C A M0 n : Nat} {up : List BE} {lst : CUR} {gd1 : GD} {rep1 : Nat} {labs : List Int} {fs : List (Nat × Int)} {bs : List Nat} {L : Nat} {l p : Int} {tw : Bool} {vf : Value} {w1 : World} {k : Nat} {wr : World} (h : LbI lo H0 C A M0 n up lst gd1 rep1 labs fs bs L l p tw vf w1 k wr) (hk : k < fs.length) {x : Nat × Int} (hx : fs[k]? = some x) (he : x.2 = l) (hb : hasN bs x.1 = false) :
    LbI lo H0 C A M0 n up lst gd1 rep1 labs fs bs L l p tw vf w1 (k + 1) (wr.setCell ⟨L, 2, none⟩ (.bool true)) := by
  obtain ⟨gdk, hs, hl, hkk⟩ := h.ex
  obtain ⟨m1, m2, m3⟩ := loop_hit (bs := bs) hx he
  obtain ⟨gd', a1, a2, a3, a4⟩ := hs.mark hl
  obtain ⟨h0, ⟨u, hL⟩, _⟩ := hl
  rw [hb] at m3
  refine ⟨⟨gd', by rw [m1, m3]; exact a1, by rw [m2]; exact a2, a4.trans hkk⟩, h.gf.trans a3, ?_, hk⟩
  exact (blk_far _ (by
    rintro e
    have e' : n + 5 = L := e
    subst e'
    have := h.f5
    rw [hL] at this; cases this)).trans h.f5
/-- The state behind the mark, ahead of the report. -/
theorem LbI.marked {lo H0 C A M0 n : Nat} {up : List BE} {lst : CUR} {gd1 : GD} {rep1 : Nat} {labs : List Int} {fs : List (Nat × Int)} {bs : List Nat} {L : Nat} {l p : Int} {tw : Bool} {vf : Value} {w1 : World} {k : Nat} {wr : World} (h : LbI lo H0 C A M0 n up lst gd1 rep1 labs fs bs L l p tw vf w1 k wr) (hk : k < fs.length) {x : Nat × Int} (hx : fs[k]? = some x) (he : x.2 = l) (hb : hasN bs x.1 = true) {w' : World}
    (hw : ∀ gd', LSt lo H0 C A M0 n up lst gd' (rep1 + cntF l fs bs k) labs (keptF l fs k ++ fs.drop (keptF l fs k).length) bs (wr.setCell ⟨L, 2, none⟩ (.bool true)) → ∃ w2, LSt lo H0 C A M0 n up lst gd' (rep1 + cntF l fs bs k) labs (keptF l fs k ++ fs.drop (keptF l fs k).length) bs w2 ∧ GF H0 M0 n (wr.setCell ⟨L, 2, none⟩ (.bool true)) w2 ∧ (∀ j, j < wr.heap.size → w2.heap[j]? = (wr.setCell ⟨L, 2, none⟩ (.bool true)).heap[j]?) ∧ Chk H0 C (rep1 + cntF l fs bs k + 1) w' ∧ ChkF H0 C w2 w') :
    LbI lo H0 C A M0 n up lst gd1 rep1 labs fs bs L l p tw vf w1 (k + 1) w' := by
  obtain ⟨gdk, hs, hl, hkk⟩ := h.ex
  obtain ⟨m1, m2, m3⟩ := loop_hit (bs := bs) hx he
  obtain ⟨gd', a1, a2, a3, a4⟩ := hs.mark hl
  obtain ⟨w2, c1, c2, c3, c4, c5⟩ := hw gd' a1
  obtain ⟨h0, ⟨u, hL⟩, _⟩ := hl
  have hlt := hs.lt
  obtain ⟨d1, d2⟩ := c1.rep1 c4 c5
  rw [hb] at m3
  have hL2 : w2.heap[L]? = (wr.setCell ⟨L, 2, none⟩ (.bool true)).heap[L]? := c3 L (Array.getElem?_eq_some_iff.1 hL).1
  have h52 : w2.heap[n + 5]? = some (.cells #[vf] 93) := by
    refine (c3 _ (by omega)).trans ((blk_far _ ?_).trans h.f5)
    rintro e
    have e' : n + 5 = L := e
    subst e'
    have := h.f5
    rw [hL] at this; cases this
  have hlt2 := c1.lt
  have a5 : LabI H0 L l p tw gd1 gd' true w2 := a2.keep fun cs hc => hL2
  have a6 : LabI H0 L l p tw gd1 gd' true w' := a5.keep fun cs hc => (c5.typ c1.g.chk hc (by decide) (by decide)).trans hc.symm
  refine ⟨⟨gd', by rw [m1, m3]; exact d1, by rw [m2]; exact a6, a4.trans hkk⟩, (h.gf.trans a3).trans (c2.trans d2), ?_, hk⟩
  exact c5.typ c1.g.chk h52 (by decide) (by decide)
theorem LbI.marked2 {lo H0 C A M0 n : Nat} {up : List BE} {lst : CUR} {gd1 : GD} {rep1 : Nat} {labs : List Int} {fs : List (Nat × Int)} {bs : List Nat} {L : Nat} {l p : Int} {tw : Bool} {vf : Value} {w1 : World} {k : Nat} {wr : World} (h : LbI lo H0 C A M0 n up lst gd1 rep1 labs fs bs L l p tw vf w1 k wr) (hk : k < fs.length) {x : Nat × Int} (hx : fs[k]? = some x) (he : x.2 = l) (hb : hasN bs x.1 = true) {w5 w6 W w8 : World} {m : Nat} {row : Obj}
    (hw5 : w5 = wr.setCell ⟨L, 2, none⟩ (.bool true)) (hw6 : w6 = w5.drewN m) (hW : W = w6.drew.alloc row ∨ W = (w6.alloc row).drew) (hc : Chk H0 C (rep1 + cntF l fs bs k + 1) w8) (hf : ChkF H0 C W w8) : LbI lo H0 C A M0 n up lst gd1 rep1 labs fs bs L l p tw vf w1 (k + 1) w8 := by
  subst hw6 hw5
  refine h.marked hk hx he hb fun gd' h' => ⟨W, ?_, ?_, ?_, hc, hf⟩
  · rcases hW with rfl | rfl
    · exact (h'.drewN m).drew'.alloc _
    · exact ((h'.drewN m).alloc _).drew'
  · have hlt := h'.lt
    have hsz := h'.g.sz
    rcases hW with rfl | rfl
    · exact ((GF.refl _ _ _ _).drewN m).drew.alloc hsz (by show n ≤ (wr.setCell ⟨L, 2, none⟩ (.bool true)).heap.size; omega) _
    · exact (((GF.refl _ _ _ _).drewN m).alloc hsz (by show n ≤ (wr.setCell ⟨L, 2, none⟩ (.bool true)).heap.size; omega) _).drew
  · intro j hj
    have hj' : j < (wr.setCell ⟨L, 2, none⟩ (.bool true)).heap.size := by simpa using hj
    rcases hW with rfl | rfl
    · exact Below.heap_alloc _ _ _ hj'
    · exact Below.heap_alloc _ _ _ hj'
theorem cnt_len (l : Int) (fs : List (Nat × Int)) (bs : List Nat) (k : Nat) : cntF l fs bs k ≤ k := by
  have := List.length_filter_le (fun x : Nat × Int => x.2 == l && hasN bs x.1) (fs.take k)
  rw [List.length_take] at this
  unfold cntF; omega
/-- Behind the loop: the row is cut. -/
theorem LbI.done {lo H0 C A M0 n : Nat} {up : List BE} {lst : CUR} {gd gd1 : GD} {rep rep1 : Nat} {labs labs1 : List Int} {fs : List (Nat × Int)} {bs : List Nat} {L : Nat} {l p : Int} {tw : Bool} {af : Option Addr} {capf : Nat} {w1 : World} {wr : World} (h : LbI lo H0 C A M0 n up lst gd1 rep1 labs1 fs bs L l p tw (.slice af fs.length capf) w1 fs.length wr)
    (hgd : gd1 = if tw then gd else gd ++ [(l, false, L)]) (hrep : rep1 = if tw then rep + 1 else rep) (hlabs : labs1 = if tw then labs else labs ++ [l]) (hkey : tw = true ↔ l ∈ keysG gd) :
    ∃ gd' rep' labs' fs', LSt lo H0 C A M0 n up lst gd' rep' labs' fs' bs (wr.setCell ⟨n + 5, 0, none⟩ (.slice af (keptF l fs fs.length).length capf)) ∧ GF H0 M0 n w1 (wr.setCell ⟨n + 5, 0, none⟩ (.slice af (keptF l fs fs.length).length capf)) ∧ (∀ k ∈ keysG gd, k ∈ keysG gd') ∧ l ∈ keysG gd' ∧ (∀ x ∈ fs', x ∈ fs) ∧ jsOf gd' rep' labs' fs' bs = declL l (jsOf gd rep labs fs bs) := by
  obtain ⟨gdk, hs, hl, hkk⟩ := h.ex
  have hkl := kept_len l fs fs.length (Nat.le_refl _)
  have htot := kept_total (l := l) (fs := fs) (k := fs.length) (Nat.le_refl _)
  have hcut := hs.cut htot h.f5 hkl
  have htake : (keptF l fs fs.length ++ fs.drop (keptF l fs fs.length).length).take (keptF l fs fs.length).length = keptF l fs fs.length := List.take_left
  rw [htake] at hcut
  have hk1 : ∀ k ∈ keysG gd, k ∈ keysG gd1 := by
    intro k hk
    rw [hgd]
    cases tw
    · simp only [Bool.false_eq_true, if_false, keysG, List.map_append, List.mem_append]; exact .inl hk
    · exact hk
  have hl1 : l ∈ keysG gd1 := by
    rw [hgd]
    cases tw
    · simp [keysG]
    · exact hkey.1 rfl
  refine ⟨gdk, _, labs1, keptF l fs fs.length, hcut.1, h.gf.trans hcut.2, fun k hk => by rw [hkk]; exact hk1 k hk, by rw [hkk]; exact hl1, fun x hx => ?_, ?_⟩
  · unfold keptF at hx
    rw [List.take_length] at hx
    exact (List.mem_filter.1 hx).1
  · have hcont : ((dsG gd).map Prod.fst).contains l = tw := by
      have e : (dsG gd).map Prod.fst = keysG gd := by simp [dsG, keysG]
      rw [e, Bool.eq_iff_iff, List.contains_iff_mem]
      exact hkey.symm
    have hany : ((fs.map fun x => (x.2, hasN bs x.1)).any fun f => f.1 == l) = hitF l fs fs.length := by
      unfold hitF
      rw [List.take_length, List.any_map]; rfl
    have hcnt : ((fs.map fun x => (x.2, hasN bs x.1)).filter fun f => f.1 == l && f.2).length = cntF l fs bs fs.length := by
      unfold cntF
      rw [List.take_length, List.filter_map, List.length_map]; rfl
    have hflt : ((fs.map fun x => (x.2, hasN bs x.1)).filter fun f => !(f.1 == l)) = (keptF l fs fs.length).map fun x => (x.2, hasN bs x.1) := by
      unfold keptF
      rw [List.take_length, List.filter_map]; rfl
    unfold declL jsOf
    simp only [hcont, hany, hcnt, hflt]
    obtain ⟨_, _, ht⟩ := hl
    cases tw with
    | true =>
      obtain ⟨rfl, _⟩ := ht
      simp only [if_true] at hgd hrep hlabs ⊢
      rw [hgd, hrep, hlabs]
    | false =>
      obtain ⟨he, _⟩ := ht
      simp only [Bool.false_eq_true, if_false] at hgd hrep hlabs he ⊢
      rw [hrep, hlabs]
      have hnk : ¬ l ∈ keysG gd := fun hh => by have := hkey.2 hh; cases this
      have hds : dsG gdk = dsG gd ++ [(l, hitF l fs fs.length)] := by
        rw [he, hgd]
        cases hitF l fs fs.length with
        | false => simp [dsG]
        | true =>
          simp only [if_true]
          rw [useG_ds]
          have e : dsG (gd ++ [(l, false, L)]) = dsG gd ++ [(l, false)] := by simp [dsG]
          rw [e, useL, List.map_append]
          congr 1
          · conv => rhs; rw [← List.map_id (dsG gd)]
            refine List.map_congr_left fun y hy => ?_
            have : y.1 ≠ l := by
              rintro rfl
              obtain ⟨z, hz, rfl⟩ := List.mem_map.1 hy
              exact hnk (List.mem_map.2 ⟨z, hz, rfl⟩)
            rw [if_neg this]; rfl
          · simp
      rw [hds]
      rfl
end Go.Proofs.YtpodifbgfcclbaaGreatDoor
