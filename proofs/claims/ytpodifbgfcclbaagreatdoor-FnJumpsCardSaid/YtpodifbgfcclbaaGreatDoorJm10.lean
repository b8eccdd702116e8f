/- The state of one block, whole. -/
import Derived.Test.YtpodifbgfcclbaaGreatDoorJm7
import Derived.Test.YtpodifbgfcclbaaGreatDoorMk3
set_option linter.unusedVariables false
set_option linter.unusedSimpArgs false
namespace Go.Proofs.YtpodifbgfcclbaaGreatDoor
open Go.RowKit
attribute [local go_sem] Nat.lt_add_one_of_lt

/-- A goto in the tree. -/
def GT (w : World) (lo H0 a : Nat) (l : Int) : Prop := lo ≤ a ∧ a < H0 ∧ Own w a 103 ∧ NL w lo H0 a 2 l ∧ l ≠ 0
def capsB (n : Nat) : Array Value := #[.pointer (some ⟨n + 5, 0, none⟩), .pointer (some ⟨n, 0, none⟩), .pointer (some ⟨n + 1, 0, none⟩), .pointer (some ⟨n + 3, 0, none⟩)]
def capsS (n : Nat) : Array Value := #[.pointer (some ⟨n + 7, 0, none⟩), .pointer (some ⟨n, 0, none⟩), .pointer (some ⟨n + 1, 0, none⟩), .pointer (some ⟨n + 3, 0, none⟩), .pointer (some ⟨n + 5, 0, none⟩), .pointer (some ⟨n + 8, 0, none⟩), .pointer (some ⟨n + 4, 0, none⟩), .pointer (some ⟨n + 10, 0, none⟩), .pointer (some ⟨n + 9, 0, none⟩)]
/-- What does not change in a frame. -/
structure FC (n C A : Nat) (w : World) : Prop where
  z0 : w.heap[n]? = some (.cells #[.pointer (some ⟨C, 0, none⟩)] 69)
  z1 : w.heap[n + 1]? = some (.cells #[.pointer (some ⟨A, 0, none⟩)] 91)
  z3 : w.heap[n + 3]? = some (.cells #[.pointer (some ⟨n + 2, 0, none⟩)] 155)
  z7 : w.heap[n + 7]? = some (.cells #[.func (.func 71) #[] #[.pointer (some ⟨n + 4, 0, none⟩), .pointer (some ⟨n + 6, 0, none⟩), .pointer (some ⟨n + 5, 0, none⟩)]] 160)
  z8 : w.heap[n + 8]? = some (.cells #[.func (.func 72) #[] #[.pointer (some ⟨n + 4, 0, none⟩), .pointer (some ⟨n + 6, 0, none⟩)]] 162)
  z9 : w.heap[n + 9]? = some (.cells #[.func (.func 75) #[] (capsB n)] 163)
  z10 : w.heap[n + 10]? = some (.cells #[.func (.func 76) #[] (capsS n)] 164)
/-- The block's own record. -/
def ME (w : World) (M0 n : Nat) (up : Option Nat) (lst : Option (Nat × Int × Int)) (labs : List Int) : Prop :=
  ∃ lm, w.heap[n + 2]? = some (.cells #[ptr up, ptr (lst.map fun x => x.1), .map lm] 159) ∧ LM w n M0 w.heap.size lm labs
structure LSt (lo H0 C A M0 n : Nat) (up : List BE) (lst : Option (Nat × Int × Int)) (gd : GD) (rep : Nat) (labs : List Int) (fs : List (Nat × Int)) (bs : List Nat) (w : World) : Prop where
  g : GSt H0 C A M0 gd rep w
  fc : FC n C A w
  lv : LV n (fs.map Prod.fst) bs w
  ch : Ch w lo H0 M0 n up
  me : ME w M0 n (headB up) lst labs
  ls : ∀ x, lst = some x → LS w lo H0 x.1 x.2.1 x.2.2
  hM : M0 < n
  hH : H0 ≤ n
  gt : ∀ x ∈ fs, GT w lo H0 x.1 x.2
  gb : ∀ b ∈ bs, b < H0 ∧ Own w b 103
  sl : ∀ l ∈ labs, l ∈ gd.map fun e => e.1
  sg : ∀ l ∈ glB up, l ∈ gd.map fun e => e.1
  st : ∀ x ∈ tgB (⟨n + 2, labs, lst⟩ :: up), x.1 ∈ gd.map fun e => e.1
/-- The state as the plain algorithm has it. -/
def jsOf (gd : GD) (rep : Nat) (labs : List Int) (fs : List (Nat × Int)) (bs : List Nat) : JS := ⟨dsG gd, rep, labs, fs.map fun x => (x.2, hasN bs x.1)⟩
theorem Own.low {w w' : World} {a T H0 : Nat} (h : Own w a T) (ha : a < H0) (hk : ∀ j, j < H0 → w'.heap[j]? = w.heap[j]?) : Own w' a T := h.imp fun cs e => (hk a ha).trans e
theorem GT.keep {w w' : World} {lo H0 a : Nat} {l : Int} (h : GT w lo H0 a l) (hk : ∀ j, j < H0 → w'.heap[j]? = w.heap[j]?) : GT w' lo H0 a l := by
  obtain ⟨h1, h2, h3, h4, h5⟩ := h
  exact ⟨h1, h2, h3.low h2 hk, NL.keepG (ps := []) (ps' := []) ⟨fun k _ hk' => hk k hk', fun _ _ _ => rfl⟩ (Nat.le_refl _) (Nat.le_refl _) h1 h2 h4, h5⟩
theorem FC.keep {n C A : Nat} {w w' : World} (h : FC n C A w) (hk : ∀ (j : Nat) (cs : Array Value) (T : Nat), n ≤ j → w.heap[j]? = some (.cells cs T) → T = 69 ∨ T = 91 ∨ T = 155 ∨ T = 160 ∨ T = 162 ∨ T = 163 ∨ T = 164 → w'.heap[j]? = w.heap[j]?) : FC n C A w' where
  z0 := (hk _ _ _ (by omega) h.z0 (by simp)).trans h.z0
  z1 := (hk _ _ _ (by omega) h.z1 (by simp)).trans h.z1
  z3 := (hk _ _ _ (by omega) h.z3 (by simp)).trans h.z3
  z7 := (hk _ _ _ (by omega) h.z7 (by simp)).trans h.z7
  z8 := (hk _ _ _ (by omega) h.z8 (by simp)).trans h.z8
  z9 := (hk _ _ _ (by omega) h.z9 (by simp)).trans h.z9
  z10 := (hk _ _ _ (by omega) h.z10 (by simp)).trans h.z10
theorem LV.keep {n : Nat} {fs bs : List Nat} {w w' : World} (h : LV n fs bs w) (hk : ∀ (j : Nat) (cs : Array Value) (T : Nat), n ≤ j → w.heap[j]? = some (.cells cs T) → T = 45 ∨ T = 93 ∨ T = 95 → w'.heap[j]? = w.heap[j]?) : LV n fs bs w' := by
  obtain ⟨p, vf, vb, h4, h1, h5, h2, h6, h3, hd⟩ := h
  refine ⟨p, vf, vb, (hk _ _ _ (by omega) h4 (by simp)).trans h4, h1, (hk _ _ _ (by omega) h5 (by simp)).trans h5, row_keep h2 fun g e => ?_, (hk _ _ _ (by omega) h6 (by simp)).trans h6, row_keep h3 fun g e => ?_, hd⟩
  · obtain ⟨r1, _, cs, r2⟩ := row_blk h2 e
    exact hk _ _ _ r1 r2 (by simp)
  · obtain ⟨r1, _, cs, r2⟩ := row_blk h3 e
    exact hk _ _ _ r1 r2 (by simp)
theorem LM.keep2 {w w' : World} {B M0 N N' : Nat} {lm : Option Nat} {labs : List Int} (h : LM w B M0 N lm labs) (hN : N ≤ N') (hk : ∀ m es clk, lm = some m → B ≤ m → m ≠ M0 → w.heap[m]? = some (.map es clk) → w'.heap[m]? = w.heap[m]?) : LM w' B M0 N' lm labs := by
  obtain ⟨h1, h2⟩ := h
  refine ⟨h1, ?_⟩
  cases lm with
  | none => exact h2
  | some m =>
    obtain ⟨h3, h4, h5, ks, h6, h7⟩ := h2
    obtain ⟨es, clk, hm, hes⟩ := h7
    exact ⟨h3, by omega, h5, ks, h6, es, clk, (hk m es clk rfl h3 h5 hm).trans hm, hes⟩
theorem ME.keep {w w' : World} {M0 n : Nat} {up : Option Nat} {lst : Option (Nat × Int × Int)} {labs : List Int} (h : ME w M0 n up lst labs) (hs : w.heap.size ≤ w'.heap.size)
    (hk : ∀ (cs : Array Value), w.heap[n + 2]? = some (.cells cs 159) → w'.heap[n + 2]? = w.heap[n + 2]?) (hm : ∀ m es clk, n ≤ m → m ≠ M0 → w.heap[m]? = some (.map es clk) → w'.heap[m]? = w.heap[m]?) : ME w' M0 n up lst labs := by
  obtain ⟨lm, h1, h2⟩ := h
  exact ⟨lm, (hk _ h1).trans h1, h2.keep2 hs fun m es clk _ h3 h4 h5 => hm m es clk h3 h4 h5⟩
/-- The block as one of the blocks around an inner place. -/
theorem LSt.chain {lo H0 C A M0 n : Nat} {up : List BE} {lst : Option (Nat × Int × Int)} {gd : GD} {rep : Nat} {labs : List Int} {fs : List (Nat × Int)} {bs : List Nat} {w : World} (h : LSt lo H0 C A M0 n up lst gd rep labs fs bs w) :
    Ch w lo H0 M0 w.heap.size (⟨n + 2, labs, lst⟩ :: up) := by
  obtain ⟨lm, h1, h2⟩ := h.me
  have hl : n + 2 < w.heap.size := (Array.getElem?_eq_some_iff.1 h1).1
  have hH := h.hH
  have hM := h.hM
  refine ⟨⟨lm, h1, by show H0 ≤ n + 2; omega, hl, by show n + 2 ≠ M0; omega, ?_, h.ls⟩, Ch.keep (N := n) (by omega) (fun _ _ => rfl) (fun _ _ _ => rfl) h.ch⟩
  obtain ⟨h3, h4⟩ := h2
  refine ⟨h3, ?_⟩
  cases lm with
  | none => exact h4
  | some m =>
    obtain ⟨q1, q2⟩ := h4
    exact ⟨by omega, q2⟩
/-- Behind something that changes the shared state alone. -/
theorem LSt.nested {lo H0 C A M0 n : Nat} {up : List BE} {lst : Option (Nat × Int × Int)} {gd gd' : GD} {rep rep' : Nat} {labs : List Int} {fs : List (Nat × Int)} {bs : List Nat} {w w' : World} (h : LSt lo H0 C A M0 n up lst gd rep labs fs bs w)
    (hg : GSt H0 C A M0 gd' rep' w') (hf : GF H0 M0 w.heap.size w w') (hk : ∀ l ∈ gd.map (fun e => e.1), l ∈ gd'.map fun e => e.1) : LSt lo H0 C A M0 n up lst gd' rep' labs fs bs w' where
  g := hg
  fc := h.fc.keep fun j cs T hj hT h7 => hf.blk j (Array.getElem?_eq_some_iff.1 hT).1 (not_Gx hT (by omega) (by have := h.hM; omega))
  lv := h.lv.keep fun j cs T hj hT h7 => hf.blk j (Array.getElem?_eq_some_iff.1 hT).1 (not_Gx hT (by omega) (by have := h.hM; omega))
  ch := by
    obtain ⟨lm, h1, _⟩ := h.me
    have hl : n + 2 < w.heap.size := (Array.getElem?_eq_some_iff.1 h1).1
    exact Ch.keep (Nat.le_refl _) hf.low (fun j hj hx => hf.blk j (by omega) hx) h.ch
  me := h.me.keep hf.size (fun cs h1 => hf.blk _ (Array.getElem?_eq_some_iff.1 h1).1 (not_Gx h1 (by decide) (by have := h.hM; omega))) fun m es clk h1 h2 h3 => hf.blk m (Array.getElem?_eq_some_iff.1 h3).1 (by
    rintro (hh | ⟨cs, T, f, hh, _⟩)
    · exact h2 hh
    · rw [h3] at hh; cases hh)
  ls := fun x hx => (h.ls x hx).keep hf.low
  hM := h.hM
  hH := h.hH
  gt := fun x hx => (h.gt x hx).keep hf.low
  gb := fun b hb => ⟨(h.gb b hb).1, (h.gb b hb).2.low (h.gb b hb).1 hf.low⟩
  sl := fun l hl => hk l (h.sl l hl)
  sg := fun l hl => hk l (h.sg l hl)
  st := fun x hx => hk _ (h.st x hx)
end Go.Proofs.YtpodifbgfcclbaaGreatDoor

/- A list inside: its jumps ahead become jumps ahead of the block around. -/
set_option linter.unusedVariables false
set_option linter.unusedSimpArgs false
namespace Go.Proofs.YtpodifbgfcclbaaGreatDoor
open Go.RowKit
attribute [local go_sem] Nat.lt_add_one_of_lt

abbrev CUR := Option (Nat × Int × Int)
def curT (cur : CUR) : Option (Int × Int) := cur.map fun x => x.2
def keysG (gd : GD) : List Int := gd.map fun e => e.1
/-- What blockBranches leaves. -/
def BlkR (lo H0 C A M0 : Nat) (F : JS → JS) (nodes : List Nat) (gd : GD) (rep : Nat) (w : World) (e : Ending) (w' : World) : Prop :=
  ∃ (v : Value) (gd' : GD) (rep' : Nat) (fs' : List (Nat × Int)), e = .returned v ∧ w'.ownsRow w.heap.size 95 1 v fs'.length (ptrs (fs'.map Prod.fst)) ∧ GSt H0 C A M0 gd' rep' w' ∧ GF H0 M0 w.heap.size w w' ∧ (∀ l ∈ keysG gd, l ∈ keysG gd') ∧
    (∀ x ∈ fs', GT w' lo H0 x.1 x.2 ∧ x.1 ∈ nodes) ∧ dsG gd' = (F ⟨dsG gd, rep, [], []⟩).ds ∧ rep' = (F ⟨dsG gd, rep, [], []⟩).rep ∧
    fs'.map Prod.snd = (F ⟨dsG gd, rep, [], []⟩).fwd.map Prod.fst
/-- Behind something that changes the block's own jumps alone. -/
theorem LSt.own {lo H0 C A M0 n : Nat} {up : List BE} {lst : CUR} {gd : GD} {rep : Nat} {labs : List Int} {fs fs' : List (Nat × Int)} {bs bs' : List Nat} {w w' : World} (h : LSt lo H0 C A M0 n up lst gd rep labs fs bs w)
    (hv : VF n w w') (hlv : LV n (fs'.map Prod.fst) bs' w') (hgt : ∀ x ∈ fs', GT w lo H0 x.1 x.2) (hgb : ∀ b ∈ bs', b < H0 ∧ Own w b 103) : LSt lo H0 C A M0 n up lst gd rep labs fs' bs' w' ∧ GF H0 M0 n w w' := by
  obtain ⟨p, vf, vb, h4, _, h5, _, h6, _, _⟩ := h.lv
  obtain ⟨v1, v2, v3, v4, v5⟩ := hv
  have hM := h.hM
  have hH := h.hH
  have hlow : ∀ j, j < n → j < w.heap.size → w'.heap[j]? = w.heap[j]? := fun j hj hs => v5 j hs (by omega) (by omega) (by omega) (fun hh => by omega)
  have hn : n < w.heap.size := (Array.getElem?_eq_some_iff.1 h.fc.z0).1
  have htyp : ∀ (j : Nat) (cs : Array Value) (T : Nat) (f : Nat × Nat), w.heap[j]? = some (.cells cs T f) → T ≠ 45 → T ≠ 93 → T ≠ 95 → w'.heap[j]? = w.heap[j]? := fun j cs T f hj t1 t2 t3 => by
    refine v5 j (Array.getElem?_eq_some_iff.1 hj).1 ?_ ?_ ?_ fun _ cs' f' hh => ?_
    · rintro rfl; rw [h4] at hj; cases hj; exact t1 rfl
    · rintro rfl; rw [h5] at hj; cases hj; exact t2 rfl
    · rintro rfl; rw [h6] at hj; cases hj; exact t2 rfl
    · rw [hj] at hh; cases hh; exact t3 rfl
  have hmap : ∀ (j : Nat) (es : Array MapEntry) (clk : Nat), w.heap[j]? = some (.map es clk) → w'.heap[j]? = w.heap[j]? := fun j es clk hj => by
    refine v5 j (Array.getElem?_eq_some_iff.1 hj).1 ?_ ?_ ?_ fun _ cs' f' hh => ?_
    · rintro rfl; rw [h4] at hj; cases hj
    · rintro rfl; rw [h5] at hj; cases hj
    · rintro rfl; rw [h6] at hj; cases hj
    · rw [hj] at hh; cases hh
  have hl0 : ∀ j, j < H0 → w'.heap[j]? = w.heap[j]? := fun j hj => hlow j (by omega) (by omega)
  refine ⟨⟨h.g.keep v4 fun j hj => ?_, h.fc.keep fun j cs T _ hj hT => htyp j cs T _ hj (by omega) (by omega) (by omega), hlv, Ch.keep (Nat.le_refl _) hl0 (fun j hj _ => hlow j hj (by omega)) h.ch, h.me.keep v4 (fun cs hj => htyp _ _ _ _ hj (by decide) (by decide) (by decide)) (fun m es clk _ _ hm => hmap m es clk hm), fun x hx => (h.ls x hx).keep hl0, h.hM, h.hH, fun x hx => (hgt x hx).keep hl0, fun b hb => ⟨(hgb b hb).1, (hgb b hb).2.low (hgb b hb).1 hl0⟩, h.sl, h.sg, h.st⟩, ⟨v1, v2, v3, v4, hl0, fun k hk _ => hlow k hk (by omega)⟩⟩
  rcases hj with rfl | ⟨cs, T, f, hj, hT⟩
  · obtain ⟨es, clk, hm, _⟩ := h.g.map
    exact hmap _ _ _ hm
  · rcases hT with rfl | rfl | rfl | rfl | rfl <;> exact htyp j cs _ f hj (by decide) (by decide) (by decide)
theorem LV.app {n : Nat} {fs fs2 bs : List Nat} {w w1 : World} {p0 : Int} {vf vb v' : Value} (hH : n + 5 < w.heap.size) (h4 : w.heap[n + 4]? = some (.cells #[.int .i64 p0] 45)) (hp : bs ≠ [] → p0 ≠ 0) (h5 : w.heap[n + 5]? = some (.cells #[vf] 93)) (hf : w.ownsRow n 95 1 vf fs.length (ptrs fs))
    (h6 : w.heap[n + 6]? = some (.cells #[vb] 93)) (hb : w.ownsRow n 95 1 vb bs.length (ptrs bs)) (hd : vf.ownBlock = none ∨ vf.ownBlock ≠ vb.ownBlock)
    (ho : w1.ownsRow n 95 1 v' (fs.length + fs2.length) (ptrs fs ++ ptrs fs2)) (hg : w.grownBy w1 vf.ownBlock) (ha : v'.ownBlock = vf.ownBlock ∨ v'.ownBlock = some w.heap.size) :
    LV n (fs ++ fs2) bs (w1.setCell ⟨n + 5, 0, none⟩ v') ∧ ∀ j, j < w.heap.size → j ≠ n + 5 → some j ≠ vf.ownBlock → (w1.setCell ⟨n + 5, 0, none⟩ v').heap[j]? = w.heap[j]? := by
  have l4 : n + 4 < w.heap.size := (Array.getElem?_eq_some_iff.1 h4).1
  have l6 : n + 6 < w.heap.size := (Array.getElem?_eq_some_iff.1 h6).1
  have hne : ∀ {q : Nat} {cs : Array Value} {T : Nat} {f : Nat × Nat}, w.heap[q]? = some (.cells cs T f) → T ≠ 95 → some q ≠ vf.ownBlock := fun hq hT e => by
    obtain ⟨_, _, cs', h3⟩ := row_blk hf e.symm
    rw [hq] at h3; cases h3; exact hT rfl
  have h5' : w1.heap[n + 5]? = some (.cells #[vf] 93) := (hg.block _ hH (hne h5 (by decide))).trans h5
  have hfar : ∀ j, j < w.heap.size → j ≠ n + 5 → some j ≠ vf.ownBlock → (w1.setCell ⟨n + 5, 0, none⟩ v').heap[j]? = w.heap[j]? := fun j h1 h2 h3 => (blk_far _ h2).trans (hg.block j h1 h3)
  refine ⟨⟨p0, v', vb, (hfar _ l4 (by omega) (hne h4 (by decide))).trans h4, hp, by rw [blk_set h5']; rfl, ?_, (hfar _ l6 (by omega) (hne h6 (by decide))).trans h6, row_keep hb fun g e => ?_, ?_⟩, hfar⟩
  · have : ptrs (fs ++ fs2) = ptrs fs ++ ptrs fs2 := by simp [ptrs]
    rw [this, List.length_append]
    refine row_keep ho fun g e => blk_far _ ?_
    rintro rfl
    obtain ⟨_, _, cs, r3⟩ := row_blk ho e
    rw [h5'] at r3; cases r3
  · obtain ⟨r1, r2, cs, r3⟩ := row_blk hb e
    refine hfar g r2 ?_ ?_
    · rintro rfl; rw [h5] at r3; cases r3
    · rcases hd with hd | hd
      · rw [hd]; simp
      · rw [← e]; exact fun h => hd h.symm
  · rcases ha with ha | ha
    · rcases hd with hd | hd
      · left; rw [ha]; exact hd
      · right; rw [ha]; exact hd
    · right
      rw [ha]
      intro e
      have := (row_blk hb e.symm).2.1
      omega
theorem nest_done {lo H0 C A M0 n : Nat} {F : JS → JS} {nodes : List Nat} {up : List BE} {lst : CUR} {gd gd' : GD} {rep rep' : Nat} {labs : List Int} {fs fs2 : List (Nat × Int)} {bs : List Nat} {w w1 w2 : World} {vf v' : Value} (h : LSt lo H0 C A M0 n up lst gd rep labs fs bs w)
    (hg' : GSt H0 C A M0 gd' rep' w1) (hgf : GF H0 M0 w.drew.heap.size w.drew w1) (hk : ∀ l ∈ keysG gd, l ∈ keysG gd') (hgt : ∀ x ∈ fs2, GT w1 lo H0 x.1 x.2 ∧ x.1 ∈ nodes)
    (q1 : dsG gd' = (F ⟨dsG gd, rep, [], []⟩).ds) (q2 : rep' = (F ⟨dsG gd, rep, [], []⟩).rep)
    (q3 : fs2.map Prod.snd = (F ⟨dsG gd, rep, [], []⟩).fwd.map Prod.fst) (hbs : ∀ a ∈ nodes, ¬ a ∈ bs)
    (h5 : w1.heap[n + 5]? = some (.cells #[vf] 93)) (ho : w2.ownsRow n 95 1 v' (fs.length + fs2.length) (ptrs (fs.map Prod.fst) ++ ptrs (fs2.map Prod.fst))) (hg : w1.grownBy w2 vf.ownBlock) (ha : v'.ownBlock = vf.ownBlock ∨ v'.ownBlock = some w1.heap.size) :
    ∃ (gd' : GD) (rep' : Nat) (fs' : List (Nat × Int)), LSt lo H0 C A M0 n up lst gd' rep' labs (fs ++ fs') bs (w2.setCell ⟨n + 5, 0, none⟩ v') ∧ GF H0 M0 n w (w2.setCell ⟨n + 5, 0, none⟩ v') ∧ (∀ l ∈ keysG gd, l ∈ keysG gd') ∧ (∀ x ∈ fs', x.1 ∈ nodes) ∧
        jsOf gd' rep' labs (fs ++ fs') bs = outL (jsOf gd rep labs fs bs) (F (inL (jsOf gd rep labs fs bs))) := by
  have hgf' : GF H0 M0 w.heap.size w w1 := (GF.refl _ _ _ w).drew.trans hgf
  have h1 := h.nested hg' hgf' hk
  obtain ⟨p0, vf', vb, r4, rp, r5, rf, r6, rb, rd⟩ := h1.lv
  rw [h5] at r5
  cases r5
  have hl5 : n + 5 < w1.heap.size := (Array.getElem?_eq_some_iff.1 h5).1
  have hl0 : n < w.heap.size := (Array.getElem?_eq_some_iff.1 h.fc.z0).1
  have hlv := LV.app (fs2 := fs2.map Prod.fst) hl5 r4 rp h5 rf r6 rb rd (by simpa using ho) hg ha
  have hv : VF n w1 (w2.setCell ⟨n + 5, 0, none⟩ v') := ⟨hg.os, hg.tape, hg.output, by have := hg.size; simpa using this, fun j j1 j2 j3 j4 j5 => hlv.2 j j1 j3 fun e => by
    obtain ⟨b1, _, cs, b2⟩ := row_blk rf e.symm
    exact j5 b1 cs _ b2⟩
  have hown := h1.own hv (fs' := fs ++ fs2) (by simpa using hlv.1) (fun x hx => by
    rcases List.mem_append.1 hx with hx | hx
    · exact h1.gt x hx
    · exact (hgt x hx).1) h1.gb
  refine ⟨gd', rep', fs2, hown.1, (hgf'.mono (by omega)).trans hown.2, hk, fun x hx => (hgt x hx).2, ?_⟩
  have hfl : fs2.map (fun x => (x.2, hasN bs x.1)) = (F ⟨dsG gd, rep, [], []⟩).fwd.map fun f => (f.1, false) := by
    have e1 : fs2.map (fun x => (x.2, hasN bs x.1)) = (fs2.map Prod.snd).map fun l => (l, false) := by
      rw [List.map_map]
      refine List.map_congr_left fun x hx => ?_
      have : hasN bs x.1 = false := by
        rw [hasN, Bool.eq_false_iff]
        intro hh
        exact hbs x.1 (hgt x hx).2 (List.contains_iff_mem.1 hh)
      simp [this]
    rw [e1, q3, List.map_map]
    rfl
  simp only [jsOf, outL, inL, List.map_append, hfl, q1, q2]
set_option maxRecDepth 100000 in
set_option maxHeartbeats 4000000 in
theorem nest_any (lo H0 C A M0 n : Nat) (F : JS → JS) (nodes : List Nat) (cnt m : Nat) (up : List BE) (lst cur : CUR) (gd : GD) (rep : Nat) (labs : List Int) (fs : List (Nat × Int)) (bs : List Nat) (sa : Option Addr) (cap : Nat) (w : World) (h : LSt lo H0 C A M0 n up lst gd rep labs fs bs w)
    (hc : Calls Tryz.prog 57 #[.pointer (some ⟨C, 0, none⟩), .pointer (some ⟨A, 0, none⟩), .pointer (some ⟨n + 2, 0, none⟩), ptr (cur.map fun x => x.1), .slice sa m cap] w.drew (BlkR lo H0 C A M0 F nodes gd rep w.drew))
    (hF : ∀ s, (F s).m ≤ s.m + cnt) (hcap : fs.length + rep + cnt ≤ 100000) (hbs : ∀ a ∈ nodes, ¬ a ∈ bs) :
    Calls Tryz.prog 75 #[ptr (cur.map fun x => x.1), .slice sa m cap, .pointer (some ⟨n + 5, 0, none⟩), .pointer (some ⟨n, 0, none⟩), .pointer (some ⟨n + 1, 0, none⟩), .pointer (some ⟨n + 3, 0, none⟩)] w fun e w' => e = .returned (.tuple #[]) ∧
      ∃ (gd' : GD) (rep' : Nat) (fs' : List (Nat × Int)), LSt lo H0 C A M0 n up lst gd' rep' labs (fs ++ fs') bs w' ∧ GF H0 M0 n w w' ∧ (∀ l ∈ keysG gd, l ∈ keysG gd') ∧ (∀ x ∈ fs', x.1 ∈ nodes) ∧
        jsOf gd' rep' labs (fs ++ fs') bs = outL (jsOf gd rep labs fs bs) (F (inL (jsOf gd rep labs fs bs))) := by
  obtain ⟨p0, vf, vb, h4, hp, h5, hf, h6, hb, hd⟩ := h.lv
  obtain ⟨j, hj, hz, hz1, hz2⟩ := info95
  have hfc := h.fc
  have l0 : n < w.heap.size := (Array.getElem?_eq_some_iff.1 hfc.z0).1
  have l1 : n + 1 < w.heap.size := (Array.getElem?_eq_some_iff.1 hfc.z1).1
  have l3 : n + 3 < w.heap.size := (Array.getElem?_eq_some_iff.1 hfc.z3).1
  have l5 : n + 5 < w.heap.size := (Array.getElem?_eq_some_iff.1 h5).1
  have c0 : ∀ o, w.cell? ⟨n, o, none⟩ = _ := blk_cell hfc.z0
  have c1 : ∀ o, w.cell? ⟨n + 1, o, none⟩ = _ := blk_cell hfc.z1
  have c3 : ∀ o, w.cell? ⟨n + 3, o, none⟩ = _ := blk_cell hfc.z3
  have hbase := h.hH
  have hM := h.hM
  obtain ⟨af, capf, rfl, _, _⟩ := row_form hf
  have hml : (fs.map Prod.fst).length = fs.length := List.length_map _
  rw [hml] at hf h5 hd
  have c5 : ∀ o, w.cell? ⟨n + 5, o, none⟩ = #[Value.slice af fs.length capf][o]? := blk_cell h5
  have f5 : ∀ o, w.frozen? ⟨n + 5, o, none⟩ = false := blk_frz h5
  have HH := Lib.hid h
  have HC := Lib.hid hc
  have HF := Lib.hid hf
  have HB := Lib.hid hb
  have HD := Lib.hid hd
  have HP := Lib.hid hp
  have HFF := Lib.hid hF
  have H4 := Lib.hid h4
  have H5 := Lib.hid h5
  have H6 := Lib.hid h6
  have hne5 : some (n + 5) ≠ (Value.slice af fs.length capf).ownBlock := fun e => by
    obtain ⟨_, _, cs', h3⟩ := row_blk hf e.symm
    rw [h5] at h3; cases h3
  have hkp : ∀ w1, GF H0 M0 w.drew.heap.size w.drew w1 → ∀ (j : Nat) (cs : Array Value) (T : Nat) (f : Nat × Nat), w.heap[j]? = some (.cells cs T f) → T = 93 ∨ T = 95 → w1.heap[j]? = some (.cells cs T f) := fun w1 hg j cs T f hj hT => by
    have hjM : j ≠ M0 := by
      rintro rfl
      obtain ⟨es, clk, hm, _⟩ := h.g.map
      rw [hm] at hj; cases hj
    exact (hg.blk j (Array.getElem?_eq_some_iff.1 hj).1 (not_Gx (w := w.drew) hj (by omega) hjM)).trans hj
  have HK := Lib.hid hkp
  clear h hc hf hb hd hp h4 h5 h6 hfc hkp hF
  go_enter Tryz.func75, Tryz.ntmps75
  go_wp2_with fail
  go_region_law (first
    | (refine step_rows _ (by rfl) _ _ 93 (by rfl) n 95 j _ 8 und93 hj hz hz1 hz2 rfl (.slice af fs.length capf) fs.length (ptrs (fs.map Prod.fst)) (by rfl) (by exact hrf) w.heap.size vx fs'.length (ptrs (fs'.map Prod.fst)) (by rfl) (by exact hrow) ptrs_one (by unfold maxLen; omega) (by omega) (by omega) ?_; intro v' w2 hown1 hgrow hat
       obtain ⟨a', cap', rfl, _, _⟩ := row_form hown1
       have hc5' : w2.cell? ⟨n + 5, 0, none⟩ = some (.slice af fs.length capf) := (hgrow.cell_far ⟨n + 5, 0, none⟩ (by simp; omega) hne5).trans hc5
       have hf5' : w2.frozen? ⟨n + 5, 0, none⟩ = false := (hgrow.frozen_far ⟨n + 5, 0, none⟩ (by simp; omega) hne5).trans (blk_frz h5' 0))
    | (go_simp; go_at_call 57; refine (HC.out).mono ?_; rintro e w1 ⟨vx, gd', rep', fs', rfl, hrow, hg', hgf, hk', hgt', q1, q2, q3⟩
       have hlen2 : fs'.length ≤ rep + cnt := (by have e1 := congrArg List.length q3; have e2 := HFF.out ⟨dsG gd, rep, [], []⟩; simp only [List.length_map, JS.m, List.length_nil] at e1 e2; omega)
       have hsz1 : w.heap.size ≤ w1.heap.size := hgf.size
       have h5' : w1.heap[n + 5]? = some (.cells #[Value.slice af fs.length capf] 93) := HK.out w1 hgf _ _ _ _ H5.out (by decide)
       have hrf : w1.ownsRow n 95 1 (.slice af fs.length capf) fs.length (ptrs (fs.map Prod.fst)) := row_keep HF.out (fun g e => by obtain ⟨_, _, cs, r3⟩ := row_blk HF.out e; exact (HK.out w1 hgf _ _ _ _ r3 (by decide)).trans r3.symm)
       have hc5 : w1.cell? ⟨n + 5, 0, none⟩ = some (.slice af fs.length capf) := blk_cell h5' 0
       have HR := Lib.hid q1; have HR2 := Lib.hid q2; have HR3 := Lib.hid q3; have HG := Lib.hid hgf; clear q1 q2 q3 hgf))
  all_goals
    have HG1 := Lib.hid hgrow
    have HO1 := Lib.hid hown1
    have HA1 := Lib.hid hat
    have H55 := Lib.hid h5'
    have HGT := Lib.hid hgt'
    have HKK := Lib.hid hk'
    clear hgrow hown1 hat h5' hrf hc5 hrow
    go_wp2_with fail
    go_end0
    exact ⟨rfl, nest_done HH.out hg' HG.out HKK.out HGT.out HR.out HR2.out HR3.out hbs H55.out HO1.out HG1.out HA1.out⟩
end Go.Proofs.YtpodifbgfcclbaaGreatDoor
