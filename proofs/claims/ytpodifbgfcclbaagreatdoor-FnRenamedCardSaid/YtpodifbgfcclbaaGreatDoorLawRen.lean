/- FnRenamed: statements with two labels in each other's place; what the law's function answers. -/
import Derived.Test.YtpodifbgfcclbaaGreatDoorLawApp
import Derived.Deep.CutRange
set_option linter.unusedVariables false
set_option linter.unusedSimpArgs false
namespace Go.Proofs.YtpodifbgfcclbaaGreatDoor
open Go.RowKit
attribute [local go_sem] Nat.lt_add_one_of_lt

/-! In order as before. -/
mutual
theorem szGo_rn (a b : Int) : ∀ (l : List Fl) (deep n : Nat), szGo deep (rnL a b l) n = szGo deep l n
  | [], deep, n => by rw [rnL]
  | .mk k lb d bd :: xs, deep, n => by
    rw [rnL, rnF, szGo, szGo, szB_rn a b bd deep (n + 1)]
    cases szB deep bd (n + 1) with
    | none => rfl
    | some m => exact szGo_rn a b xs deep m
theorem szB_rn (a b : Int) : ∀ (bd : List (List Fl)) (deep n : Nat), szB deep (rnB a b bd) n = szB deep bd n
  | [], deep, n => by rw [rnB]
  | y :: ys, deep, n => by
    have h1 := szGo_rn a b y (deep + 1) 0
    have h2 := fun m => szB_rn a b ys deep m
    rw [rnB, szB, szB, h1, h2]
end
theorem sw_lt {a b l : Int} (ha : 1 ≤ a) (hb : 1 ≤ b) : sw a b l < -1 ↔ l < -1 := by unfold sw; split <;> (try split) <;> omega
theorem sw_gt {a b l : Int} (ha : a ≤ 9) (hb : b ≤ 9) (ha1 : 1 ≤ a) (hb1 : 1 ≤ b) : 9 < sw a b l ↔ 9 < l := by unfold sw; split <;> (try split) <;> omega
theorem sw_eq0 {a b l : Int} (ha : 1 ≤ a) (hb : 1 ≤ b) : (sw a b l == 0) = (l == 0) := by
  rw [Bool.eq_iff_iff, beq_iff_eq, beq_iff_eq]; unfold sw; split <;> (try split) <;> omega
theorem rlen_B (a b : Int) : ∀ bd : List (List Fl), (rnB a b bd).length = bd.length := len_rnB a b
theorem rlen_L (a b : Int) : ∀ l : List Fl, (rnL a b l).length = l.length := len_rnL a b
theorem part_rn (a b : Int) : ∀ bd : List (List Fl), (partB (rnB a b bd) 0).length = (partB bd 0).length
  | [] => by rw [rnB]
  | y :: ys => by rw [rnB]; simp [partB, rlen_L]
theorem isE_rnL (a b : Int) : ∀ l : List Fl, (rnL a b l).isEmpty = l.isEmpty
  | [] => by rw [rnL]
  | y :: ys => by rw [rnL]; rfl
theorem isE_rnB (a b : Int) : ∀ l : List (List Fl), (rnB a b l).isEmpty = l.isEmpty
  | [] => by rw [rnB]
  | y :: ys => by rw [rnB]; rfl
mutual
theorem stF_rn {a b : Int} (ha : 1 ≤ a) (hb : 1 ≤ b) (ha9 : a ≤ 9) (hb9 : b ≤ 9) : ∀ (x : Fl) (t : Bool), stF (rnF a b x) t = stF x t
  | .mk k l d bd, t => by
    have h1 := stI_rn ha hb ha9 hb9 bd
    have h2 := liB_rn ha hb ha9 hb9 bd
    rw [rnF, stF, stF]
    simp only [h1, h2, sw_lt ha hb, sw_eq0 ha hb, rlen_B, part_rn, gt_iff_lt, sw_gt ha9 hb9 ha hb]
theorem stI_rn {a b : Int} (ha : 1 ≤ a) (hb : 1 ≤ b) (ha9 : a ≤ 9) (hb9 : b ≤ 9) : ∀ (bd : List (List Fl)) (t : Bool), stI (rnB a b bd) t = stI bd t
  | (y :: ys) :: r, t => by rw [rnB, rnL, stI, stI]; exact stF_rn ha hb ha9 hb9 y t
  | [], t => by rw [rnB]
  | [] :: r, t => by rw [rnB, rnL]; simp only [stI]
theorem fiL_rn {a b : Int} (ha : 1 ≤ a) (hb : 1 ≤ b) (ha9 : a ≤ 9) (hb9 : b ≤ 9) : ∀ (l : List Fl) (t : Bool), fiL (rnL a b l) t = fiL l t
  | [], t => by rw [rnL]
  | x :: xs, t => by rw [rnL, fiL, fiL, stF_rn ha hb ha9 hb9 x, fiL_rn ha hb ha9 hb9 xs t, isE_rnL]
theorem liB_rn {a b : Int} (ha : 1 ≤ a) (hb : 1 ≤ b) (ha9 : a ≤ 9) (hb9 : b ≤ 9) : ∀ (bd : List (List Fl)) (t : Bool), liB (rnB a b bd) t = liB bd t
  | [], t => by rw [rnB]
  | y :: ys, t => by rw [rnB, liB, liB, fiL_rn ha hb ha9 hb9 y, liB_rn ha hb ha9 hb9 ys t, isE_rnB]
end
theorem valid_rn {a b : Int} (ha : 1 ≤ a) (hb : 1 ≤ b) (ha9 : a ≤ 9) (hb9 : b ≤ 9) (l : List Fl) : validL (rnL a b l) = validL l := by
  have h1 : szL 0 (rnL a b l) = szL 0 l := by unfold szL; rw [szGo_rn]
  unfold validL
  rw [h1, fiL_rn ha hb ha9 hb9]
theorem rnL_app (a b : Int) (y : List Fl) : ∀ x : List Fl, rnL a b (x ++ y) = rnL a b x ++ rnL a b y
  | [] => by rw [rnL]; rfl
  | z :: x => by rw [List.cons_append, rnL, rnL, rnL_app a b y x]; rfl
theorem rnB_app (a b : Int) (y : List (List Fl)) : ∀ x : List (List Fl), rnB a b (x ++ y) = rnB a b x ++ rnB a b y
  | [] => by rw [rnB]; rfl
  | z :: x => by rw [List.cons_append, rnB, rnB, rnB_app a b y x]; rfl
theorem rnL_take {a b : Int} {l : List Fl} {i : Nat} {x : Fl} (h : l[i]? = some x) : rnL a b (l.take (i + 1)) = rnL a b (l.take i) ++ [rnF a b x] := by
  rw [List.take_add_one, h, rnL_app]
  simp [rnL]
theorem rnB_take {a b : Int} {l : List (List Fl)} {i : Nat} {x : List Fl} (h : l[i]? = some x) : rnB a b (l.take (i + 1)) = rnB a b (l.take i) ++ [rnL a b x] := by
  rw [List.take_add_one, h, rnB_app]
  simp [rnB]

/-! Lists that lie in blocks of a kind P. -/
mutual
def PL (w : World) (P : Nat → Prop) : Nat → Nat → List Fl → Prop
  | _, _, [] => True
  | b, o, .mk k l d bd :: xs => P b ∧ w.cell? ⟨b, o, none⟩ = some (.int .i64 k) ∧ w.cell? ⟨b, o + 1, none⟩ = some (.int .i64 l) ∧ w.cell? ⟨b, o + 2, none⟩ = some (.int .i64 d) ∧
      (∃ a cap, w.cell? ⟨b, o + 3, none⟩ = some (.slice a bd.length cap) ∧ bd.length ≤ cap ∧ bd.length * 24 ≤ 140737488355328 ∧ ∃ b' o', (bd ≠ [] → a = some ⟨b', o', none⟩) ∧ PLL w P b' o' bd) ∧ PL w P b (o + 4) xs
def PLL (w : World) (P : Nat → Prop) : Nat → Nat → List (List Fl) → Prop
  | _, _, [] => True
  | b, o, y :: ys => P b ∧ (∃ a cap, w.cell? ⟨b, o, none⟩ = some (.slice a y.length cap) ∧ y.length ≤ cap ∧ y.length * 48 ≤ 140737488355328 ∧ ∃ b' o', (y ≠ [] → a = some ⟨b', o', none⟩) ∧ PL w P b' o' y) ∧ PLL w P b (o + 1) ys
end
def SP (w : World) (P : Nat → Prop) (a : Option Addr) (cap : Nat) (l : List Fl) : Prop :=
  l.length ≤ cap ∧ l.length * 48 ≤ 140737488355328 ∧ ∃ b o, (l ≠ [] → a = some ⟨b, o, none⟩) ∧ PL w P b o l
def SPP (w : World) (P : Nat → Prop) (a : Option Addr) (cap : Nat) (l : List (List Fl)) : Prop :=
  l.length ≤ cap ∧ l.length * 24 ≤ 140737488355328 ∧ ∃ b o, (l ≠ [] → a = some ⟨b, o, none⟩) ∧ PLL w P b o l
theorem PL_cons {w : World} {P : Nat → Prop} {b o : Nat} {k l d : Int} {bd : List (List Fl)} {xs : List Fl} : PL w P b o (.mk k l d bd :: xs) ↔
    P b ∧ w.cell? ⟨b, o, none⟩ = some (.int .i64 k) ∧ w.cell? ⟨b, o + 1, none⟩ = some (.int .i64 l) ∧ w.cell? ⟨b, o + 2, none⟩ = some (.int .i64 d) ∧
      (∃ a cap, w.cell? ⟨b, o + 3, none⟩ = some (.slice a bd.length cap) ∧ SPP w P a cap bd) ∧ PL w P b (o + 4) xs := by
  rw [PL]; rfl
theorem PLL_cons {w : World} {P : Nat → Prop} {b o : Nat} {y : List Fl} {ys : List (List Fl)} : PLL w P b o (y :: ys) ↔
    P b ∧ (∃ a cap, w.cell? ⟨b, o, none⟩ = some (.slice a y.length cap) ∧ SP w P a cap y) ∧ PLL w P b (o + 1) ys := by
  rw [PLL]; rfl
mutual
theorem PL.keep {w w' : World} {P P' : Nat → Prop} (hk : ∀ k, P k → w'.heap[k]? = w.heap[k]?) (hP : ∀ k, P k → P' k) : ∀ {l : List Fl} {b o : Nat}, PL w P b o l → PL w' P' b o l
  | [], _, _, _ => by rw [PL]; trivial
  | .mk k l d bd :: xs, b, o, h => by
    obtain ⟨h1, h2, h3, h4, ⟨a, cap, h5, h6, h7, b', o', h8, h9⟩, h10⟩ := PL_cons.1 h
    have hc : ∀ o, w'.cell? ⟨b, o, none⟩ = w.cell? ⟨b, o, none⟩ := fun o => World.cell?_of_block (w := w) (hk b h1)
    exact PL_cons.2 ⟨hP b h1, (hc _).trans h2, (hc _).trans h3, (hc _).trans h4, ⟨a, cap, (hc _).trans h5, h6, h7, b', o', h8, PLL.keep hk hP h9⟩, PL.keep hk hP h10⟩
theorem PLL.keep {w w' : World} {P P' : Nat → Prop} (hk : ∀ k, P k → w'.heap[k]? = w.heap[k]?) (hP : ∀ k, P k → P' k) : ∀ {l : List (List Fl)} {b o : Nat}, PLL w P b o l → PLL w' P' b o l
  | [], _, _, _ => by rw [PLL]; trivial
  | y :: ys, b, o, h => by
    obtain ⟨h1, ⟨a, cap, h5, h6, h7, b', o', h8, h9⟩, h10⟩ := PLL_cons.1 h
    have hc : ∀ o, w'.cell? ⟨b, o, none⟩ = w.cell? ⟨b, o, none⟩ := fun o => World.cell?_of_block (w := w) (hk b h1)
    exact PLL_cons.2 ⟨hP b h1, ⟨a, cap, (hc _).trans h5, h6, h7, b', o', h8, PL.keep hk hP h9⟩, PLL.keep hk hP h10⟩
end
theorem SP.keep {w w' : World} {P P' : Nat → Prop} (hk : ∀ k, P k → w'.heap[k]? = w.heap[k]?) (hP : ∀ k, P k → P' k) {a : Option Addr} {cap : Nat} {l : List Fl} (h : SP w P a cap l) : SP w' P' a cap l := by
  obtain ⟨h1, h2, b, o, h3, h4⟩ := h
  exact ⟨h1, h2, b, o, h3, h4.keep hk hP⟩
theorem SPP.keep {w w' : World} {P P' : Nat → Prop} (hk : ∀ k, P k → w'.heap[k]? = w.heap[k]?) (hP : ∀ k, P k → P' k) {a : Option Addr} {cap : Nat} {l : List (List Fl)} (h : SPP w P a cap l) : SPP w' P' a cap l := by
  obtain ⟨h1, h2, b, o, h3, h4⟩ := h
  exact ⟨h1, h2, b, o, h3, h4.keep hk hP⟩
mutual
theorem PL.el {w : World} {P : Nat → Prop} {H : Nat} (hP : ∀ k, P k → k < H) : ∀ {l : List Fl} {b o : Nat}, PL w P b o l → EL w H b o l
  | [], _, _, _ => EL_nil
  | .mk k l d bd :: xs, b, o, h => by
    obtain ⟨h1, h2, h3, h4, ⟨a, cap, h5, h6, h7, b', o', h8, h9⟩, h10⟩ := PL_cons.1 h
    exact EL_cons.2 ⟨hP b h1, h2, h3, h4, ⟨a, cap, h5, h6, h7, b', o', h8, PLL.el hP h9⟩, PL.el hP h10⟩
theorem PLL.el {w : World} {P : Nat → Prop} {H : Nat} (hP : ∀ k, P k → k < H) : ∀ {l : List (List Fl)} {b o : Nat}, PLL w P b o l → ELL w H b o l
  | [], _, _, _ => ELL_nil
  | y :: ys, b, o, h => by
    obtain ⟨h1, ⟨a, cap, h5, h6, h7, b', o', h8, h9⟩, h10⟩ := PLL_cons.1 h
    exact ELL_cons.2 ⟨hP b h1, ⟨a, cap, h5, h6, h7, b', o', h8, PL.el hP h9⟩, PLL.el hP h10⟩
end
theorem SP.sl {w : World} {P : Nat → Prop} {H : Nat} (hP : ∀ k, P k → k < H) {a : Option Addr} {cap : Nat} {l : List Fl} (h : SP w P a cap l) : SL w H a cap l := by
  obtain ⟨h1, h2, b, o, h3, h4⟩ := h
  exact ⟨h1, h2, b, o, h3, h4.el hP⟩
/-- Statements at block g whose lists lie in P. -/
def PN (w : World) (P : Nat → Prop) (g : Nat) : Nat → List Fl → Prop
  | _, [] => True
  | o, .mk k l d bd :: xs => w.cell? ⟨g, o, none⟩ = some (.int .i64 k) ∧ w.cell? ⟨g, o + 1, none⟩ = some (.int .i64 l) ∧ w.cell? ⟨g, o + 2, none⟩ = some (.int .i64 d) ∧ (∃ a cap, w.cell? ⟨g, o + 3, none⟩ = some (.slice a bd.length cap) ∧ SPP w P a cap bd) ∧ PN w P g (o + 4) xs
def PN2 (w : World) (P : Nat → Prop) (g : Nat) : Nat → List (List Fl) → Prop
  | _, [] => True
  | o, y :: ys => (∃ a cap, w.cell? ⟨g, o, none⟩ = some (.slice a y.length cap) ∧ SP w P a cap y) ∧ PN2 w P g (o + 1) ys
theorem PN.pl {w : World} {P P' : Nat → Prop} {g : Nat} (hg : P' g) (hP : ∀ k, P k → P' k) : ∀ {l : List Fl} {o : Nat}, PN w P g o l → PL w P' g o l
  | [], _, _ => by rw [PL]; trivial
  | .mk k l d bd :: xs, o, h => by
    obtain ⟨h2, h3, h4, ⟨a, cap, h5, h6⟩, h7⟩ := h
    exact PL_cons.2 ⟨hg, h2, h3, h4, ⟨a, cap, h5, h6.keep (fun _ _ => rfl) hP⟩, PN.pl hg hP h7⟩
theorem PN2.pl {w : World} {P P' : Nat → Prop} {g : Nat} (hg : P' g) (hP : ∀ k, P k → P' k) : ∀ {l : List (List Fl)} {o : Nat}, PN2 w P g o l → PLL w P' g o l
  | [], _, _ => by rw [PLL]; trivial
  | y :: ys, o, h => by
    obtain ⟨⟨a, cap, h5, h6⟩, h7⟩ := h
    exact PLL_cons.2 ⟨hg, ⟨a, cap, h5, h6.keep (fun _ _ => rfl) hP⟩, PN2.pl hg hP h7⟩
theorem PN_cell {w : World} {P : Nat → Prop} {b : Nat} : ∀ {l : List Fl} {o : Nat}, PN w P b o l → ∀ j, j < l.length * 4 → ∃ u, w.cell? ⟨b, o + j, none⟩ = some u ∧ u.oneCell' = true
  | [], o, h, j, hj => by simp at hj
  | .mk k l d bd :: xs, o, h, j, hj => by
    obtain ⟨h2, h3, h4, ⟨a, cap, h5, _⟩, h10⟩ := h
    match j, hj with
    | 0, _ => exact ⟨_, h2, rfl⟩
    | 1, _ => exact ⟨_, h3, rfl⟩
    | 2, _ => exact ⟨_, h4, rfl⟩
    | 3, _ => exact ⟨_, h5, rfl⟩
    | j + 4, hj =>
      have := PN_cell h10 j (by simp only [List.length_cons] at hj; omega)
      rw [show o + (j + 4) = o + 4 + j by omega]
      exact this
theorem PN2_cell {w : World} {P : Nat → Prop} {b : Nat} : ∀ {l : List (List Fl)} {o : Nat}, PN2 w P b o l → ∀ j, j < l.length * 1 → ∃ u, w.cell? ⟨b, o + j, none⟩ = some u ∧ u.oneCell' = true
  | [], o, h, j, hj => by simp at hj
  | y :: ys, o, h, 0, hj => by
    obtain ⟨⟨a, cap, h5, _⟩, _⟩ := h
    exact ⟨_, h5, rfl⟩
  | y :: ys, o, h, j + 1, hj => by
    have := PN2_cell h.2 j (by simp only [List.length_cons] at hj; omega)
    rw [show o + (j + 1) = o + 1 + j by omega]
    exact this
theorem PN_copy {w w' : World} {P P' : Nat → Prop} {b g : Nat} (hk : ∀ k, P k → w'.heap[k]? = w.heap[k]?) (hP : ∀ k, P k → P' k) : ∀ {l : List Fl} {o o' : Nat}, PN w P b o l → (∀ j, j < l.length * 4 → w'.cell? ⟨g, o' + j, none⟩ = w.cell? ⟨b, o + j, none⟩) → PN w' P' g o' l
  | [], _, _, _, _ => trivial
  | .mk k l d bd :: xs, o, o', h, hc => by
    obtain ⟨h2, h3, h4, ⟨a, cap, h5, h6⟩, h10⟩ := h
    have c0 := hc 0 (by simp)
    have c1 := hc 1 (by simp only [List.length_cons]; omega)
    have c2 := hc 2 (by simp only [List.length_cons]; omega)
    have c3 := hc 3 (by simp only [List.length_cons]; omega)
    exact ⟨c0.trans h2, c1.trans h3, c2.trans h4, ⟨a, cap, c3.trans h5, h6.keep hk hP⟩, PN_copy hk hP h10 fun j hj => by
      have := hc (j + 4) (by simp only [List.length_cons]; omega)
      rw [show o' + (j + 4) = o' + 4 + j by omega, show o + (j + 4) = o + 4 + j by omega] at this
      exact this⟩
theorem PN2_copy {w w' : World} {P P' : Nat → Prop} {b g : Nat} (hk : ∀ k, P k → w'.heap[k]? = w.heap[k]?) (hP : ∀ k, P k → P' k) : ∀ {l : List (List Fl)} {o o' : Nat}, PN2 w P b o l → (∀ j, j < l.length * 1 → w'.cell? ⟨g, o' + j, none⟩ = w.cell? ⟨b, o + j, none⟩) → PN2 w' P' g o' l
  | [], _, _, _, _ => trivial
  | y :: ys, o, o', h, hc => by
    obtain ⟨⟨a, cap, h5, h6⟩, h10⟩ := h
    have c0 := hc 0 (by simp)
    exact ⟨⟨a, cap, c0.trans h5, h6.keep hk hP⟩, PN2_copy hk hP h10 fun j hj => by
      have := hc (j + 1) (by simp only [List.length_cons]; omega)
      rw [show o' + (j + 1) = o' + 1 + j by omega, show o + (j + 1) = o + 1 + j by omega] at this
      exact this⟩
theorem PN_append {w : World} {P : Nat → Prop} {b : Nat} {m : List Fl} : ∀ {l : List Fl} {o : Nat}, PN w P b o l → PN w P b (o + l.length * 4) m → PN w P b o (l ++ m)
  | [], o, _, h => by simpa using h
  | .mk k l d bd :: xs, o, h, hm => by
    obtain ⟨h2, h3, h4, h5, h10⟩ := h
    exact ⟨h2, h3, h4, h5, PN_append h10 (by
      rw [List.length_cons] at hm
      rw [show o + 4 + xs.length * 4 = o + (xs.length + 1) * 4 by omega]
      exact hm)⟩
theorem PN2_append {w : World} {P : Nat → Prop} {b : Nat} {m : List (List Fl)} : ∀ {l : List (List Fl)} {o : Nat}, PN2 w P b o l → PN2 w P b (o + l.length * 1) m → PN2 w P b o (l ++ m)
  | [], o, _, h => by simpa using h
  | y :: ys, o, h, hm => by
    obtain ⟨h5, h10⟩ := h
    exact ⟨h5, PN2_append h10 (by
      rw [List.length_cons] at hm
      rw [show o + 1 + ys.length * 1 = o + (ys.length + 1) * 1 by omega]
      exact hm)⟩
theorem rown_cell {T s : Nat} {w : World} {base n g cap : Nat} {xs : List Value} (h : w.ownsRow base T s (.slice (some ⟨g, 0, none⟩) n cap) n xs) : base ≤ g ∧ g < w.heap.size ∧ n ≤ cap ∧ ∀ j, j < n * s → w.cell? ⟨g, j, none⟩ = xs[j]? := by
  rcases h.2 with ⟨h1, _⟩ | ⟨g', cap', cur, h1, h2, h3, h4, h5, h6, h7⟩
  · cases h1
  · cases h1
    refine ⟨h2, (Array.getElem?_eq_some_iff.1 h3).1, h4, fun j hj => ?_⟩
    rw [blk_cell h3, ← h7, List.getElem?_take, if_pos hj]
    simp
theorem rown_up {T s : Nat} {w w' : World} {base n : Nat} {v : Value} {xs : List Value} (h : w.ownsRow base T s v n xs) (hb : Below w.heap.size w w') : w'.ownsRow base T s v n xs := by
  refine ⟨h.1, ?_⟩
  rcases h.2 with h0 | ⟨g, cap, cur, e, h1, h2, h3⟩
  · exact .inl h0
  · exact .inr ⟨g, cap, cur, e, h1, (hb.block g (Array.getElem?_eq_some_iff.1 h2).1).trans h2, h3⟩
theorem info22r : ∃ j z, Tryz.prog.info? 22 = some j ∧ j.zero = some z ∧ z.cells.size = 1 ∧ j.size = 1 ∧ j.bytes = 24 := by
  have h : (Tryz.prog.info? 22).map (fun j => (j.zero.map (fun z => z.cells.size), j.size, j.bytes)) = some (some 1, 1, 24) := by kernel_rfl
  cases hj : Tryz.prog.info? 22 with
  | none => rw [hj] at h; cases h
  | some j =>
    rw [hj] at h
    simp only [Option.map_some, Option.some.injEq, Prod.mk.injEq] at h
    obtain ⟨h1, h2, h3⟩ := h
    cases hz : j.zero with
    | none => rw [hz] at h1; cases h1
    | some z => rw [hz] at h1; simp at h1; exact ⟨j, z, rfl, hz, h1, h2, h3⟩
/-- A row that is owned; what it holds lies elsewhere behind B. -/
structure RP (B : Nat) (w : World) (v : Value) (l : List Fl) : Prop where
  own : ∃ xs, w.ownsRow B 27 4 v l.length xs
  en : ∀ g, v.ownBlock = some g → PN w (fun b => B ≤ b ∧ b < w.heap.size ∧ b ≠ g) g 0 l
theorem RP.nil {B : Nat} {w : World} : RP B w (.slice none 0 0) [] := ⟨⟨[], rfl, .inl ⟨rfl, rfl⟩⟩, fun g e => by cases e⟩
theorem RP.up {B : Nat} {w w' : World} {v : Value} {l : List Fl} (h : RP B w v l) (hb : Below w.heap.size w w') : RP B w' v l := by
  obtain ⟨⟨xs, hx⟩, en⟩ := h
  have hs := hb.size
  refine ⟨⟨xs, rown_up hx hb⟩, fun g e => ?_⟩
  obtain ⟨_, hg, _⟩ := row_blk hx e
  exact PN_copy (fun k hk => hb.block k hk.2.1) (fun k hk => ⟨hk.1, by omega, hk.2.2⟩) (en g e) fun j hj => hb.cell (p := ⟨g, 0 + j, none⟩) hg
theorem RP.step {B g' cap' b o : Nat} {w w1 : World} {l m : List Fl} {v : Value} {xs : List Value} (h : RP B w v l) (hx : w.ownsRow B 27 4 v l.length xs) (hm : PN w (fun b => B ≤ b ∧ b < w.heap.size ∧ ∀ g, v.ownBlock = some g → b ≠ g) b o m) (hB : B ≤ w.heap.size)
    (hown : w1.ownsRow B 27 4 (.slice (some ⟨g', 0, none⟩) (l.length + m.length) cap') (l.length + m.length) (xs ++ newsOf w b o (m.length * 4))) (hgr : w.grownBy w1 v.ownBlock) (hat : v.ownBlock = some g' ∨ g' = w.heap.size) :
    RP B w1 (.slice (some ⟨g', 0, none⟩) (l ++ m).length cap') (l ++ m) ∧ Below B w w1 := by
  have hb : Below B w w1 := ⟨hgr.os, hgr.tape, hgr.output, hgr.size, fun k hk => hgr.block k (by omega) fun e => by
    have := (row_blk hx e.symm).1
    omega⟩
  have hlen : xs.length = l.length * 4 := hx.1
  have hsz := hgr.size
  obtain ⟨r1, r2, r3, r4⟩ := rown_cell hown
  refine ⟨⟨⟨_, by rw [List.length_append]; exact hown⟩, fun g e => ?_⟩, hb⟩
  simp only [Value.ownBlock, Option.map_some, Option.some.injEq] at e
  subst e
  refine PN_append ?_ ?_
  · by_cases hl : l = []
    · subst hl; trivial
    · rcases hx.2 with ⟨_, h0⟩ | ⟨g0, cap0, cur, rfl, _⟩
      · exact absurd (List.length_eq_zero_iff.1 h0) hl
      · have hen := h.en g0 rfl
        obtain ⟨_, q2, _, q4⟩ := rown_cell hx
        refine PN_copy (fun k hk => hgr.block k hk.2.1 (by simp only [Value.ownBlock, Option.map_some, ne_eq, Option.some.injEq]; exact hk.2.2)) (fun k hk => ⟨hk.1, by omega, ?_⟩) hen fun j hj => ?_
        · rw [Nat.zero_add, r4 j (by have := hj; rw [Nat.add_mul]; omega), q4 j (by omega), List.getElem?_append_left (by omega)]
        · rcases hat with hat | hat
          · simp only [Value.ownBlock, Option.map_some, Option.some.injEq] at hat
            rw [← hat]; exact hk.2.2
          · have := hk.2.1; omega
  · refine PN_copy (fun k hk => hgr.block k hk.2.1 fun e => hk.2.2 k e.symm rfl) (fun k hk => ⟨hk.1, by omega, ?_⟩) hm fun j hj => ?_
    rotate_left
    · rcases hat with hat | hat
      · exact hk.2.2 _ hat
      · have := hk.2.1; omega
    · rw [Nat.zero_add, r4 (l.length * 4 + j) (by rw [Nat.add_mul]; omega), List.getElem?_append_right (by omega), hlen, Nat.add_sub_cancel_left, newsOf_get hj]
      obtain ⟨u, hu, _⟩ := PN_cell hm j hj
      rw [hu]; rfl
theorem RP.sp {B : Nat} {w : World} {v : Value} {l : List Fl} (h : RP B w v l) (hs : l.length * 48 ≤ 140737488355328) : ∃ a cap, v = .slice a l.length cap ∧ SP w (fun b => B ≤ b ∧ b < w.heap.size) a cap l := by
  obtain ⟨xs, hx⟩ := h.own
  rcases hx.2 with ⟨rfl, h0⟩ | ⟨g0, cap0, cur, rfl, _⟩
  · obtain rfl : l = [] := List.length_eq_zero_iff.1 h0
    exact ⟨none, 0, rfl, Nat.le_refl _, by simp, 0, 0, fun h => absurd rfl h, by rw [PL]; trivial⟩
  · obtain ⟨r1, r2, r3, r4⟩ := rown_cell hx
    exact ⟨_, cap0, rfl, r3, hs, g0, 0, fun _ => rfl, PN.pl ⟨r1, r2⟩ (fun k hk => ⟨hk.1, hk.2.1⟩) (h.en g0 rfl)⟩
theorem RP.blk {B : Nat} {w : World} {v : Value} {l : List Fl} (h : RP B w v l) {g : Nat} (hg : v.ownBlock = some g) : g < w.heap.size := by
  obtain ⟨xs, hx⟩ := h.own
  exact (row_blk hx hg).2.1
theorem wpList_RP {w : World} {ops : Array Oper} {rest : List Oper} {o : Oper} {a : Act} {Q : Exit → Act → World → Prop} (hgd : o.guard = none) (s x : Operand)
    (ho : o.op = .call { callee := .builtin .append, args := #[s, x], argTypes := #[22, 22] }) {l m L : List Fl} (hL : L = l ++ m) {B : Nat} {v : Value} (hrw : RP B w v l) {b2 o2 c2 : Nat} (hs : a.eval s = v) (hx : a.eval x = .slice (some ⟨b2, o2, none⟩) m.length c2)
    (h2 : PN w (fun b => B ≤ b ∧ b < w.heap.size ∧ ∀ g, v.ownBlock = some g → b ≠ g) b2 o2 m) (hm : m ≠ []) (hbd : L.length * 48 ≤ 140737488355328) (hB : B ≤ w.heap.size)
    (h : ∀ g cap w', RP B w' (.slice (some ⟨g, 0, none⟩) L.length cap) L → Below B w w' → wpList Tryz.prog ops Q rest (a.put o.dst (.slice (some ⟨g, 0, none⟩) L.length cap)) w') : wpList Tryz.prog ops Q (o :: rest) a w := by
  obtain ⟨j, z, hj, hz, hzs, hj1, hj2⟩ := info27
  obtain ⟨xs, hown⟩ := hrw.own
  have hlen : L.length = l.length + m.length := by rw [hL, List.length_append]
  have hm1 : 0 < m.length := List.length_pos_iff.2 hm
  have hrd : ∀ i u, (newsOf w b2 o2 (m.length * 4))[i]? = some u → w.cell? (Addr.add ⟨b2, o2, none⟩ i) = some u ∧ u.oneCell' = true := by
    intro i u hi
    have hlt : i < m.length * 4 := by
      have := (List.getElem?_eq_some_iff.1 hi).1
      rwa [newsOf_len] at this
    obtain ⟨u', hu, ho'⟩ := PN_cell h2 i hlt
    rw [newsOf_get hlt, hu] at hi
    have hh : u' = u := by simpa using hi
    subst hh
    rw [add_pl]; exact ⟨hu, ho'⟩
  refine wpList_append_lies w hgd s x 22 ho B 27 j z 4 48 Tryz.underlying22 hj hz hj1 hj2 hzs (by decide) v l.length xs hs hown ⟨b2, o2, none⟩ m.length c2 (newsOf w b2 o2 (m.length * 4)) hx (newsOf_len _ _ _ _) (fun i u hi => (hrd i u hi).1) (fun u hu => by
    obtain ⟨i, hi⟩ := List.getElem?_of_mem hu
    exact (hrd i u hi).2) hm1 (by unfold maxLen; omega) (by omega) hB w.heap.size rfl ?_
  intro g cap w' hown' hgr hat _
  obtain ⟨q1, q2⟩ := hrw.step hown h2 hB hown' hgr hat
  rw [← hL] at q1
  have hh := h g cap w' q1 q2
  rw [hlen] at hh
  exact hh
/-- A row that is owned; what it holds lies elsewhere behind B. -/
structure RP2 (B : Nat) (w : World) (v : Value) (l : List (List Fl)) : Prop where
  own : ∃ xs, w.ownsRow B 22 1 v l.length xs
  en : ∀ g, v.ownBlock = some g → PN2 w (fun b => B ≤ b ∧ b < w.heap.size ∧ b ≠ g) g 0 l
theorem RP2.nil {B : Nat} {w : World} : RP2 B w (.slice none 0 0) [] := ⟨⟨[], rfl, .inl ⟨rfl, rfl⟩⟩, fun g e => by cases e⟩
theorem RP2.up {B : Nat} {w w' : World} {v : Value} {l : List (List Fl)} (h : RP2 B w v l) (hb : Below w.heap.size w w') : RP2 B w' v l := by
  obtain ⟨⟨xs, hx⟩, en⟩ := h
  have hs := hb.size
  refine ⟨⟨xs, rown_up hx hb⟩, fun g e => ?_⟩
  obtain ⟨_, hg, _⟩ := row_blk hx e
  exact PN2_copy (fun k hk => hb.block k hk.2.1) (fun k hk => ⟨hk.1, by omega, hk.2.2⟩) (en g e) fun j hj => hb.cell (p := ⟨g, 0 + j, none⟩) hg
theorem RP2.step {B g' cap' b o : Nat} {w w1 : World} {l m : List (List Fl)} {v : Value} {xs : List Value} (h : RP2 B w v l) (hx : w.ownsRow B 22 1 v l.length xs) (hm : PN2 w (fun b => B ≤ b ∧ b < w.heap.size ∧ ∀ g, v.ownBlock = some g → b ≠ g) b o m) (hB : B ≤ w.heap.size)
    (hown : w1.ownsRow B 22 1 (.slice (some ⟨g', 0, none⟩) (l.length + m.length) cap') (l.length + m.length) (xs ++ newsOf w b o (m.length * 1))) (hgr : w.grownBy w1 v.ownBlock) (hat : v.ownBlock = some g' ∨ g' = w.heap.size) :
    RP2 B w1 (.slice (some ⟨g', 0, none⟩) (l ++ m).length cap') (l ++ m) ∧ Below B w w1 := by
  have hb : Below B w w1 := ⟨hgr.os, hgr.tape, hgr.output, hgr.size, fun k hk => hgr.block k (by omega) fun e => by
    have := (row_blk hx e.symm).1
    omega⟩
  have hlen : xs.length = l.length * 1 := hx.1
  have hsz := hgr.size
  obtain ⟨r1, r2, r3, r4⟩ := rown_cell hown
  refine ⟨⟨⟨_, by rw [List.length_append]; exact hown⟩, fun g e => ?_⟩, hb⟩
  simp only [Value.ownBlock, Option.map_some, Option.some.injEq] at e
  subst e
  refine PN2_append ?_ ?_
  · by_cases hl : l = []
    · subst hl; trivial
    · rcases hx.2 with ⟨_, h0⟩ | ⟨g0, cap0, cur, rfl, _⟩
      · exact absurd (List.length_eq_zero_iff.1 h0) hl
      · have hen := h.en g0 rfl
        obtain ⟨_, q2, _, q4⟩ := rown_cell hx
        refine PN2_copy (fun k hk => hgr.block k hk.2.1 (by simp only [Value.ownBlock, Option.map_some, ne_eq, Option.some.injEq]; exact hk.2.2)) (fun k hk => ⟨hk.1, by omega, ?_⟩) hen fun j hj => ?_
        · rw [Nat.zero_add, r4 j (by have := hj; rw [Nat.add_mul]; omega), q4 j (by omega), List.getElem?_append_left (by omega)]
        · rcases hat with hat | hat
          · simp only [Value.ownBlock, Option.map_some, Option.some.injEq] at hat
            rw [← hat]; exact hk.2.2
          · have := hk.2.1; omega
  · refine PN2_copy (fun k hk => hgr.block k hk.2.1 fun e => hk.2.2 k e.symm rfl) (fun k hk => ⟨hk.1, by omega, ?_⟩) hm fun j hj => ?_
    rotate_left
    · rcases hat with hat | hat
      · exact hk.2.2 _ hat
      · have := hk.2.1; omega
    · rw [Nat.zero_add, r4 (l.length * 1 + j) (by rw [Nat.add_mul]; omega), List.getElem?_append_right (by omega), hlen, Nat.add_sub_cancel_left, newsOf_get hj]
      obtain ⟨u, hu, _⟩ := PN2_cell hm j hj
      rw [hu]; rfl
theorem RP2.sp {B : Nat} {w : World} {v : Value} {l : List (List Fl)} (h : RP2 B w v l) (hs : l.length * 24 ≤ 140737488355328) : ∃ a cap, v = .slice a l.length cap ∧ SPP w (fun b => B ≤ b ∧ b < w.heap.size) a cap l := by
  obtain ⟨xs, hx⟩ := h.own
  rcases hx.2 with ⟨rfl, h0⟩ | ⟨g0, cap0, cur, rfl, _⟩
  · obtain rfl : l = [] := List.length_eq_zero_iff.1 h0
    exact ⟨none, 0, rfl, Nat.le_refl _, by simp, 0, 0, fun h => absurd rfl h, by rw [PLL]; trivial⟩
  · obtain ⟨r1, r2, r3, r4⟩ := rown_cell hx
    exact ⟨_, cap0, rfl, r3, hs, g0, 0, fun _ => rfl, PN2.pl ⟨r1, r2⟩ (fun k hk => ⟨hk.1, hk.2.1⟩) (h.en g0 rfl)⟩
theorem RP2.blk {B : Nat} {w : World} {v : Value} {l : List (List Fl)} (h : RP2 B w v l) {g : Nat} (hg : v.ownBlock = some g) : g < w.heap.size := by
  obtain ⟨xs, hx⟩ := h.own
  exact (row_blk hx hg).2.1
theorem wpList_RP2 {w : World} {ops : Array Oper} {rest : List Oper} {o : Oper} {a : Act} {Q : Exit → Act → World → Prop} (hgd : o.guard = none) (s x : Operand)
    (ho : o.op = .call { callee := .builtin .append, args := #[s, x], argTypes := #[25, 25] }) {l m L : List (List Fl)} (hL : L = l ++ m) {B : Nat} {v : Value} (hrw : RP2 B w v l) {b2 o2 c2 : Nat} (hs : a.eval s = v) (hx : a.eval x = .slice (some ⟨b2, o2, none⟩) m.length c2)
    (h2 : PN2 w (fun b => B ≤ b ∧ b < w.heap.size ∧ ∀ g, v.ownBlock = some g → b ≠ g) b2 o2 m) (hm : m ≠ []) (hbd : L.length * 24 ≤ 140737488355328) (hB : B ≤ w.heap.size)
    (h : ∀ g cap w', RP2 B w' (.slice (some ⟨g, 0, none⟩) L.length cap) L → Below B w w' → wpList Tryz.prog ops Q rest (a.put o.dst (.slice (some ⟨g, 0, none⟩) L.length cap)) w') : wpList Tryz.prog ops Q (o :: rest) a w := by
  obtain ⟨j, z, hj, hz, hzs, hj1, hj2⟩ := info22r
  obtain ⟨xs, hown⟩ := hrw.own
  have hlen : L.length = l.length + m.length := by rw [hL, List.length_append]
  have hm1 : 0 < m.length := List.length_pos_iff.2 hm
  have hrd : ∀ i u, (newsOf w b2 o2 (m.length * 1))[i]? = some u → w.cell? (Addr.add ⟨b2, o2, none⟩ i) = some u ∧ u.oneCell' = true := by
    intro i u hi
    have hlt : i < m.length * 1 := by
      have := (List.getElem?_eq_some_iff.1 hi).1
      rwa [newsOf_len] at this
    obtain ⟨u', hu, ho'⟩ := PN2_cell h2 i hlt
    rw [newsOf_get hlt, hu] at hi
    have hh : u' = u := by simpa using hi
    subst hh
    rw [add_pl]; exact ⟨hu, ho'⟩
  refine wpList_append_lies w hgd s x 25 ho B 22 j z 1 24 Tryz.underlying25 hj hz hj1 hj2 hzs (by decide) v l.length xs hs hown ⟨b2, o2, none⟩ m.length c2 (newsOf w b2 o2 (m.length * 1)) hx (newsOf_len _ _ _ _) (fun i u hi => (hrd i u hi).1) (fun u hu => by
    obtain ⟨i, hi⟩ := List.getElem?_of_mem hu
    exact (hrd i u hi).2) hm1 (by unfold maxLen; omega) (by omega) hB w.heap.size rfl ?_
  intro g cap w' hown' hgr hat _
  obtain ⟨q1, q2⟩ := hrw.step hown h2 hB hown' hgr hat
  rw [← hL] at q1
  have hh := h g cap w' q1 q2
  rw [hlen] at hh
  exact hh
def RenC (la lb : Int) (l : List Fl) : Prop := ∀ (a : Option Addr) (cap : Nat) (w : World), SL w w.heap.size a cap l → Calls Tryz.prog 33 #[.slice a l.length cap, .int .i64 la, .int .i64 lb] w fun e w' => ∃ v, e = .returned v ∧ RP w.heap.size w' v (rnL la lb l) ∧ Below w.heap.size w w'
set_option maxRecDepth 100000 in
set_option maxHeartbeats 16000000 in
theorem renamed_any (la lb : Int) : ∀ (fuel : Nat) (l : List Fl), rkL l < fuel → RenC la lb l := by
  intro fuel
  induction fuel with
  | zero => intro l h; omega
  | succ fuel ih =>
    intro l hrk a cap w hs
    have hlen : l.length * 48 ≤ 140737488355328 := hs.2.1
    obtain ⟨_, _, b, o, hsa, he⟩ := hs
    have HE := Lib.hid he
    have HSA := Lib.hid hsa
    have IH := Lib.hid ih
    clear he hsa ih
    go_enter Tryz.func33, Tryz.ntmps33
    go_wp2_with fail
    go_loopg [7, 15] l.length (fun g v7 vi wr => ∃ i : Nat, i + g = l.length ∧ vi = .int .i64 i ∧ RP w.heap.size wr v7 (rnL la lb (l.take i)) ∧ Below w.heap.size w wr)
    case atStart => exact ⟨0, by omega, rfl, by rw [List.take_zero, rnL]; exact RP.nil, Below.refl _ _⟩
    case round =>
      obtain ⟨i, hi, rfl, hrow, hb⟩ := hrel
      by_cases hlt : i < l.length
      · obtain ⟨hbH, k, lx, d, bd, a', cap', _, hx, c0, c1, c2, c3, hsl⟩ := HE.out.at i hlt
        obtain rfl := HSA.out (by rintro rfl; simp at hlt)
        have d0 : wr.cell? ⟨b, o + i * 4, none⟩ = _ := (hb.cell (p := ⟨b, o + i * 4, none⟩) hbH).trans c0
        have d1 : wr.cell? ⟨b, o + i * 4 + 1, none⟩ = _ := (hb.cell (p := ⟨b, o + i * 4 + 1, none⟩) hbH).trans c1
        have d2 : wr.cell? ⟨b, o + i * 4 + 2, none⟩ = _ := (hb.cell (p := ⟨b, o + i * 4 + 2, none⟩) hbH).trans c2
        have d3 : wr.cell? ⟨b, o + i * 4 + 3, none⟩ = _ := (hb.cell (p := ⟨b, o + i * 4 + 3, none⟩) hbH).trans c3
        have hbr : b < wr.heap.size := by have := hb.size; omega
        have hiI : (i : Int) < (l.length : Int) := by omega
        have hi0 : (0 : Int) ≤ (i : Int) := by omega
        have hszr : w.heap.size ≤ wr.heap.size := hb.size
        by_cases hl1 : lx = la
        · skip
          have hl1' := hl1.symm
          subst hl1'
          clear hl1
          have hlab : sw la lb la = lb := by simp [sw]
          obtain ⟨W9, hW9⟩ : ∃ W9, W9 = wr.alloc (.cells #[.int .i64 k, .int .i64 lb, .int .i64 d, .slice a' bd.length cap'] 27) := ⟨_, rfl⟩
          have hb9 : Below wr.heap.size wr W9 := by rw [hW9]; exact bal _ _
          have hz9 : W9.heap.size = wr.heap.size + 1 := by rw [hW9]; simp
          have hblk9 : W9.heap[wr.heap.size]? = some (.cells #[.int .i64 k, .int .i64 lb, .int .i64 d, .slice a' bd.length cap'] 27) := by rw [hW9]; exact blk_new _ _ _
          obtain ⟨B9, hB9⟩ : ∃ B9, B9 = W9.heap.size := ⟨_, rfl⟩
          obtain ⟨C9, hC9⟩ : ∃ C9, C9 = wr.heap.size := ⟨_, rfl⟩
          have hsl9 : SLL W9 W9.heap.size a' cap' bd := (hsl.keep (w' := wr) (H' := wr.heap.size) (fun q hq => hb.block q (by omega)) hb.size).up hb9
          have hsl9b := hsl9.2.2
          obtain ⟨b2, o2, hsa2, hell⟩ := hsl9b
          have hlen2 : bd.length * 24 ≤ 140737488355328 := hsl.2.1
          rw [← hC9] at hblk9
          have HELL := Lib.hid hell
          have HSA2 := Lib.hid hsa2
          have HB := Lib.hid hb
          have HB9 := Lib.hid hb9
          have HZ9 := Lib.hid hz9
          have HBLK9 := Lib.hid hblk9
          have HBB9 := Lib.hid hB9
          have HC9 := Lib.hid hC9
          have HW9 := Lib.hid hW9
          have HX := Lib.hid hx
          have HR := Lib.hid hrow
          have HLAB := Lib.hid hlab
          have hi2 := Lib.hid hi
          obtain ⟨g0, hg0⟩ : ∃ g0, g0 = gk := ⟨_, rfl⟩
          clear hell hsa2 hb hb9 hz9 hblk9 hB9 hW9 hx hrow hlab hsl hsl9 c0 c1 c2 c3 hC9 hi
          go_wp2_with fail
          rw [← HW9.out, ← HC9.out]
          go_loopg [10, 34] bd.length (fun g v10 vi wq => ∃ j : Nat, j + g = bd.length ∧ vi = .int .i64 j ∧ RP2 B9 wq v10 (rnB la lb (bd.take j)) ∧ Below B9 W9 wq)
          case atStart => exact ⟨0, by omega, rfl, by rw [List.take_zero, rnB]; exact RP2.nil, by rw [HBB9.out]; exact Below.refl _ _⟩
          case round =>
            obtain ⟨j, hj, rfl, hrow2, hbq⟩ := hrel
            by_cases hltj : j < bd.length
            · have hbqw := hbq.size
              have hB9e := HBB9.out
              obtain ⟨hb2H, y, a3, cap3, _, hy, cy, hsy⟩ := HELL.out.at j hltj
              obtain rfl := HSA2.out (by rintro rfl; simp at hltj)
              have dy : wr.cell? ⟨b2, o2 + j, none⟩ = _ := (hbq.cell (p := ⟨b2, o2 + j, none⟩) (by show b2 < B9; omega)).trans cy
              have hbr2 : b2 < wr.heap.size := by omega
              have hjI : (j : Int) < (bd.length : Int) := by omega
              have hj0 : (0 : Int) ≤ (j : Int) := by omega
              have hry : rkL y < fuel := by
                have q1 := rkL_at HX.out
                have q2 := rkB_at hy
                rw [rk_mk] at q1
                omega
              have hleny : (rnL la lb y).length * 48 ≤ 140737488355328 := by rw [rlen_L]; exact hsy.2.1
              have hcall := IH.out y hry a3 cap3 wr (hsy.keep (fun q hq => hbq.block q (by omega)) (by omega))
              obtain ⟨LB, hLB⟩ : ∃ LB, LB = rnB la lb (bd.take (j + 1)) := ⟨_, rfl⟩
              have hLB2 : LB = rnB la lb (bd.take j) ++ [rnL la lb y] := by rw [hLB, rnB_take hy]
              have hLB3 : LB.length * 24 ≤ 140737488355328 := by rw [hLB, rlen_B, List.length_take]; omega
              have HC := Lib.hid hcall
              have HLB := Lib.hid hLB
              have HLB2 := Lib.hid hLB2
              have HLB3 := Lib.hid hLB3
              have HROW2 := Lib.hid hrow2
              have HBQ := Lib.hid hbq
              have HLY := Lib.hid hleny
              clear hcall hLB hLB2 hLB3 hrow2 hbq hy cy hsy hleny hB9e
              go_wp2_with fail
              refine (HC.out).mono ?_
              rintro e w5 ⟨v5, rfl, hrp5, hb5⟩
              obtain ⟨a5, cap5, rfl, hsp5⟩ := hrp5.sp HLY.out
              obtain ⟨W6, hW6⟩ : ∃ W6, W6 = w5.alloc (.cells #[.slice a5 (rnL la lb y).length cap5] 22) := ⟨_, rfl⟩
              have hb6 : Below w5.heap.size w5 W6 := by rw [hW6]; exact bal _ _
              have hz6 : W6.heap.size = w5.heap.size + 1 := by rw [hW6]; simp
              have hblk6 : W6.heap[w5.heap.size]? = some (.cells #[.slice a5 (rnL la lb y).length cap5] 22) := by rw [hW6]; exact blk_new _ _ _
              have hrow6 := HROW2.out.up (bseq hb5 hb6)
              have hszs := hb5.size
              have hszq := HBQ.out.size
              have hBB := HBB9.out
              have hpn : PN2 W6 (fun b => B9 ≤ b ∧ b < W6.heap.size ∧ ∀ g, (u10 : Value).ownBlock = some g → b ≠ g) w5.heap.size 0 [rnL la lb y] :=
                ⟨⟨a5, cap5, by rw [blk_cell hblk6]; rfl, hsp5.keep (fun k hk => hb6.block k hk.2) (fun k hk => ⟨by omega, by omega, fun g hg => by have := HROW2.out.blk hg; omega⟩)⟩, trivial⟩
              have hB96 : B9 ≤ W6.heap.size := by omega
              have HPN := Lib.hid hpn
              have HROW6 := Lib.hid hrow6
              have HW6 := Lib.hid hW6
              have HB96 := Lib.hid hB96
              have HBQ6 := Lib.hid (HBQ.out.trans (Below.mono (bseq hb5 hb6) (by omega)))
              clear hrp5 hb5 hsp5 hW6 hb6 hz6 hblk6 hrow6 hszs hszq hBB hpn hB96
              go_wp2_with (at_builtin; rw [← HW6.out]; refine wpList_RP2 rfl _ _ rfl HLB2.out HROW6.out (by rfl) (by rfl) HPN.out (by simp) HLB3.out HB96.out ?_)
              intro g8 cap8 w8 hrw8 hb8
              have HRW8 := Lib.hid hrw8
              have HB8 := Lib.hid (HBQ6.out.trans hb8)
              clear hrw8 hb8
              go_wp2_with fail
              go_roundg (gk - 1)
              case measure => omega
              exact ⟨j + 1, by omega, by simp, by rw [← HLB.out]; exact HRW8.out, HB8.out⟩
            · have hjI : ¬ (j : Int) < (bd.length : Int) := by omega
              obtain rfl : j = bd.length := by omega
              rw [List.take_length] at hrow2
              have hbqw := hbq.size
              have hB9e := HBB9.out
              have hz9e := HZ9.out
              have hc9e := HC9.out
              obtain ⟨a10, cap10, rfl, hspp⟩ := hrow2.sp (by rw [rlen_B]; exact hlen2)
              have hblkq : wr.heap[C9]? = some (.cells #[.int .i64 k, .int .i64 lb, .int .i64 d, .slice a' bd.length cap'] 27) := (hbq.block C9 (by omega)).trans HBLK9.out
              have e0 : ∀ o, wr.cell? ⟨C9, o, none⟩ = _ := blk_cell hblkq
              have f0 : ∀ o, wr.frozen? ⟨C9, o, none⟩ = false := blk_frz hblkq
              have lC : C9 < wr.heap.size := by omega
              have E0 : wr.cell? ⟨C9, 0, none⟩ = some (.int .i64 k) := e0 0
              have E1 : wr.cell? ⟨C9, 1, none⟩ = some (.int .i64 lb) := e0 1
              have E2 : wr.cell? ⟨C9, 2, none⟩ = some (.int .i64 d) := e0 2
              have E3 : wr.cell? ⟨C9, 3, none⟩ = some (.slice a' bd.length cap') := e0 3
              obtain ⟨S9, hS9⟩ : ∃ S9, S9 = wr.setCell ⟨C9, 3, none⟩ (.slice a10 (rnB la lb bd).length cap10) := ⟨_, rfl⟩
              obtain ⟨W10, hW10⟩ : ∃ W10, W10 = S9.alloc (.cells #[.int .i64 k, .int .i64 lb, .int .i64 d, .slice a10 (rnB la lb bd).length cap10] 27) := ⟨_, rfl⟩
              have hbS : Below B9 W9 wr := hbq
              have hbr9 := HB9.out
              have hzS : S9.heap.size = wr.heap.size := by rw [hS9]; simp
              have hzW : W10.heap.size = S9.heap.size + 1 := by rw [hW10]; simp
              have hb1 := (hbr9.trans (Below.mono hbq (by omega))).setCell (show _ ≤ (⟨C9, 3, none⟩ : Addr).block from (by show _ ≤ C9; omega)) (.slice a10 (rnB la lb bd).length cap10)
              rw [← hS9] at hb1
              have hb2 := hb1.alloc (by omega) (.cells #[.int .i64 k, .int .i64 lb, .int .i64 d, .slice a10 (rnB la lb bd).length cap10] 27)
              rw [← hW10] at hb2
              have hblkW : W10.heap[wr.heap.size]? = some (.cells #[.int .i64 k, .int .i64 lb, .int .i64 d, .slice a10 (rnB la lb bd).length cap10] 27) := by rw [hW10, ← hzS]; exact blk_new _ _ _
              have hsame : ∀ q, B9 ≤ q ∧ q < wr.heap.size → W10.heap[q]? = wr.heap[q]? := fun q hq => by
                have h1 : W10.heap[q]? = S9.heap[q]? := by rw [hW10]; exact Below.heap_alloc _ _ _ (by omega)
                rw [h1, hS9]
                exact blk_far _ (by show q ≠ C9; omega)
              have hrowW := HR.out.up hb2
              have hszw := HB.out.size
              have hpn : PN W10 (fun b => w.heap.size ≤ b ∧ b < W10.heap.size ∧ ∀ g, (u7 : Value).ownBlock = some g → b ≠ g) wr.heap.size 0 [rnF la lb (.mk k la d bd)] := by
                rw [rnF, HLAB.out]
                exact ⟨by rw [blk_cell hblkW]; rfl, by rw [blk_cell hblkW]; rfl, by rw [blk_cell hblkW]; rfl, ⟨a10, cap10, by rw [blk_cell hblkW]; rfl, hspp.keep hsame (fun q hq => ⟨by omega, by omega, fun g hg => by have := HR.out.blk hg; omega⟩)⟩, trivial⟩
              obtain ⟨LA, hLA⟩ : ∃ LA, LA = rnL la lb (l.take (i + 1)) := ⟨_, rfl⟩
              have hLA2 : LA = rnL la lb (l.take i) ++ [rnF la lb (.mk k la d bd)] := by rw [hLA, rnL_take HX.out]
              have hLA3 : LA.length * 48 ≤ 140737488355328 := by rw [hLA, rlen_L, List.length_take]; omega
              have hB10 : w.heap.size ≤ W10.heap.size := by omega
              have HPN := Lib.hid hpn
              have HRW := Lib.hid hrowW
              have HLA := Lib.hid hLA
              have HLA2 := Lib.hid hLA2
              have HLA3 := Lib.hid hLA3
              have HB10 := Lib.hid hB10
              have HW10 := Lib.hid (hW10.trans (by rw [hS9]))
              have HBW10 := Lib.hid (HB.out.trans (Below.mono hb2 hszw))
              clear hspp hblkq e0 hS9 hW10 hbS hbr9 hzS hzW hb1 hb2 hblkW hsame hrowW hszw hpn hLA hLA2 hLA3 hB10 hbq hrow2 hB9e hz9e hc9e
              go_wp2_with (at_builtin; rw [← HW10.out]; refine wpList_RP rfl _ _ rfl HLA2.out HRW.out (by rfl) (by rfl) HPN.out (by simp) HLA3.out HB10.out ?_)
              intro g8 cap8 w8 hrw8 hb8
              have HRW8 := Lib.hid hrw8
              have HB8 := Lib.hid (HBW10.out.trans hb8)
              clear hrw8 hb8
              go_wp2_with fail
              go_roundg (g0 - 1)
              case measure => have := hi2.out; omega
              have hi3 := hi2.out
              exact ⟨i + 1, by omega, by simp, by rw [← HLA.out]; exact HRW8.out, HB8.out⟩
        · by_cases hl2 : lx = lb
          · skip
            have hl2' := hl2.symm
            subst hl2'
            have q1 : (lb == la) = false := by simpa using hl1
            clear hl2
            have hlab : sw la lb lb = la := by simp [sw, hl1]
            obtain ⟨W9, hW9⟩ : ∃ W9, W9 = wr.alloc (.cells #[.int .i64 k, .int .i64 la, .int .i64 d, .slice a' bd.length cap'] 27) := ⟨_, rfl⟩
            have hb9 : Below wr.heap.size wr W9 := by rw [hW9]; exact bal _ _
            have hz9 : W9.heap.size = wr.heap.size + 1 := by rw [hW9]; simp
            have hblk9 : W9.heap[wr.heap.size]? = some (.cells #[.int .i64 k, .int .i64 la, .int .i64 d, .slice a' bd.length cap'] 27) := by rw [hW9]; exact blk_new _ _ _
            obtain ⟨B9, hB9⟩ : ∃ B9, B9 = W9.heap.size := ⟨_, rfl⟩
            obtain ⟨C9, hC9⟩ : ∃ C9, C9 = wr.heap.size := ⟨_, rfl⟩
            have hsl9 : SLL W9 W9.heap.size a' cap' bd := (hsl.keep (w' := wr) (H' := wr.heap.size) (fun q hq => hb.block q (by omega)) hb.size).up hb9
            have hsl9b := hsl9.2.2
            obtain ⟨b2, o2, hsa2, hell⟩ := hsl9b
            have hlen2 : bd.length * 24 ≤ 140737488355328 := hsl.2.1
            rw [← hC9] at hblk9
            have HELL := Lib.hid hell
            have HSA2 := Lib.hid hsa2
            have HB := Lib.hid hb
            have HB9 := Lib.hid hb9
            have HZ9 := Lib.hid hz9
            have HBLK9 := Lib.hid hblk9
            have HBB9 := Lib.hid hB9
            have HC9 := Lib.hid hC9
            have HW9 := Lib.hid hW9
            have HX := Lib.hid hx
            have HR := Lib.hid hrow
            have HLAB := Lib.hid hlab
            have hi2 := Lib.hid hi
            obtain ⟨g0, hg0⟩ : ∃ g0, g0 = gk := ⟨_, rfl⟩
            clear hell hsa2 hb hb9 hz9 hblk9 hB9 hW9 hx hrow hlab hsl hsl9 c0 c1 c2 c3 hC9 hi
            go_wp2_with fail
            rw [← HW9.out, ← HC9.out]
            go_loopg [10, 34] bd.length (fun g v10 vi wq => ∃ j : Nat, j + g = bd.length ∧ vi = .int .i64 j ∧ RP2 B9 wq v10 (rnB la lb (bd.take j)) ∧ Below B9 W9 wq)
            case atStart => exact ⟨0, by omega, rfl, by rw [List.take_zero, rnB]; exact RP2.nil, by rw [HBB9.out]; exact Below.refl _ _⟩
            case round =>
              obtain ⟨j, hj, rfl, hrow2, hbq⟩ := hrel
              by_cases hltj : j < bd.length
              · have hbqw := hbq.size
                have hB9e := HBB9.out
                obtain ⟨hb2H, y, a3, cap3, _, hy, cy, hsy⟩ := HELL.out.at j hltj
                obtain rfl := HSA2.out (by rintro rfl; simp at hltj)
                have dy : wr.cell? ⟨b2, o2 + j, none⟩ = _ := (hbq.cell (p := ⟨b2, o2 + j, none⟩) (by show b2 < B9; omega)).trans cy
                have hbr2 : b2 < wr.heap.size := by omega
                have hjI : (j : Int) < (bd.length : Int) := by omega
                have hj0 : (0 : Int) ≤ (j : Int) := by omega
                have hry : rkL y < fuel := by
                  have q1 := rkL_at HX.out
                  have q2 := rkB_at hy
                  rw [rk_mk] at q1
                  omega
                have hleny : (rnL la lb y).length * 48 ≤ 140737488355328 := by rw [rlen_L]; exact hsy.2.1
                have hcall := IH.out y hry a3 cap3 wr (hsy.keep (fun q hq => hbq.block q (by omega)) (by omega))
                obtain ⟨LB, hLB⟩ : ∃ LB, LB = rnB la lb (bd.take (j + 1)) := ⟨_, rfl⟩
                have hLB2 : LB = rnB la lb (bd.take j) ++ [rnL la lb y] := by rw [hLB, rnB_take hy]
                have hLB3 : LB.length * 24 ≤ 140737488355328 := by rw [hLB, rlen_B, List.length_take]; omega
                have HC := Lib.hid hcall
                have HLB := Lib.hid hLB
                have HLB2 := Lib.hid hLB2
                have HLB3 := Lib.hid hLB3
                have HROW2 := Lib.hid hrow2
                have HBQ := Lib.hid hbq
                have HLY := Lib.hid hleny
                clear hcall hLB hLB2 hLB3 hrow2 hbq hy cy hsy hleny hB9e
                go_wp2_with fail
                refine (HC.out).mono ?_
                rintro e w5 ⟨v5, rfl, hrp5, hb5⟩
                obtain ⟨a5, cap5, rfl, hsp5⟩ := hrp5.sp HLY.out
                obtain ⟨W6, hW6⟩ : ∃ W6, W6 = w5.alloc (.cells #[.slice a5 (rnL la lb y).length cap5] 22) := ⟨_, rfl⟩
                have hb6 : Below w5.heap.size w5 W6 := by rw [hW6]; exact bal _ _
                have hz6 : W6.heap.size = w5.heap.size + 1 := by rw [hW6]; simp
                have hblk6 : W6.heap[w5.heap.size]? = some (.cells #[.slice a5 (rnL la lb y).length cap5] 22) := by rw [hW6]; exact blk_new _ _ _
                have hrow6 := HROW2.out.up (bseq hb5 hb6)
                have hszs := hb5.size
                have hszq := HBQ.out.size
                have hBB := HBB9.out
                have hpn : PN2 W6 (fun b => B9 ≤ b ∧ b < W6.heap.size ∧ ∀ g, (u10 : Value).ownBlock = some g → b ≠ g) w5.heap.size 0 [rnL la lb y] :=
                  ⟨⟨a5, cap5, by rw [blk_cell hblk6]; rfl, hsp5.keep (fun k hk => hb6.block k hk.2) (fun k hk => ⟨by omega, by omega, fun g hg => by have := HROW2.out.blk hg; omega⟩)⟩, trivial⟩
                have hB96 : B9 ≤ W6.heap.size := by omega
                have HPN := Lib.hid hpn
                have HROW6 := Lib.hid hrow6
                have HW6 := Lib.hid hW6
                have HB96 := Lib.hid hB96
                have HBQ6 := Lib.hid (HBQ.out.trans (Below.mono (bseq hb5 hb6) (by omega)))
                clear hrp5 hb5 hsp5 hW6 hb6 hz6 hblk6 hrow6 hszs hszq hBB hpn hB96
                go_wp2_with (at_builtin; rw [← HW6.out]; refine wpList_RP2 rfl _ _ rfl HLB2.out HROW6.out (by rfl) (by rfl) HPN.out (by simp) HLB3.out HB96.out ?_)
                intro g8 cap8 w8 hrw8 hb8
                have HRW8 := Lib.hid hrw8
                have HB8 := Lib.hid (HBQ6.out.trans hb8)
                clear hrw8 hb8
                go_wp2_with fail
                go_roundg (gk - 1)
                case measure => omega
                exact ⟨j + 1, by omega, by simp, by rw [← HLB.out]; exact HRW8.out, HB8.out⟩
              · have hjI : ¬ (j : Int) < (bd.length : Int) := by omega
                obtain rfl : j = bd.length := by omega
                rw [List.take_length] at hrow2
                have hbqw := hbq.size
                have hB9e := HBB9.out
                have hz9e := HZ9.out
                have hc9e := HC9.out
                obtain ⟨a10, cap10, rfl, hspp⟩ := hrow2.sp (by rw [rlen_B]; exact hlen2)
                have hblkq : wr.heap[C9]? = some (.cells #[.int .i64 k, .int .i64 la, .int .i64 d, .slice a' bd.length cap'] 27) := (hbq.block C9 (by omega)).trans HBLK9.out
                have e0 : ∀ o, wr.cell? ⟨C9, o, none⟩ = _ := blk_cell hblkq
                have f0 : ∀ o, wr.frozen? ⟨C9, o, none⟩ = false := blk_frz hblkq
                have lC : C9 < wr.heap.size := by omega
                have E0 : wr.cell? ⟨C9, 0, none⟩ = some (.int .i64 k) := e0 0
                have E1 : wr.cell? ⟨C9, 1, none⟩ = some (.int .i64 la) := e0 1
                have E2 : wr.cell? ⟨C9, 2, none⟩ = some (.int .i64 d) := e0 2
                have E3 : wr.cell? ⟨C9, 3, none⟩ = some (.slice a' bd.length cap') := e0 3
                obtain ⟨S9, hS9⟩ : ∃ S9, S9 = wr.setCell ⟨C9, 3, none⟩ (.slice a10 (rnB la lb bd).length cap10) := ⟨_, rfl⟩
                obtain ⟨W10, hW10⟩ : ∃ W10, W10 = S9.alloc (.cells #[.int .i64 k, .int .i64 la, .int .i64 d, .slice a10 (rnB la lb bd).length cap10] 27) := ⟨_, rfl⟩
                have hbS : Below B9 W9 wr := hbq
                have hbr9 := HB9.out
                have hzS : S9.heap.size = wr.heap.size := by rw [hS9]; simp
                have hzW : W10.heap.size = S9.heap.size + 1 := by rw [hW10]; simp
                have hb1 := (hbr9.trans (Below.mono hbq (by omega))).setCell (show _ ≤ (⟨C9, 3, none⟩ : Addr).block from (by show _ ≤ C9; omega)) (.slice a10 (rnB la lb bd).length cap10)
                rw [← hS9] at hb1
                have hb2 := hb1.alloc (by omega) (.cells #[.int .i64 k, .int .i64 la, .int .i64 d, .slice a10 (rnB la lb bd).length cap10] 27)
                rw [← hW10] at hb2
                have hblkW : W10.heap[wr.heap.size]? = some (.cells #[.int .i64 k, .int .i64 la, .int .i64 d, .slice a10 (rnB la lb bd).length cap10] 27) := by rw [hW10, ← hzS]; exact blk_new _ _ _
                have hsame : ∀ q, B9 ≤ q ∧ q < wr.heap.size → W10.heap[q]? = wr.heap[q]? := fun q hq => by
                  have h1 : W10.heap[q]? = S9.heap[q]? := by rw [hW10]; exact Below.heap_alloc _ _ _ (by omega)
                  rw [h1, hS9]
                  exact blk_far _ (by show q ≠ C9; omega)
                have hrowW := HR.out.up hb2
                have hszw := HB.out.size
                have hpn : PN W10 (fun b => w.heap.size ≤ b ∧ b < W10.heap.size ∧ ∀ g, (u7 : Value).ownBlock = some g → b ≠ g) wr.heap.size 0 [rnF la lb (.mk k lb d bd)] := by
                  rw [rnF, HLAB.out]
                  exact ⟨by rw [blk_cell hblkW]; rfl, by rw [blk_cell hblkW]; rfl, by rw [blk_cell hblkW]; rfl, ⟨a10, cap10, by rw [blk_cell hblkW]; rfl, hspp.keep hsame (fun q hq => ⟨by omega, by omega, fun g hg => by have := HR.out.blk hg; omega⟩)⟩, trivial⟩
                obtain ⟨LA, hLA⟩ : ∃ LA, LA = rnL la lb (l.take (i + 1)) := ⟨_, rfl⟩
                have hLA2 : LA = rnL la lb (l.take i) ++ [rnF la lb (.mk k lb d bd)] := by rw [hLA, rnL_take HX.out]
                have hLA3 : LA.length * 48 ≤ 140737488355328 := by rw [hLA, rlen_L, List.length_take]; omega
                have hB10 : w.heap.size ≤ W10.heap.size := by omega
                have HPN := Lib.hid hpn
                have HRW := Lib.hid hrowW
                have HLA := Lib.hid hLA
                have HLA2 := Lib.hid hLA2
                have HLA3 := Lib.hid hLA3
                have HB10 := Lib.hid hB10
                have HW10 := Lib.hid (hW10.trans (by rw [hS9]))
                have HBW10 := Lib.hid (HB.out.trans (Below.mono hb2 hszw))
                clear hspp hblkq e0 hS9 hW10 hbS hbr9 hzS hzW hb1 hb2 hblkW hsame hrowW hszw hpn hLA hLA2 hLA3 hB10 hbq hrow2 hB9e hz9e hc9e
                go_wp2_with (at_builtin; rw [← HW10.out]; refine wpList_RP rfl _ _ rfl HLA2.out HRW.out (by rfl) (by rfl) HPN.out (by simp) HLA3.out HB10.out ?_)
                intro g8 cap8 w8 hrw8 hb8
                have HRW8 := Lib.hid hrw8
                have HB8 := Lib.hid (HBW10.out.trans hb8)
                clear hrw8 hb8
                go_wp2_with fail
                go_roundg (g0 - 1)
                case measure => have := hi2.out; omega
                have hi3 := hi2.out
                exact ⟨i + 1, by omega, by simp, by rw [← HLA.out]; exact HRW8.out, HB8.out⟩
          · skip
            have q1 : (lx == la) = false := by simpa using hl1
            have q2 : (lx == lb) = false := by simpa using hl2
            have hlab : sw la lb lx = lx := by simp [sw, hl1, hl2]
            obtain ⟨W9, hW9⟩ : ∃ W9, W9 = wr.alloc (.cells #[.int .i64 k, .int .i64 lx, .int .i64 d, .slice a' bd.length cap'] 27) := ⟨_, rfl⟩
            have hb9 : Below wr.heap.size wr W9 := by rw [hW9]; exact bal _ _
            have hz9 : W9.heap.size = wr.heap.size + 1 := by rw [hW9]; simp
            have hblk9 : W9.heap[wr.heap.size]? = some (.cells #[.int .i64 k, .int .i64 lx, .int .i64 d, .slice a' bd.length cap'] 27) := by rw [hW9]; exact blk_new _ _ _
            obtain ⟨B9, hB9⟩ : ∃ B9, B9 = W9.heap.size := ⟨_, rfl⟩
            obtain ⟨C9, hC9⟩ : ∃ C9, C9 = wr.heap.size := ⟨_, rfl⟩
            have hsl9 : SLL W9 W9.heap.size a' cap' bd := (hsl.keep (w' := wr) (H' := wr.heap.size) (fun q hq => hb.block q (by omega)) hb.size).up hb9
            have hsl9b := hsl9.2.2
            obtain ⟨b2, o2, hsa2, hell⟩ := hsl9b
            have hlen2 : bd.length * 24 ≤ 140737488355328 := hsl.2.1
            rw [← hC9] at hblk9
            have HELL := Lib.hid hell
            have HSA2 := Lib.hid hsa2
            have HB := Lib.hid hb
            have HB9 := Lib.hid hb9
            have HZ9 := Lib.hid hz9
            have HBLK9 := Lib.hid hblk9
            have HBB9 := Lib.hid hB9
            have HC9 := Lib.hid hC9
            have HW9 := Lib.hid hW9
            have HX := Lib.hid hx
            have HR := Lib.hid hrow
            have HLAB := Lib.hid hlab
            have hi2 := Lib.hid hi
            obtain ⟨g0, hg0⟩ : ∃ g0, g0 = gk := ⟨_, rfl⟩
            clear hell hsa2 hb hb9 hz9 hblk9 hB9 hW9 hx hrow hlab hsl hsl9 c0 c1 c2 c3 hC9 hi
            go_wp2_with fail
            rw [← HW9.out, ← HC9.out]
            go_loopg [10, 34] bd.length (fun g v10 vi wq => ∃ j : Nat, j + g = bd.length ∧ vi = .int .i64 j ∧ RP2 B9 wq v10 (rnB la lb (bd.take j)) ∧ Below B9 W9 wq)
            case atStart => exact ⟨0, by omega, rfl, by rw [List.take_zero, rnB]; exact RP2.nil, by rw [HBB9.out]; exact Below.refl _ _⟩
            case round =>
              obtain ⟨j, hj, rfl, hrow2, hbq⟩ := hrel
              by_cases hltj : j < bd.length
              · have hbqw := hbq.size
                have hB9e := HBB9.out
                obtain ⟨hb2H, y, a3, cap3, _, hy, cy, hsy⟩ := HELL.out.at j hltj
                obtain rfl := HSA2.out (by rintro rfl; simp at hltj)
                have dy : wr.cell? ⟨b2, o2 + j, none⟩ = _ := (hbq.cell (p := ⟨b2, o2 + j, none⟩) (by show b2 < B9; omega)).trans cy
                have hbr2 : b2 < wr.heap.size := by omega
                have hjI : (j : Int) < (bd.length : Int) := by omega
                have hj0 : (0 : Int) ≤ (j : Int) := by omega
                have hry : rkL y < fuel := by
                  have q1 := rkL_at HX.out
                  have q2 := rkB_at hy
                  rw [rk_mk] at q1
                  omega
                have hleny : (rnL la lb y).length * 48 ≤ 140737488355328 := by rw [rlen_L]; exact hsy.2.1
                have hcall := IH.out y hry a3 cap3 wr (hsy.keep (fun q hq => hbq.block q (by omega)) (by omega))
                obtain ⟨LB, hLB⟩ : ∃ LB, LB = rnB la lb (bd.take (j + 1)) := ⟨_, rfl⟩
                have hLB2 : LB = rnB la lb (bd.take j) ++ [rnL la lb y] := by rw [hLB, rnB_take hy]
                have hLB3 : LB.length * 24 ≤ 140737488355328 := by rw [hLB, rlen_B, List.length_take]; omega
                have HC := Lib.hid hcall
                have HLB := Lib.hid hLB
                have HLB2 := Lib.hid hLB2
                have HLB3 := Lib.hid hLB3
                have HROW2 := Lib.hid hrow2
                have HBQ := Lib.hid hbq
                have HLY := Lib.hid hleny
                clear hcall hLB hLB2 hLB3 hrow2 hbq hy cy hsy hleny hB9e
                go_wp2_with fail
                refine (HC.out).mono ?_
                rintro e w5 ⟨v5, rfl, hrp5, hb5⟩
                obtain ⟨a5, cap5, rfl, hsp5⟩ := hrp5.sp HLY.out
                obtain ⟨W6, hW6⟩ : ∃ W6, W6 = w5.alloc (.cells #[.slice a5 (rnL la lb y).length cap5] 22) := ⟨_, rfl⟩
                have hb6 : Below w5.heap.size w5 W6 := by rw [hW6]; exact bal _ _
                have hz6 : W6.heap.size = w5.heap.size + 1 := by rw [hW6]; simp
                have hblk6 : W6.heap[w5.heap.size]? = some (.cells #[.slice a5 (rnL la lb y).length cap5] 22) := by rw [hW6]; exact blk_new _ _ _
                have hrow6 := HROW2.out.up (bseq hb5 hb6)
                have hszs := hb5.size
                have hszq := HBQ.out.size
                have hBB := HBB9.out
                have hpn : PN2 W6 (fun b => B9 ≤ b ∧ b < W6.heap.size ∧ ∀ g, (u10 : Value).ownBlock = some g → b ≠ g) w5.heap.size 0 [rnL la lb y] :=
                  ⟨⟨a5, cap5, by rw [blk_cell hblk6]; rfl, hsp5.keep (fun k hk => hb6.block k hk.2) (fun k hk => ⟨by omega, by omega, fun g hg => by have := HROW2.out.blk hg; omega⟩)⟩, trivial⟩
                have hB96 : B9 ≤ W6.heap.size := by omega
                have HPN := Lib.hid hpn
                have HROW6 := Lib.hid hrow6
                have HW6 := Lib.hid hW6
                have HB96 := Lib.hid hB96
                have HBQ6 := Lib.hid (HBQ.out.trans (Below.mono (bseq hb5 hb6) (by omega)))
                clear hrp5 hb5 hsp5 hW6 hb6 hz6 hblk6 hrow6 hszs hszq hBB hpn hB96
                go_wp2_with (at_builtin; rw [← HW6.out]; refine wpList_RP2 rfl _ _ rfl HLB2.out HROW6.out (by rfl) (by rfl) HPN.out (by simp) HLB3.out HB96.out ?_)
                intro g8 cap8 w8 hrw8 hb8
                have HRW8 := Lib.hid hrw8
                have HB8 := Lib.hid (HBQ6.out.trans hb8)
                clear hrw8 hb8
                go_wp2_with fail
                go_roundg (gk - 1)
                case measure => omega
                exact ⟨j + 1, by omega, by simp, by rw [← HLB.out]; exact HRW8.out, HB8.out⟩
              · have hjI : ¬ (j : Int) < (bd.length : Int) := by omega
                obtain rfl : j = bd.length := by omega
                rw [List.take_length] at hrow2
                have hbqw := hbq.size
                have hB9e := HBB9.out
                have hz9e := HZ9.out
                have hc9e := HC9.out
                obtain ⟨a10, cap10, rfl, hspp⟩ := hrow2.sp (by rw [rlen_B]; exact hlen2)
                have hblkq : wr.heap[C9]? = some (.cells #[.int .i64 k, .int .i64 lx, .int .i64 d, .slice a' bd.length cap'] 27) := (hbq.block C9 (by omega)).trans HBLK9.out
                have e0 : ∀ o, wr.cell? ⟨C9, o, none⟩ = _ := blk_cell hblkq
                have f0 : ∀ o, wr.frozen? ⟨C9, o, none⟩ = false := blk_frz hblkq
                have lC : C9 < wr.heap.size := by omega
                have E0 : wr.cell? ⟨C9, 0, none⟩ = some (.int .i64 k) := e0 0
                have E1 : wr.cell? ⟨C9, 1, none⟩ = some (.int .i64 lx) := e0 1
                have E2 : wr.cell? ⟨C9, 2, none⟩ = some (.int .i64 d) := e0 2
                have E3 : wr.cell? ⟨C9, 3, none⟩ = some (.slice a' bd.length cap') := e0 3
                obtain ⟨S9, hS9⟩ : ∃ S9, S9 = wr.setCell ⟨C9, 3, none⟩ (.slice a10 (rnB la lb bd).length cap10) := ⟨_, rfl⟩
                obtain ⟨W10, hW10⟩ : ∃ W10, W10 = S9.alloc (.cells #[.int .i64 k, .int .i64 lx, .int .i64 d, .slice a10 (rnB la lb bd).length cap10] 27) := ⟨_, rfl⟩
                have hbS : Below B9 W9 wr := hbq
                have hbr9 := HB9.out
                have hzS : S9.heap.size = wr.heap.size := by rw [hS9]; simp
                have hzW : W10.heap.size = S9.heap.size + 1 := by rw [hW10]; simp
                have hb1 := (hbr9.trans (Below.mono hbq (by omega))).setCell (show _ ≤ (⟨C9, 3, none⟩ : Addr).block from (by show _ ≤ C9; omega)) (.slice a10 (rnB la lb bd).length cap10)
                rw [← hS9] at hb1
                have hb2 := hb1.alloc (by omega) (.cells #[.int .i64 k, .int .i64 lx, .int .i64 d, .slice a10 (rnB la lb bd).length cap10] 27)
                rw [← hW10] at hb2
                have hblkW : W10.heap[wr.heap.size]? = some (.cells #[.int .i64 k, .int .i64 lx, .int .i64 d, .slice a10 (rnB la lb bd).length cap10] 27) := by rw [hW10, ← hzS]; exact blk_new _ _ _
                have hsame : ∀ q, B9 ≤ q ∧ q < wr.heap.size → W10.heap[q]? = wr.heap[q]? := fun q hq => by
                  have h1 : W10.heap[q]? = S9.heap[q]? := by rw [hW10]; exact Below.heap_alloc _ _ _ (by omega)
                  rw [h1, hS9]
                  exact blk_far _ (by show q ≠ C9; omega)
                have hrowW := HR.out.up hb2
                have hszw := HB.out.size
                have hpn : PN W10 (fun b => w.heap.size ≤ b ∧ b < W10.heap.size ∧ ∀ g, (u7 : Value).ownBlock = some g → b ≠ g) wr.heap.size 0 [rnF la lb (.mk k lx d bd)] := by
                  rw [rnF, HLAB.out]
                  exact ⟨by rw [blk_cell hblkW]; rfl, by rw [blk_cell hblkW]; rfl, by rw [blk_cell hblkW]; rfl, ⟨a10, cap10, by rw [blk_cell hblkW]; rfl, hspp.keep hsame (fun q hq => ⟨by omega, by omega, fun g hg => by have := HR.out.blk hg; omega⟩)⟩, trivial⟩
                obtain ⟨LA, hLA⟩ : ∃ LA, LA = rnL la lb (l.take (i + 1)) := ⟨_, rfl⟩
                have hLA2 : LA = rnL la lb (l.take i) ++ [rnF la lb (.mk k lx d bd)] := by rw [hLA, rnL_take HX.out]
                have hLA3 : LA.length * 48 ≤ 140737488355328 := by rw [hLA, rlen_L, List.length_take]; omega
                have hB10 : w.heap.size ≤ W10.heap.size := by omega
                have HPN := Lib.hid hpn
                have HRW := Lib.hid hrowW
                have HLA := Lib.hid hLA
                have HLA2 := Lib.hid hLA2
                have HLA3 := Lib.hid hLA3
                have HB10 := Lib.hid hB10
                have HW10 := Lib.hid (hW10.trans (by rw [hS9]))
                have HBW10 := Lib.hid (HB.out.trans (Below.mono hb2 hszw))
                clear hspp hblkq e0 hS9 hW10 hbS hbr9 hzS hzW hb1 hb2 hblkW hsame hrowW hszw hpn hLA hLA2 hLA3 hB10 hbq hrow2 hB9e hz9e hc9e
                go_wp2_with (at_builtin; rw [← HW10.out]; refine wpList_RP rfl _ _ rfl HLA2.out HRW.out (by rfl) (by rfl) HPN.out (by simp) HLA3.out HB10.out ?_)
                intro g8 cap8 w8 hrw8 hb8
                have HRW8 := Lib.hid hrw8
                have HB8 := Lib.hid (HBW10.out.trans hb8)
                clear hrw8 hb8
                go_wp2_with fail
                go_roundg (g0 - 1)
                case measure => have := hi2.out; omega
                have hi3 := hi2.out
                exact ⟨i + 1, by omega, by simp, by rw [← HLA.out]; exact HRW8.out, HB8.out⟩
      · have hiI : ¬ (i : Int) < (l.length : Int) := by omega
        obtain rfl : i = l.length := by omega
        rw [List.take_length] at hrow
        go_wp2_with fail
        go_ret
        exact ⟨_, rfl, hrow, hb⟩
set_option maxHeartbeats 8000000 in
theorem fnRenamed_any (l : List Fl) (la lb : Int) (a : Option Addr) (cap : Nat) (w : World) (hs : SL w w.heap.size a cap l) (ht : Tab w) : Calls Tryz.prog 17 #[.slice a l.length cap, .int .i64 la, .int .i64 lb] w (RetB w true) := by
  by_cases hlen : (l.length : Int) > 2147483647
  · clear hs ht
    go_enter Tryz.func17, Tryz.ntmps17
    go_wp2_with fail
    (try simp only [Exit.inBlock, Exit.then])
    refine bodyPost_ret (results_tmp rfl _ _ _) rfl ?_
    exact ⟨rfl, Below.refl _ _⟩
  by_cases h1 : la < 1
  · clear hs ht
    go_enter Tryz.func17, Tryz.ntmps17
    go_wp2_with fail
    (try simp only [Exit.inBlock, Exit.then])
    refine bodyPost_ret (results_tmp rfl _ _ _) rfl ?_
    exact ⟨rfl, Below.refl _ _⟩
  by_cases h2 : lb < 1
  · clear hs ht
    go_enter Tryz.func17, Tryz.ntmps17
    go_wp2_with fail
    (try simp only [Exit.inBlock, Exit.then])
    refine bodyPost_ret (results_tmp rfl _ _ _) rfl ?_
    exact ⟨rfl, Below.refl _ _⟩
  by_cases h3 : 9 < la
  · clear hs ht
    go_enter Tryz.func17, Tryz.ntmps17
    go_wp2_with fail
    (try simp only [Exit.inBlock, Exit.then])
    refine bodyPost_ret (results_tmp rfl _ _ _) rfl ?_
    exact ⟨rfl, Below.refl _ _⟩
  by_cases h4 : 9 < lb
  · clear hs ht
    go_enter Tryz.func17, Tryz.ntmps17
    go_wp2_with fail
    (try simp only [Exit.inBlock, Exit.then])
    refine bodyPost_ret (results_tmp rfl _ _ _) rfl ?_
    exact ⟨rfl, Below.refl _ _⟩
  cases hv : validL l with
  | false =>
    have cv := valid_any _ _ _ _ w hs (Nat.le_refl _)
    rw [hv] at cv
    have CV := Lib.hid cv
    clear cv hs ht hv
    go_enter Tryz.func17, Tryz.ntmps17
    go_wp2_with fail
    refine (CV.out).mono ?_
    rintro e w1 ⟨rfl, hb1⟩
    go_wp2_with fail
    (try simp only [Exit.inBlock, Exit.then])
    refine bodyPost_ret (results_tmp rfl _ _ _) rfl ?_
    exact ⟨rfl, hb1⟩
  | true =>
    have cv := valid_any _ _ _ _ w hs (Nat.le_refl _)
    rw [hv] at cv
    have hvr : validL (rnL la lb l) = true := by rw [valid_rn (by omega) (by omega) (by omega) (by omega)]; exact hv
    have lawE : teL (rnL la lb l) = teL l := teL_rn (by omega) (by omega) l
    have lawJ : jumpsJ (rnL la lb l) = jumpsJ l := law_rnJ la lb (by omega) (by omega) l
    have hlr : (rnL la lb l).length * 48 ≤ 140737488355328 := by rw [rlen_L]; exact hs.2.1
    have CV := Lib.hid cv
    have HS := Lib.hid hs
    have HT := Lib.hid ht
    have HV := Lib.hid hv
    have HVR := Lib.hid hvr
    have LAWE := Lib.hid lawE
    have LAWJ := Lib.hid lawJ
    have HLR := Lib.hid hlr
    clear cv hs ht hv hvr lawE lawJ hlr
    go_enter Tryz.func17, Tryz.ntmps17
    go_wp2_with fail
    refine (CV.out).mono ?_
    rintro e w1 ⟨rfl, hb1⟩
    have HB1 := Lib.hid hb1
    have c2 := renamed_any la lb (rkL l + 1) l (Nat.lt_succ_self _) a cap w1 (HS.out.up hb1)
    have C2 := Lib.hid c2
    clear c2 hb1
    go_wp2_with fail
    refine (C2.out).mono ?_
    rintro e w2 ⟨v2, rfl, hrp2, hb2⟩
    obtain ⟨a2, cap2, rfl, hsp2⟩ := hrp2.sp HLR.out
    have HB2 := Lib.hid (bseq HB1.out hb2)
    have HS2 := Lib.hid (hsp2.sl (H := w2.heap.size) (fun k hk => hk.2))
    have c3 := ends_any _ _ _ w2 (HS.out.up HB2.out) (HT.out.on HB2.out) HV.out
    have C3 := Lib.hid c3
    clear hrp2 hb2 hsp2 c3
    go_wp2_with fail
    refine (C3.out).mono ?_
    rintro e w3 ⟨rfl, hb3⟩
    have HB3 := Lib.hid (bseq HB2.out hb3)
    have HS3 := Lib.hid (HS2.out.up hb3)
    clear hb3
    have c4 := ends_any _ _ _ w3 HS3.out (HT.out.on HB3.out) HVR.out
    rw [LAWE.out] at c4
    have C4 := Lib.hid c4
    clear c4
    go_wp2_with fail
    refine (C4.out).mono ?_
    rintro e w4 ⟨rfl, hb4⟩
    have HB4 := Lib.hid (bseq HB3.out hb4)
    have HS4 := Lib.hid (HS3.out.up hb4)
    clear hb4
    have c5 := jumps_any _ _ _ w4 (HS.out.up HB4.out) (HT.out.on HB4.out) HV.out
    have C5 := Lib.hid c5
    have heq : (teL l == teL l) = true := by simp
    clear c5
    go_wp2_with fail
    refine (C5.out).mono ?_
    rintro e w5 ⟨rfl, hb5⟩
    have HB5 := Lib.hid (bseq HB4.out hb5)
    have HS5 := Lib.hid (HS4.out.up hb5)
    clear hb5
    have c6 := jumps_any _ _ _ w5 HS5.out (HT.out.on HB5.out) HVR.out
    rw [LAWJ.out] at c6
    have C6 := Lib.hid c6
    clear c6
    go_wp2_with fail
    refine (C6.out).mono ?_
    rintro e w6 ⟨rfl, hb6⟩
    have HB6 := Lib.hid (bseq HB5.out hb6)
    have heq2 : (jumpsJ l == jumpsJ l) = true := by simp
    clear hb6
    go_wp2_with fail
    refine (works_any w6 (HT.out.on HB6.out)).mono ?_
    rintro e w7 ⟨rfl, hb7⟩
    go_wp2_with fail
    go_ret
    exact ⟨rfl, bseq HB6.out hb7⟩
end Go.Proofs.YtpodifbgfcclbaaGreatDoor
