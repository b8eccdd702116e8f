/- When a slice in memory reads as a list of statements. -/
import Derived.Test.YtpodifbgfcclbaaGreatDoorPure1
import Derived.WalkKit
import Derived.Lib.Hide
set_option linter.unusedSimpArgs false
set_option linter.unusedVariables false
namespace Go.Proofs.YtpodifbgfcclbaaGreatDoor
open Go.RowKit

mutual
/-- At block b from offset o on lie the cells of the statements of the list; all that is read lies below block H. -/
def EL (w : World) (H : Nat) : Nat → Nat → List Fl → Prop
  | _, _, [] => True
  | b, o, .mk k l d bd :: xs => b < H ∧ w.cell? ⟨b, o, none⟩ = some (.int .i64 k) ∧ w.cell? ⟨b, o + 1, none⟩ = some (.int .i64 l) ∧ w.cell? ⟨b, o + 2, none⟩ = some (.int .i64 d) ∧
      (∃ a cap, w.cell? ⟨b, o + 3, none⟩ = some (.slice a bd.length cap) ∧ bd.length ≤ cap ∧ bd.length * 24 ≤ 140737488355328 ∧ ∃ b' o', (bd ≠ [] → a = some ⟨b', o', none⟩) ∧ ELL w H b' o' bd) ∧ EL w H b (o + 4) xs
def ELL (w : World) (H : Nat) : Nat → Nat → List (List Fl) → Prop
  | _, _, [] => True
  | b, o, y :: ys => b < H ∧ (∃ a cap, w.cell? ⟨b, o, none⟩ = some (.slice a y.length cap) ∧ y.length ≤ cap ∧ y.length * 48 ≤ 140737488355328 ∧ ∃ b' o', (y ≠ [] → a = some ⟨b', o', none⟩) ∧ EL w H b' o' y) ∧ ELL w H b (o + 1) ys
end
def SL (w : World) (H : Nat) (a : Option Addr) (cap : Nat) (l : List Fl) : Prop :=
  l.length ≤ cap ∧ l.length * 48 ≤ 140737488355328 ∧ ∃ b o, (l ≠ [] → a = some ⟨b, o, none⟩) ∧ EL w H b o l
def SLL (w : World) (H : Nat) (a : Option Addr) (cap : Nat) (l : List (List Fl)) : Prop :=
  l.length ≤ cap ∧ l.length * 24 ≤ 140737488355328 ∧ ∃ b o, (l ≠ [] → a = some ⟨b, o, none⟩) ∧ ELL w H b o l
theorem EL_nil {w : World} {H b o : Nat} : EL w H b o [] := by rw [EL]; trivial
theorem ELL_nil {w : World} {H b o : Nat} : ELL w H b o [] := by rw [ELL]; trivial
theorem EL_cons {w : World} {H b o : Nat} {k l d : Int} {bd : List (List Fl)} {xs : List Fl} : EL w H b o (.mk k l d bd :: xs) ↔
    b < H ∧ w.cell? ⟨b, o, none⟩ = some (.int .i64 k) ∧ w.cell? ⟨b, o + 1, none⟩ = some (.int .i64 l) ∧ w.cell? ⟨b, o + 2, none⟩ = some (.int .i64 d) ∧
      (∃ a cap, w.cell? ⟨b, o + 3, none⟩ = some (.slice a bd.length cap) ∧ SLL w H a cap bd) ∧ EL w H b (o + 4) xs := by
  rw [EL]; rfl
theorem ELL_cons {w : World} {H b o : Nat} {y : List Fl} {ys : List (List Fl)} : ELL w H b o (y :: ys) ↔
    b < H ∧ (∃ a cap, w.cell? ⟨b, o, none⟩ = some (.slice a y.length cap) ∧ SL w H a cap y) ∧ ELL w H b (o + 1) ys := by
  rw [ELL]; rfl

/-- Element i of a list that lies in memory. -/
theorem EL.at {w : World} {H b : Nat} : ∀ {l : List Fl} {o : Nat}, EL w H b o l → ∀ i, i < l.length →
    b < H ∧ ∃ k lb d bd a cap, l.drop i = .mk k lb d bd :: l.drop (i + 1) ∧ l[i]? = some (.mk k lb d bd) ∧ w.cell? ⟨b, o + i * 4, none⟩ = some (.int .i64 k) ∧ w.cell? ⟨b, o + i * 4 + 1, none⟩ = some (.int .i64 lb) ∧
      w.cell? ⟨b, o + i * 4 + 2, none⟩ = some (.int .i64 d) ∧ w.cell? ⟨b, o + i * 4 + 3, none⟩ = some (.slice a bd.length cap) ∧ SLL w H a cap bd
  | .mk k l d bd :: xs, o, h, 0, _ => by
    obtain ⟨h1, h2, h3, h4, ⟨a, cap, h5, h6⟩, h7⟩ := EL_cons.1 h
    exact ⟨h1, k, l, d, bd, a, cap, rfl, rfl, by simpa using h2, by simpa using h3, by simpa using h4, by simpa using h5, h6⟩
  | .mk k l d bd :: xs, o, h, i + 1, hi => by
    obtain ⟨h1, h2, h3, h4, ⟨a, cap, h5, h6⟩, h7⟩ := EL_cons.1 h
    obtain ⟨g1, k', l', d', bd', a', cap', g2, g3, g4, g5, g6, g7, g8⟩ := EL.at h7 i (by simpa using hi)
    have e : o + 4 + i * 4 = o + (i + 1) * 4 := by omega
    rw [e] at g4 g5 g6 g7
    exact ⟨h1, k', l', d', bd', a', cap', by simpa using g2, by simpa using g3, g4, g5, g6, g7, g8⟩
theorem ELL.at {w : World} {H b : Nat} : ∀ {l : List (List Fl)} {o : Nat}, ELL w H b o l → ∀ i, i < l.length →
    b < H ∧ ∃ y a cap, l.drop i = y :: l.drop (i + 1) ∧ l[i]? = some y ∧ w.cell? ⟨b, o + i, none⟩ = some (.slice a y.length cap) ∧ SL w H a cap y
  | y :: ys, o, h, 0, _ => by
    obtain ⟨h1, ⟨a, cap, h5, h6⟩, h7⟩ := ELL_cons.1 h
    exact ⟨h1, y, a, cap, rfl, rfl, by simpa using h5, h6⟩
  | y :: ys, o, h, i + 1, hi => by
    obtain ⟨h1, ⟨a, cap, h5, h6⟩, h7⟩ := ELL_cons.1 h
    obtain ⟨g1, y', a', cap', g2, g3, g4, g5⟩ := ELL.at h7 i (by simpa using hi)
    have e : o + 1 + i = o + (i + 1) := by omega
    rw [e] at g4
    exact ⟨h1, y', a', cap', by simpa using g2, by simpa using g3, g4, g5⟩

mutual
/-- What lies below block H goes on lying there while those blocks are as they were. -/
theorem EL.keep {w w' : World} {H H' : Nat} (hk : ∀ k, k < H → w'.heap[k]? = w.heap[k]?) (hH : H ≤ H') : ∀ {l : List Fl} {b o : Nat}, EL w H b o l → EL w' H' b o l
  | [], _, _, _ => EL_nil
  | .mk k l d bd :: xs, b, o, h => by
    obtain ⟨h1, h2, h3, h4, ⟨a, cap, h5, h6, h7, b', o', h8, h9⟩, h10⟩ := EL_cons.1 h
    have hc : ∀ o, w'.cell? ⟨b, o, none⟩ = w.cell? ⟨b, o, none⟩ := fun o => World.cell?_of_block (w := w) (hk b h1)
    exact EL_cons.2 ⟨by omega, (hc _).trans h2, (hc _).trans h3, (hc _).trans h4, ⟨a, cap, (hc _).trans h5, h6, h7, b', o', h8, ELL.keep hk hH h9⟩, EL.keep hk hH h10⟩
theorem ELL.keep {w w' : World} {H H' : Nat} (hk : ∀ k, k < H → w'.heap[k]? = w.heap[k]?) (hH : H ≤ H') : ∀ {l : List (List Fl)} {b o : Nat}, ELL w H b o l → ELL w' H' b o l
  | [], _, _, _ => ELL_nil
  | y :: ys, b, o, h => by
    obtain ⟨h1, ⟨a, cap, h5, h6, h7, b', o', h8, h9⟩, h10⟩ := ELL_cons.1 h
    have hc : ∀ o, w'.cell? ⟨b, o, none⟩ = w.cell? ⟨b, o, none⟩ := fun o => World.cell?_of_block (w := w) (hk b h1)
    exact ELL_cons.2 ⟨by omega, ⟨a, cap, (hc _).trans h5, h6, h7, b', o', h8, EL.keep hk hH h9⟩, ELL.keep hk hH h10⟩
end
theorem SL.keep {w w' : World} {H H' : Nat} (hk : ∀ k, k < H → w'.heap[k]? = w.heap[k]?) (hH : H ≤ H') {a : Option Addr} {cap : Nat} {l : List Fl} (h : SL w H a cap l) : SL w' H' a cap l := by
  obtain ⟨h1, h2, b, o, h3, h4⟩ := h
  exact ⟨h1, h2, b, o, h3, h4.keep hk hH⟩
theorem SLL.keep {w w' : World} {H H' : Nat} (hk : ∀ k, k < H → w'.heap[k]? = w.heap[k]?) (hH : H ≤ H') {a : Option Addr} {cap : Nat} {l : List (List Fl)} (h : SLL w H a cap l) : SLL w' H' a cap l := by
  obtain ⟨h1, h2, b, o, h3, h4⟩ := h
  exact ⟨h1, h2, b, o, h3, h4.keep hk hH⟩
theorem SL.below {w w' : World} {H B : Nat} (hb : Below B w w') (hH : H ≤ B) {a : Option Addr} {cap : Nat} {l : List Fl} (h : SL w H a cap l) : SL w' H a cap l :=
  h.keep (fun k hk => hb.block k (by omega)) (Nat.le_refl _)
theorem SLL.below {w w' : World} {H B : Nat} (hb : Below B w w') (hH : H ≤ B) {a : Option Addr} {cap : Nat} {l : List (List Fl)} (h : SLL w H a cap l) : SLL w' H a cap l :=
  h.keep (fun k hk => hb.block k (by omega)) (Nat.le_refl _)
/-- Behind a call that leaves the old blocks alone the old cells read as before. -/
theorem bcell {W w1 : World} {B : Nat} (hb : Below B W w1) : (∀ b o, b < B → w1.cell? ⟨b, o, none⟩ = W.cell? ⟨b, o, none⟩) ∧ (∀ b o, b < B → w1.frozen? ⟨b, o, none⟩ = W.frozen? ⟨b, o, none⟩) :=
  ⟨fun b o h => hb.cell (p := ⟨b, o, none⟩) h, fun b o h => hb.frozen (p := ⟨b, o, none⟩) h⟩
/-- Block c is a row of cells of type T, none of them frozen. -/
def Own (w : World) (c T : Nat) : Prop := ∃ cs, w.heap[c]? = some (.cells cs T (0, 0))
theorem SL.nil {w : World} {H : Nat} : SL w H none 0 [] := ⟨Nat.le_refl _, by simp, 0, 0, fun h => absurd rfl h, EL_nil⟩
theorem SLL.nil {w : World} {H : Nat} : SLL w H none 0 [] := ⟨Nat.le_refl _, by simp, 0, 0, fun h => absurd rfl h, ELL_nil⟩
end Go.Proofs.YtpodifbgfcclbaaGreatDoor
