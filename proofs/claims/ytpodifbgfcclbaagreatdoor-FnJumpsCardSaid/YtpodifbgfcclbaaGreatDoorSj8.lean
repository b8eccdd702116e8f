/- The rules for labels: what collecting the labels knows. -/
import Derived.Test.YtpodifbgfcclbaaGreatDoorSj4
set_option linter.unusedVariables false
set_option linter.unusedSimpArgs false
namespace Go.Proofs.YtpodifbgfcclbaaGreatDoor
open Go.RowKit
attribute [local go_sem] Nat.lt_add_one_of_lt

/-- A path below another one. -/
def Ext (q p : Pth) : Prop := ∃ r, r ≠ [] ∧ p = r ++ q
/-- A path below the list at q, by what has been done before statement i and its list k. -/
def Pr (q : Pth) (i k : Nat) (p : Pth) : Prop := ∃ r i' k', p = r ++ (i', k') :: q ∧ (i' < i ∨ (i' = i ∧ k' < k))
theorem Pr.ext {q p : Pth} {i k : Nat} (h : Pr q i k p) : Ext q p := by
  obtain ⟨r, i', k', h1, _⟩ := h
  exact ⟨r ++ [(i', k')], by simp, by rw [h1]; simp⟩
theorem ext_self (q : Pth) : ¬ Ext q q := by
  rintro ⟨r, h1, h2⟩
  have := congrArg List.length h2
  simp at this
  exact h1 this
theorem ext_cons (q : Pth) (i k : Nat) : Ext q ((i, k) :: q) := ⟨[(i, k)], by simp, rfl⟩
theorem ext_up {q p : Pth} {i k : Nat} (h : Ext ((i, k) :: q) p) : Ext q p := by
  obtain ⟨r, h1, h2⟩ := h
  exact ⟨r ++ [(i, k)], by simp, by rw [h2]; simp⟩
theorem pr_not {q p : Pth} {i k : Nat} (h : Pr q i k p) : p ≠ (i, k) :: q ∧ ¬ Ext ((i, k) :: q) p := by
  obtain ⟨r, i', k', rfl, h2⟩ := h
  constructor
  · intro e
    have h3 : r ++ (i', k') :: q = [] ++ (i, k) :: q := by simpa using e
    obtain ⟨h4, _⟩ := app_cons_inj h3
    simp only [Prod.mk.injEq] at h4
    omega
  · rintro ⟨r2, _, h3⟩
    obtain ⟨h4, _⟩ := app_cons_inj h3
    simp only [Prod.mk.injEq] at h4
    omega
theorem pr_succ {q p : Pth} {i k : Nat} (h : Pr q i (k + 1) p) : Pr q i k p ∨ p = (i, k) :: q ∨ Ext ((i, k) :: q) p := by
  obtain ⟨r, i', k', rfl, h2⟩ := h
  by_cases h3 : i' = i ∧ k' = k
  · obtain ⟨rfl, rfl⟩ := h3
    cases r with
    | nil => exact .inr (.inl rfl)
    | cons e r => exact .inr (.inr ⟨e :: r, by simp, rfl⟩)
  · exact .inl ⟨r, i', k', rfl, by omega⟩
theorem pr_mono {q p : Pth} {i k : Nat} (h : Pr q i k p) : Pr q i (k + 1) p := by
  obtain ⟨r, i', k', h1, h2⟩ := h
  exact ⟨r, i', k', h1, by omega⟩
theorem pr_new (q : Pth) (i k : Nat) : Pr q i (k + 1) ((i, k) :: q) := ⟨[], i, k, rfl, by omega⟩
theorem pr_new2 {q p : Pth} {i k : Nat} (h : Ext ((i, k) :: q) p) : Pr q i (k + 1) p := by
  obtain ⟨r, h1, h2⟩ := h
  exact ⟨r, i, k, h2, by omega⟩
theorem getL_suf {root : List Fl} {p : Pth} : ∀ {r : Pth} {ys : List Fl}, getL root (r ++ p) = some ys → ∃ zs, getL root p = some zs
  | [], ys, h => ⟨ys, h⟩
  | (i, k) :: r, ys, h => by
    obtain ⟨zs, h2⟩ : ∃ zs, getL root (r ++ p) = some zs := by
      rw [List.cons_append, getL] at h
      cases hq : getL root (r ++ p) with
      | none => rw [hq] at h; cases h
      | some zs => exact ⟨zs, rfl⟩
    exact getL_suf h2
theorem pr_tail {q p : Pth} {e : Nat × Nat} {i k : Nat} (h : Pr q i k (e :: p)) : p = q ∨ Pr q i k p := by
  obtain ⟨r, i', k', h1, h2⟩ := h
  cases r with
  | nil =>
    simp only [List.nil_append, List.cons.injEq] at h1
    exact .inl h1.2
  | cons e2 r =>
    simp only [List.cons_append, List.cons.injEq] at h1
    exact .inr ⟨r, i', k', h1.2, h2⟩
theorem ext_tail {q p : Pth} {e : Nat × Nat} (h : Ext q (e :: p)) : p = q ∨ Ext q p := by
  obtain ⟨r, h1, h2⟩ := h
  cases r with
  | nil => exact absurd rfl h1
  | cons e2 r =>
    simp only [List.cons_append, List.cons.injEq] at h2
    cases r with
    | nil => exact .inl h2.2
    | cons e3 r => exact .inr ⟨e3 :: r, by simp, h2.2⟩
/-- A list's block with its map of the lists below. -/
def NodeD (w : World) (H0 : Nat) (adr dnf : Pth → Nat) (root : List Fl) (p : Pth) (ys : List Fl) : Prop :=
  NodeC w H0 adr p ys (dnf p) ∧ ∃ kvs, DM w (dnf p) kvs ∧ ∀ i k zs, getL root ((i, k) :: p) = some zs → dget kvs (i, k) = some (.pointer (some ⟨adr ((i, k) :: p), 0, none⟩))
/-- What is known while the labels of the list at q are collected: w the world at the start. -/
structure CSt (H0 J M1 M2 M3 : Nat) (root : List Fl) (q : Pth) (adr dnf : Pth → Nat) (w : World) (i k : Nat) (Dc : List (Int × Pth × Nat)) (wr : World) (adr' dnf' : Pth → Nat) (kvs : List ((Nat × Nat) × Value)) : Prop where
  agree : ∀ p, ¬ Ext q p → adr' p = adr p ∧ dnf' p = dnf p
  jc : JC wr J M1 M2 M3 (!decide (Dc.map Prod.fst).Nodup)
  wm : WM wr M1 M2 adr' Dc
  dps : ∀ e ∈ Dc, ¬ Ext q e.2.1 ∨ Pr q i k e.2.1
  node : ∀ p ys, Pr q i k p → getL root p = some ys → NodeD wr H0 adr' dnf' root p ys ∧ w.heap.size ≤ adr' p ∧ adr' p < wr.heap.size ∧ w.heap.size ≤ dnf' p ∧ dnf' p < wr.heap.size
  inj : ∀ p p' ys ys', Pr q i k p → Pr q i k p' → getL root p = some ys → getL root p' = some ys' → adr' p = adr' p' → p = p'
  dm : DM wr (dnf q) kvs
  dsome : ∀ i' k' zs, (i' < i ∨ (i' = i ∧ k' < k)) → getL root ((i', k') :: q) = some zs → dget kvs (i', k') = some (.pointer (some ⟨adr' ((i', k') :: q), 0, none⟩))
  dnone : ∀ i' k', ¬ (i' < i ∨ (i' = i ∧ k' < k)) → dget kvs (i', k') = none
  fx : Fx [J, M1, M2, dnf q] w.heap.size w wr
/-- What stands beside. -/
structure CF (H0 J M1 M2 M3 : Nat) (q : Pth) (dnf : Pth → Nat) (w : World) : Prop where
  h0 : H0 ≤ J ∧ H0 ≤ M1 ∧ H0 ≤ M2 ∧ H0 ≤ M3 ∧ H0 ≤ dnf q
  lt : J < w.heap.size ∧ M1 < w.heap.size ∧ M2 < w.heap.size ∧ M3 < w.heap.size ∧ dnf q < w.heap.size
  ne : M1 ≠ M2 ∧ M1 ≠ M3 ∧ M2 ≠ M3 ∧ dnf q ≠ M1 ∧ dnf q ≠ M2 ∧ dnf q ≠ M3 ∧ J ≠ M1 ∧ J ≠ M2 ∧ J ≠ M3 ∧ J ≠ dnf q
theorem NodeC.keep {w w' : World} {H0 : Nat} {adr adr' : Pth → Nat} {p : Pth} {ys : List Fl} {dn : Nat} (h : NodeC w H0 adr p ys dn) (hb : w'.heap[adr p]? = w.heap[adr p]?) (hlow : ∀ k, k < H0 → w'.heap[k]? = w.heap[k]?) (ha : adr' p = adr p) (hu : upv adr' p = upv adr p) : NodeC w' H0 adr' p ys dn := by
  obtain ⟨a, cap, h1, h2⟩ := h
  exact ⟨a, cap, by rw [ha, hb, hu]; exact h1, h2.keep hlow (Nat.le_refl _)⟩
/-- Blocks are added, nothing else. -/
theorem CSt.up {H0 J M1 M2 M3 : Nat} {root : List Fl} {q : Pth} {adr dnf : Pth → Nat} {w : World} {i k : Nat} {Dc : List (Int × Pth × Nat)} {wr wr' : World} {adr' dnf' : Pth → Nat} {kvs : List ((Nat × Nat) × Value)} (h : CSt H0 J M1 M2 M3 root q adr dnf w i k Dc wr adr' dnf' kvs) (hF : CF H0 J M1 M2 M3 q dnf w) (hb : Below wr.heap.size wr wr') : CSt H0 J M1 M2 M3 root q adr dnf w i k Dc wr' adr' dnf' kvs := by
  have hs := h.fx.size
  have hsz := hb.size
  have hh := hF.h0
  have hl := hF.lt
  have hlow : ∀ k, k < H0 → wr'.heap[k]? = wr.heap[k]? := fun k hk => hb.block k (by omega)
  refine ⟨h.agree, h.jc.keep (hb.block J h.jc.lt), ?_, h.dps, ?_, h.inj, h.dm.keep (hb.block _ h.dm.lt), h.dsome, h.dnone, h.fx.trans (Fx.of (hb.mono hs))⟩
  · obtain ⟨k1, k2, h1, h2, h3⟩ := h.wm
    exact ⟨k1, k2, h1.keep (hb.block _ h1.lt), h2.keep (hb.block _ h2.lt), h3⟩
  · intro p ys hp hg
    obtain ⟨⟨h1, kv, h2, h3⟩, h4, h5, h6, h7⟩ := h.node p ys hp hg
    exact ⟨⟨h1.keep (hb.block _ h5) hlow rfl rfl, kv, h2.keep (hb.block _ h2.lt), h3⟩, h4, by omega, h6, by omega⟩
/-- Only the struct of the jumps and the maps of the labels change, and blocks are added. -/
theorem CSt.lab {H0 J M1 M2 M3 : Nat} {root : List Fl} {q : Pth} {adr dnf : Pth → Nat} {w : World} {i k : Nat} {Dc Dc' : List (Int × Pth × Nat)} {wr wr' : World} {adr' dnf' : Pth → Nat} {kvs : List ((Nat × Nat) × Value)} (h : CSt H0 J M1 M2 M3 root q adr dnf w i k Dc wr adr' dnf' kvs) (hF : CF H0 J M1 M2 M3 q dnf w) (hb : Fx [J, M1, M2] wr.heap.size wr wr')
    (hj : JC wr' J M1 M2 M3 (!decide (Dc'.map Prod.fst).Nodup)) (hw : WM wr' M1 M2 adr' Dc') (hd : ∀ e ∈ Dc', ¬ Ext q e.2.1 ∨ Pr q i k e.2.1) : CSt H0 J M1 M2 M3 root q adr dnf w i k Dc' wr' adr' dnf' kvs := by
  have hs := h.fx.size
  have hsz := hb.size
  have hh := hF.h0
  have hl := hF.lt
  have hn := hF.ne
  have hlow : ∀ k, k < H0 → wr'.heap[k]? = wr.heap[k]? := fun k hk => hb.blk k (by omega) (by simp; omega)
  refine ⟨h.agree, hj, hw, hd, ?_, h.inj, h.dm.keep (hb.blk _ h.dm.lt (by simp; omega)), h.dsome, h.dnone, h.fx.trans (hb.mono hs (fun k _ hk => by simp at hk ⊢; omega))⟩
  intro p ys hp hg
  obtain ⟨⟨h1, kv, h2, h3⟩, h4, h5, h6, h7⟩ := h.node p ys hp hg
  exact ⟨⟨h1.keep (hb.blk _ h5 (by simp; omega)) hlow rfl rfl, kv, h2.keep (hb.blk _ h2.lt (by simp; omega)), h3⟩, h4, by omega, h6, by omega⟩
/-- From one statement to the next. -/
theorem CSt.next {H0 J M1 M2 M3 : Nat} {root : List Fl} {q : Pth} {adr dnf : Pth → Nat} {w : World} {i k : Nat} {Dc : List (Int × Pth × Nat)} {wr : World} {adr' dnf' : Pth → Nat} {kvs : List ((Nat × Nat) × Value)} (h : CSt H0 J M1 M2 M3 root q adr dnf w i k Dc wr adr' dnf' kvs) (hk : ∀ k' zs, getL root ((i, k') :: q) = some zs → k' < k) : CSt H0 J M1 M2 M3 root q adr dnf w (i + 1) 0 Dc wr adr' dnf' kvs := by
  have hd : ∀ i' k' zs, (i' < i + 1 ∨ (i' = i + 1 ∧ k' < 0)) → getL root ((i', k') :: q) = some zs → (i' < i ∨ (i' = i ∧ k' < k)) := by
    intro i' k' zs hi hg
    by_cases h1 : i' = i
    · subst h1; exact .inr ⟨rfl, hk k' zs hg⟩
    · exact .inl (by omega)
  have hp : ∀ p ys, Pr q (i + 1) 0 p → getL root p = some ys → Pr q i k p := by
    rintro p ys ⟨r, i', k', rfl, h2⟩ hg
    obtain ⟨zs, hz⟩ := getL_suf hg
    exact ⟨r, i', k', rfl, hd i' k' zs h2 hz⟩
  refine ⟨h.agree, h.jc, h.wm, fun e he => ?_, fun p ys hpp hg => h.node p ys (hp p ys hpp hg) hg, fun p p' ys ys' h1 h2 g1 g2 => h.inj p p' ys ys' (hp p ys h1 g1) (hp p' ys' h2 g2) g1 g2, h.dm, fun i' k' zs hi hg => h.dsome i' k' zs (hd i' k' zs hi hg) hg, fun i' k' hi => h.dnone i' k' (by omega), h.fx⟩
  rcases h.dps e he with h1 | ⟨r, i', k', h1, h2⟩
  · exact .inl h1
  · exact .inr ⟨r, i', k', h1, by omega⟩
/-- At the start. -/
theorem CSt.start {H0 J M1 M2 M3 : Nat} {root : List Fl} {q : Pth} {adr dnf : Pth → Nat} {w : World} {D : List (Int × Pth × Nat)} (hj : JC w J M1 M2 M3 (!decide (D.map Prod.fst).Nodup)) (hw : WM w M1 M2 adr D) (hd : DM w (dnf q) []) (hD : ∀ e ∈ D, ¬ Ext q e.2.1) : CSt H0 J M1 M2 M3 root q adr dnf w 0 0 D w adr dnf [] := by
  have hno : ∀ p, ¬ Pr q 0 0 p := by rintro p ⟨r, i', k', _, h⟩; omega
  exact ⟨fun _ _ => ⟨rfl, rfl⟩, hj, hw, fun e he => .inl (hD e he), fun p _ h => absurd h (hno p), fun p _ _ _ h => absurd h (hno p), hd, fun i' k' zs hi => by omega, fun i' k' _ => rfl, Fx.refl _ _ _⟩
/-- What is known when the labels of the list at q are collected. -/
structure CE (H0 J M1 M2 M3 : Nat) (root : List Fl) (q : Pth) (adr dnf : Pth → Nat) (w : World) (Dc : List (Int × Pth × Nat)) (wr : World) (adr' dnf' : Pth → Nat) : Prop where
  agree : ∀ p, ¬ Ext q p → adr' p = adr p ∧ dnf' p = dnf p
  jc : JC wr J M1 M2 M3 (!decide (Dc.map Prod.fst).Nodup)
  wm : WM wr M1 M2 adr' Dc
  node : ∀ p ys, Ext q p → getL root p = some ys → NodeD wr H0 adr' dnf' root p ys ∧ w.heap.size ≤ adr' p ∧ adr' p < wr.heap.size ∧ w.heap.size ≤ dnf' p ∧ dnf' p < wr.heap.size
  inj : ∀ p p' ys ys', Ext q p → Ext q p' → getL root p = some ys → getL root p' = some ys' → adr' p = adr' p' → p = p'
  down : ∃ kvs, DM wr (dnf q) kvs ∧ ∀ i k zs, getL root ((i, k) :: q) = some zs → dget kvs (i, k) = some (.pointer (some ⟨adr' ((i, k) :: q), 0, none⟩))
  fx : Fx [J, M1, M2, dnf q] w.heap.size w wr
theorem ext_pr {root : List Fl} {q p : Pth} {xs ys : List Fl} (hq : getL root q = some xs) (h : Ext q p) (hg : getL root p = some ys) : Pr q xs.length 0 p := by
  obtain ⟨r, h1, rfl⟩ := h
  obtain ⟨r', ⟨i, k⟩, rfl⟩ : ∃ r' e, r = r' ++ [e] := ⟨r.dropLast, r.getLast h1, (List.dropLast_concat_getLast h1).symm⟩
  rw [List.append_assoc] at hg ⊢
  obtain ⟨zs, hz⟩ := getL_suf (p := [(i, k)] ++ q) hg
  exact ⟨r', i, k, rfl, .inl (getL_idx (i := i) (k := k) hz hq)⟩
theorem CSt.finish {H0 J M1 M2 M3 : Nat} {root : List Fl} {q : Pth} {adr dnf : Pth → Nat} {w : World} {xs : List Fl} {Dc : List (Int × Pth × Nat)} {wr : World} {adr' dnf' : Pth → Nat} {kvs : List ((Nat × Nat) × Value)} (h : CSt H0 J M1 M2 M3 root q adr dnf w xs.length 0 Dc wr adr' dnf' kvs) (hq : getL root q = some xs) : CE H0 J M1 M2 M3 root q adr dnf w Dc wr adr' dnf' := by
  refine ⟨h.agree, h.jc, h.wm, fun p ys hp hg => h.node p ys (ext_pr hq hp hg) hg, fun p p' ys ys' h1 h2 g1 g2 => h.inj p p' ys ys' (ext_pr hq h1 g1) (ext_pr hq h2 g2) g1 g2, ⟨kvs, h.dm, fun i k zs hg => h.dsome i k zs (.inl (getL_idx hg hq)) hg⟩, h.fx⟩
def upA (f : Pth → Nat) (c : Pth) (v : Nat) : Pth → Nat := fun p => if p = c then v else f p
theorem upA_same (f : Pth → Nat) (c : Pth) (v : Nat) : upA f c v c = v := if_pos rfl
theorem upA_other {f : Pth → Nat} {c p : Pth} {v : Nat} (h : p ≠ c) : upA f c v p = f p := if_neg h
theorem WM.keep {w w' : World} {M1 M2 : Nat} {adr adr' : Pth → Nat} {D : List (Int × Pth × Nat)} (h : WM w M1 M2 adr D) (h1 : w'.heap[M1]? = w.heap[M1]?) (h2 : w'.heap[M2]? = w.heap[M2]?) (ha : ∀ e ∈ D, adr' e.2.1 = adr e.2.1) : WM w' M1 M2 adr' D := by
  obtain ⟨k1, k2, q1, q2, q3⟩ := h
  refine ⟨k1, k2, q1.keep h1, q2.keep h2, fun n => ⟨?_, (q3 n).2⟩⟩
  rw [(q3 n).1]
  cases hn : whr D n with
  | none => rfl
  | some e =>
    have := ha _ (whr_mem hn)
    simp only [Option.map_some]
    rw [this]
theorem upv_eq {adr adr' : Pth → Nat} {e : Nat × Nat} {p : Pth} (h : adr' p = adr p) : upv adr' (e :: p) = upv adr (e :: p) := by simp only [upv, h]
/-- The list at (i, k) is entered: what its collecting asks. -/
theorem CSt.enter {H0 J M1 M2 M3 : Nat} {root : List Fl} {q : Pth} {adr dnf : Pth → Nat} {w : World} {i k : Nat} {Dc : List (Int × Pth × Nat)} {wr W3 : World} {adr' dnf' : Pth → Nat} {kvs : List ((Nat × Nat) × Value)} {y : List Fl} {ay : Option Addr} {capy : Nat} (h : CSt H0 J M1 M2 M3 root q adr dnf w i k Dc wr adr' dnf' kvs) (hF : CF H0 J M1 M2 M3 q dnf w) (hx : Fx [dnf q] wr.heap.size wr W3) (hz : W3.heap.size = wr.heap.size + 2) (hm : DM W3 wr.heap.size [])
    (hn : W3.heap[wr.heap.size + 1]? = some (.cells #[.pointer (some ⟨adr q, 0, none⟩), .int .i64 i, .slice ay y.length capy, .map (some wr.heap.size)] 65 (0, 0))) (hs : SL W3 H0 ay capy y) :
    JC W3 J M1 M2 M3 (!decide (Dc.map Prod.fst).Nodup) ∧ WM W3 M1 M2 (upA adr' ((i, k) :: q) (wr.heap.size + 1)) Dc ∧ NodeC W3 H0 (upA adr' ((i, k) :: q) (wr.heap.size + 1)) ((i, k) :: q) y (upA dnf' ((i, k) :: q) wr.heap.size ((i, k) :: q)) ∧ DM W3 (upA dnf' ((i, k) :: q) wr.heap.size ((i, k) :: q)) [] ∧ CF H0 J M1 M2 M3 ((i, k) :: q) (upA dnf' ((i, k) :: q) wr.heap.size) W3 ∧ ∀ e ∈ Dc, ¬ Ext ((i, k) :: q) e.2.1 := by
  have hsz := h.fx.size
  have hh := hF.h0
  have hl := hF.lt
  have hne := hF.ne
  have hqc : q ≠ (i, k) :: q := fun e => by have := congrArg List.length e; simp at this
  have had : ∀ e ∈ Dc, e.2.1 ≠ (i, k) :: q ∧ ¬ Ext ((i, k) :: q) e.2.1 := by
    intro e he
    rcases h.dps e he with h1 | h1
    · exact ⟨fun e2 => h1 (by rw [e2]; exact ext_cons q i k), fun h2 => h1 (ext_up h2)⟩
    · exact pr_not h1
  refine ⟨h.jc.keep (hx.blk J h.jc.lt (by simp; omega)), h.wm.keep (hx.blk M1 (by omega) (by simp; omega)) (hx.blk M2 (by omega) (by simp; omega)) (fun e he => upA_other (had e he).1), ⟨ay, capy, ?_, hs⟩, ?_, ?_, fun e he => (had e he).2⟩
  · rw [upA_same, upA_same, hn]
    show _ = some (Obj.cells #[.pointer (some ⟨upA adr' ((i, k) :: q) (wr.heap.size + 1) q, 0, none⟩), .int .i64 i, .slice ay y.length capy, .map (some wr.heap.size)] 65 (0, 0))
    rw [upA_other hqc, (h.agree q (ext_self q)).1]
  · rw [upA_same]; exact hm
  · refine ⟨?_, ?_, ?_⟩ <;> rw [upA_same] <;> omega
/-- The list at (i, k) is left. -/
theorem CSt.leave {H0 J M1 M2 M3 : Nat} {root : List Fl} {q : Pth} {adr dnf : Pth → Nat} {w : World} {i k : Nat} {Dc : List (Int × Pth × Nat)} {wr W3 w9 : World} {adr' dnf' a2 d2 : Pth → Nat} {kvs : List ((Nat × Nat) × Value)} {y : List Fl} {ay : Option Addr} {capy : Nat} (h : CSt H0 J M1 M2 M3 root q adr dnf w i k Dc wr adr' dnf' kvs) (hF : CF H0 J M1 M2 M3 q dnf w) (hx : Fx [dnf q] wr.heap.size wr W3) (hz : W3.heap.size = wr.heap.size + 2)
    (hy : getL root ((i, k) :: q) = some y) (hn : NodeC W3 H0 (upA adr' ((i, k) :: q) (wr.heap.size + 1)) ((i, k) :: q) y (upA dnf' ((i, k) :: q) wr.heap.size ((i, k) :: q))) (hd : DM W3 (dnf q) (kvs ++ [((i, k), .pointer (some ⟨wr.heap.size + 1, 0, none⟩))]))
    (c : CE H0 J M1 M2 M3 root ((i, k) :: q) (upA adr' ((i, k) :: q) (wr.heap.size + 1)) (upA dnf' ((i, k) :: q) wr.heap.size) W3 (Dc ++ dpL ((i, k) :: q) 0 y) w9 a2 d2) :
    CSt H0 J M1 M2 M3 root q adr dnf w i (k + 1) (Dc ++ dpL ((i, k) :: q) 0 y) w9 a2 d2 (kvs ++ [((i, k), .pointer (some ⟨wr.heap.size + 1, 0, none⟩))]) := by
  have hsz := h.fx.size
  have hsz9 := c.fx.size
  have hh := hF.h0
  have hl := hF.lt
  have hne := hF.ne
  have hxF := c.fx
  rw [upA_same] at hxF
  have hlow : ∀ b, b < H0 → w9.heap[b]? = wr.heap[b]? := fun b hb => (hxF.blk b (by omega) (by simp; omega)).trans (hx.blk b (by omega) (by simp; omega))
  have hmid : ∀ b, w.heap.size ≤ b → b < wr.heap.size → w9.heap[b]? = wr.heap[b]? := fun b hb hb2 => (hxF.blk b (by omega) (by simp; omega)).trans (hx.blk b (by omega) (by simp; omega))
  have ho : ∀ p, p ≠ (i, k) :: q → ¬ Ext ((i, k) :: q) p → a2 p = adr' p ∧ d2 p = dnf' p := by
    intro p h1 h2
    obtain ⟨g1, g2⟩ := c.agree p h2
    rw [upA_other h1] at g1 g2
    exact ⟨g1, g2⟩
  have hoP : ∀ p, Pr q i k p → a2 p = adr' p ∧ d2 p = dnf' p := fun p hp => ho p (pr_not hp).1 (pr_not hp).2
  have hoQ : a2 q = adr' q ∧ d2 q = dnf' q := ho q (fun e => by have := congrArg List.length e; simp at this) (by
    rintro ⟨r, _, h2⟩
    have := congrArg List.length h2
    simp at this
    omega)
  obtain ⟨hc1, hc2⟩ := c.agree ((i, k) :: q) (ext_self _)
  rw [upA_same] at hc1 hc2
  have hP : ∀ p ys, Pr q i k p → getL root p = some ys → NodeD w9 H0 a2 d2 root p ys ∧ w.heap.size ≤ a2 p ∧ a2 p < wr.heap.size ∧ w.heap.size ≤ d2 p ∧ d2 p < wr.heap.size := by
    intro p ys hp hg
    obtain ⟨⟨h1, kv, h2, h3⟩, h4, h5, h6, h7⟩ := h.node p ys hp hg
    obtain ⟨e1, e2⟩ := hoP p hp
    refine ⟨⟨?_, kv, ?_, ?_⟩, by omega, by omega, by omega, by omega⟩
    · rw [e2]
      refine h1.keep (hmid _ h4 h5) hlow e1 ?_
      cases p with
      | nil => rfl
      | cons e p' =>
        refine upv_eq ?_
        rcases pr_tail hp with rfl | h8
        · exact hoQ.1
        · exact (hoP p' h8).1
    · rw [e2]; exact h2.keep (hmid _ h6 h7)
    · intro i2 k2 zs hz2
      rw [h3 i2 k2 zs hz2]
      obtain ⟨r, i', k', h8, h9⟩ := hp
      rw [(hoP ((i2, k2) :: p) ⟨(i2, k2) :: r, i', k', by rw [h8]; rfl, h9⟩).1]
  have hC : NodeD w9 H0 a2 d2 root ((i, k) :: q) y := by
    refine ⟨?_, ?_⟩
    · rw [hc2]
      rw [upA_same] at hn
      refine hn.keep ?_ ?_ ?_ ?_
      · rw [upA_same]; exact hxF.blk _ (by omega) (by simp; omega)
      · exact fun b hb => hxF.blk b (by omega) (by simp; omega)
      · rw [hc1, upA_same]
      · refine upv_eq ?_
        rw [hoQ.1, upA_other (fun e => by have := congrArg List.length e; simp at this)]
    · obtain ⟨kv, h2, h3⟩ := c.down
      rw [upA_same] at h2
      exact ⟨kv, by rw [hc2]; exact h2, h3⟩
  have hE : ∀ p ys, Ext ((i, k) :: q) p → getL root p = some ys → NodeD w9 H0 a2 d2 root p ys ∧ W3.heap.size ≤ a2 p ∧ a2 p < w9.heap.size ∧ W3.heap.size ≤ d2 p ∧ d2 p < w9.heap.size := c.node
  refine ⟨?_, c.jc, c.wm, ?_, ?_, ?_, ?_, ?_, ?_, ?_⟩
  · intro p hp
    obtain ⟨g1, g2⟩ := ho p (fun e => hp (by rw [e]; exact ext_cons q i k)) (fun e => hp (ext_up e))
    rw [g1, g2]
    exact h.agree p hp
  · intro e he
    rcases List.mem_append.1 he with he | he
    · rcases h.dps e he with h1 | h1
      · exact .inl h1
      · exact .inr (pr_mono h1)
    · obtain ⟨r, hr⟩ := dp_sufL he
      exact .inr ⟨r, i, k, hr, by omega⟩
  · intro p ys hp hg
    rcases pr_succ hp with h1 | rfl | h1
    · obtain ⟨g1, g2, g3, g4, g5⟩ := hP p ys h1 hg
      exact ⟨g1, g2, by omega, g4, by omega⟩
    · rw [hy] at hg
      cases hg
      exact ⟨hC, by omega, by omega, by omega, by omega⟩
    · obtain ⟨g1, g2, g3, g4, g5⟩ := hE p ys h1 hg
      exact ⟨g1, by omega, g3, by omega, g5⟩
  · intro p p' ys ys' hp hp' hg hg' heq
    rcases pr_succ hp with h1 | rfl | h1
    · have r1 := (hP p ys h1 hg).2.2.1
      rcases pr_succ hp' with h2 | rfl | h2
      · exact h.inj p p' ys ys' h1 h2 hg hg' (by rw [← (hoP p h1).1, ← (hoP p' h2).1]; exact heq)
      · omega
      · have r2 := (hE p' ys' h2 hg').2.1
        omega
    · rcases pr_succ hp' with h2 | rfl | h2
      · have r1 := (hP p' ys' h2 hg').2.2.1
        omega
      · rfl
      · have r2 := (hE p' ys' h2 hg').2.1
        omega
    · have r1 := (hE p ys h1 hg).2.1
      rcases pr_succ hp' with h2 | rfl | h2
      · have r2 := (hP p' ys' h2 hg').2.2.1
        omega
      · omega
      · exact c.inj p p' ys ys' h1 h2 hg hg' heq
  · exact hd.keep (hxF.blk _ (by omega) (by simp; omega))
  · intro i' k' zs hi hg
    rw [dget_push _ _ _ _ (h.dnone i k (by omega))]
    by_cases h1 : (i', k') = (i, k)
    · rw [if_pos h1, h1, hc1]
    · rw [if_neg h1]
      have h2 : i' < i ∨ (i' = i ∧ k' < k) := by
        simp only [Prod.mk.injEq] at h1
        omega
      rw [h.dsome i' k' zs h2 hg, (hoP ((i', k') :: q) ⟨[], i', k', rfl, h2⟩).1]
  · intro i' k' hi
    rw [dget_push _ _ _ _ (h.dnone i k (by omega)), if_neg (by simp only [Prod.mk.injEq]; omega)]
    exact h.dnone i' k' (by omega)
  · refine h.fx.trans ?_
    exact (hx.mono hsz (fun b _ hb => by simp at hb ⊢; omega)).trans (hxF.mono (by omega) (fun b hb2 hb => by simp at hb ⊢; omega))
theorem whr_snoc (D : List (Int × Pth × Nat)) (n : Int) (p : Pth) (a : Nat) (m : Int) : whr (D ++ [(n, p, a)]) m = if m = n then some (p, a) else whr D m := by
  unfold whr
  rw [List.reverse_append]
  simp only [List.reverse_cons, List.reverse_nil, List.nil_append, List.singleton_append, List.find?_cons]
  by_cases hm : m = n
  · subst hm; simp
  · have : (n == m) = false := by simp; omega
    simp [this, hm]
theorem whr_isSome (D : List (Int × Pth × Nat)) (n : Int) : (whr D n).isSome = decide (n ∈ D.map Prod.fst) := by
  rw [Bool.eq_iff_iff, decide_eq_true_eq]
  unfold whr
  rw [Option.isSome_map, List.find?_isSome]
  simp only [List.mem_reverse, beq_iff_eq, List.mem_map]
theorem nodup_snoc (D : List (Int × Pth × Nat)) (n : Int) (p : Pth) (a : Nat) : (!decide ((D ++ [(n, p, a)]).map Prod.fst).Nodup) = ((!decide (D.map Prod.fst).Nodup) || decide (n ∈ D.map Prod.fst)) := by
  rw [List.map_append, Bool.eq_iff_iff]
  simp only [Bool.not_eq_true', decide_eq_false_iff_not, Bool.or_eq_true, decide_eq_true_eq]
  have : (D.map Prod.fst ++ [(n, p, a)].map Prod.fst).Nodup ↔ ((D.map Prod.fst).Nodup ∧ n ∉ D.map Prod.fst) := by
    rw [List.nodup_append]
    constructor
    · rintro ⟨h1, _, h3⟩
      exact ⟨h1, fun hm => h3 n hm n (by simp) rfl⟩
    · rintro ⟨h1, h2⟩
      refine ⟨h1, by simp, fun x hx y hy e => ?_⟩
      simp at hy
      subst hy; subst e
      exact h2 hx
  rw [this]
  constructor
  · intro h
    by_cases h1 : (D.map Prod.fst).Nodup
    · right
      by_cases h2 : n ∈ D.map Prod.fst
      · exact h2
      · exact absurd ⟨h1, h2⟩ h
    · exact .inl h1
  · rintro (h | h) ⟨h1, h2⟩
    · exact h h1
    · exact h2 h
end Go.Proofs.YtpodifbgfcclbaaGreatDoor

/- The rules for labels: a label is written down; what collecting promises. -/
set_option linter.unusedVariables false
set_option linter.unusedSimpArgs false
namespace Go.Proofs.YtpodifbgfcclbaaGreatDoor
open Go.RowKit
attribute [local go_sem] Nat.lt_add_one_of_lt

/-- 'where[n], at[n] = p, i'. -/
theorem WM.ent {w : World} {M1 M2 : Nat} {adr : Pth → Nat} {D : List (Int × Pth × Nat)} (h : WM w M1 M2 adr D) (hne : M1 ≠ M2) (n : Int) (p : Pth) (a : Nat) :
    ∃ (Wa Wb Wc Wd : World) (v1 v2 : Value) (s1 s2 : Nat), (Instr.mapEntry 57 (.map (some M1)) (.int .i64 n)).run Tryz.prog w = .ok (.tuple #[v1, .int .i64 s1]) Wa ∧
      (Instr.entryStore 57 (.map (some M1)) (.int .i64 s1) (.pointer (some ⟨adr p, 0, none⟩))).run Tryz.prog Wa = .ok () Wb ∧
      (Instr.mapEntry 58 (.map (some M2)) (.int .i64 n)).run Tryz.prog Wb = .ok (.tuple #[v2, .int .i64 s2]) Wc ∧
      (Instr.entryStore 58 (.map (some M2)) (.int .i64 s2) (.int .i64 a)).run Tryz.prog Wc = .ok () Wd ∧
      WM Wd M1 M2 adr (D ++ [(n, p, a)]) ∧ ∀ H, Fx [M1, M2] H w Wa ∧ Fx [M1, M2] H w Wb ∧ Fx [M1, M2] H w Wc ∧ Fx [M1, M2] H w Wd := by
  obtain ⟨k1, k2, h1, h2, h3⟩ := h
  obtain ⟨o1, o2, v1, s1, k1', e1, e2, m1, g1⟩ := run_entI 57 62 (.pointer none) und57 zero62 M1 n (.pointer (some ⟨adr p, 0, none⟩)) k1 w h1
  obtain ⟨Wa, hWa⟩ : ∃ Wa, Wa = setObj w M1 o1 := ⟨_, rfl⟩
  rw [← hWa] at e1 e2 m1
  obtain ⟨Wb, hWb⟩ : ∃ Wb, Wb = setObj Wa M1 o2 := ⟨_, rfl⟩
  rw [← hWb] at e2 m1
  have h2b : IM Wb M2 k2 := h2.keep (by rw [hWb, setObj_heap _ _ _ _ (Ne.symm hne), hWa, setObj_heap _ _ _ _ (Ne.symm hne)])
  obtain ⟨o3, o4, v2, s2, k2', e3, e4, m2, g2⟩ := run_entI 58 3 (.int .i64 0) und58 zero3 M2 n (.int .i64 a) k2 Wb h2b
  obtain ⟨Wc, hWc⟩ : ∃ Wc, Wc = setObj Wb M2 o3 := ⟨_, rfl⟩
  rw [← hWc] at e3 e4 m2
  obtain ⟨Wd, hWd⟩ : ∃ Wd, Wd = setObj Wc M2 o4 := ⟨_, rfl⟩
  rw [← hWd] at e4 m2
  refine ⟨Wa, Wb, Wc, Wd, v1, v2, s1, s2, e1, e2, e3, e4, ⟨k1', k2', m1.keep ?_, m2, fun m => ?_⟩, fun H => ?_⟩
  · rw [hWd, setObj_heap _ _ _ _ hne, hWc, setObj_heap _ _ _ _ hne]
  · rw [g1, g2, whr_snoc, (h3 m).1, (h3 m).2]
    by_cases hm : m = n
    · simp [hm]
    · simp [hm]
  · have fa : Fx [M1, M2] H w Wa := by rw [hWa]; exact (Fx.refl _ _ _).setObj (.inl (by simp)) _
    have fb : Fx [M1, M2] H w Wb := by rw [hWb]; exact fa.setObj (.inl (by simp)) _
    have fc : Fx [M1, M2] H w Wc := by rw [hWc]; exact fb.setObj (.inl (by simp)) _
    have fd : Fx [M1, M2] H w Wd := by rw [hWd]; exact fc.setObj (.inl (by simp)) _
    exact ⟨fa, fb, fc, fd⟩
theorem lbI_inner : ∀ bd : List (List Fl), lbI bd = lbF (innerB bd)
  | (x :: xs) :: ys => by rw [lbI]; rfl
  | [] => by rw [lbI]; simp [innerB, emptyFl, lbF]
  | [] :: ys => by rw [lbI]; simp [innerB, emptyFl, lbF]
theorem lbF_10a (d : Int) (bd : List (List Fl)) : lbF (.mk 10 (-1) d bd) = lbF (innerB bd) := by
  rw [lbF, if_pos rfl, if_pos rfl, lbI_inner]
theorem lbF_10b {l : Int} (h : ¬ l = -1) (d : Int) (bd : List (List Fl)) : lbF (.mk 10 l d bd) = l :: lbF (innerB bd) := by
  rw [lbF, if_pos rfl, if_neg h, lbI_inner]
theorem lbF_no {k l d : Int} {bd : List (List Fl)} (h : ¬ k = 10) : lbF (.mk k l d bd) = [] := by
  rw [lbF, if_neg h]
theorem st_l10 {l d : Int} {b : List (List Fl)} {t : Bool} (h : stF (.mk 10 l d b) t = true) : l = -1 ∨ 0 < l := by
  have h1 := st_lbl h
  have h2 : ¬ l = 0 := by
    rintro rfl
    rw [stF] at h
    simp at h
  omega
theorem dpL_app (p : Pth) (m : List Fl) : ∀ (l : List Fl) (o : Nat), dpL p o (l ++ m) = dpL p o l ++ dpL p (o + l.length) m
  | [], o => by simp [dpL]
  | x :: l, o => by
    rw [List.cons_append, dpL, dpL, dpL_app p m l (o + 1), List.append_assoc]
    have : o + 1 + l.length = o + (x :: l).length := by simp; omega
    rw [this]
theorem dpL_take {p : Pth} {xs : List Fl} {i : Nat} {x : Fl} (h : xs[i]? = some x) : dpL p 0 (xs.take (i + 1)) = dpL p 0 (xs.take i) ++ dpF p i x := by
  rw [List.take_add_one, h, dpL_app]
  have hl : (xs.take i).length = i := by rw [List.length_take]; have := (List.getElem?_eq_some_iff.1 h).1; omega
  rw [hl, Nat.zero_add]
  simp [dpL]
theorem dpB_app (p : Pth) (i : Nat) (m : List (List Fl)) : ∀ (l : List (List Fl)) (o : Nat), dpB p i o (l ++ m) = dpB p i o l ++ dpB p i (o + l.length) m
  | [], o => by simp [dpB]
  | x :: l, o => by
    rw [List.cons_append, dpB, dpB, dpB_app p i m l (o + 1), List.append_assoc]
    have : o + 1 + l.length = o + (x :: l).length := by simp; omega
    rw [this]
theorem dpB_take {p : Pth} {i : Nat} {b : List (List Fl)} {j : Nat} {y : List Fl} (h : b[j]? = some y) : dpB p i 0 (b.take (j + 1)) = dpB p i 0 (b.take j) ++ dpL ((i, j) :: p) 0 y := by
  rw [List.take_add_one, h, dpB_app]
  have hl : (b.take j).length = j := by rw [List.length_take]; have := (List.getElem?_eq_some_iff.1 h).1; omega
  rw [hl, Nat.zero_add]
  simp [dpB]
theorem CSt.low {H0 J M1 M2 M3 : Nat} {root : List Fl} {q : Pth} {adr dnf : Pth → Nat} {w : World} {i k : Nat} {Dc : List (Int × Pth × Nat)} {wr : World} {adr' dnf' : Pth → Nat} {kvs : List ((Nat × Nat) × Value)} (h : CSt H0 J M1 M2 M3 root q adr dnf w i k Dc wr adr' dnf' kvs) (hF : CF H0 J M1 M2 M3 q dnf w) : ∀ b, b < H0 → wr.heap[b]? = w.heap[b]? := by
  have hh := hF.h0
  have hl := hF.lt
  exact fun b hb => h.fx.blk b (by omega) (by simp; omega)
/-- What collecting the labels of the list at q promises. -/
def CollC (H0 J M1 M2 M3 : Nat) (root : List Fl) (q : Pth) (xs : List Fl) : Prop :=
  ∀ (adr dnf : Pth → Nat) (D : List (Int × Pth × Nat)) (w : World), NodeC w H0 adr q xs (dnf q) → JC w J M1 M2 M3 (!decide (D.map Prod.fst).Nodup) → WM w M1 M2 adr D → DM w (dnf q) [] → CF H0 J M1 M2 M3 q dnf w → (∀ e ∈ D, ¬ Ext q e.2.1) →
    Calls Tryz.prog 41 #[.pointer (some ⟨J, 0, none⟩), .pointer (some ⟨adr q, 0, none⟩)] w fun e w' => e = .returned (.tuple #[]) ∧ ∃ adr' dnf', CE H0 J M1 M2 M3 root q adr dnf w (D ++ dpL q 0 xs) w' adr' dnf'
end Go.Proofs.YtpodifbgfcclbaaGreatDoor
