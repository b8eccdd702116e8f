/- What the maker's statements are put together from. -/
import Derived.Test.YtpodifbgfcclbaaGreatDoorMk7
import Derived.Deep.RegionHeld3
set_option linter.unusedVariables false
set_option linter.unusedSimpArgs false
namespace Go.Proofs.YtpodifbgfcclbaaGreatDoor
open Go.RowKit
attribute [local go_sem] Nat.lt_add_one_of_lt

def BodyC (bd : List (List Fl)) : Prop := ∀ (n : Nat) (B lo M R : Nat) (p : Int) (ps : List Nat) (w : World) (k l d : Int) (a : Option Addr) (cap : Nat), n < 2 → SLL w B a cap bd → MS B lo M R p ps w → p + 16 * rkL (partB bd n) + 2 < 4611686018427387904 →
    Calls Tryz.prog 37 #[.pointer (some ⟨M, 0, none⟩), .agg #[.int .i64 k, .int .i64 l, .int .i64 d, .slice a bd.length cap], .int .i64 n] w (RetBd B lo M R p ps w (partB bd n))
theorem bodyC_of (bd : List (List Fl)) (hls : ∀ y ∈ bd, MkLsC y) (hfi : ∀ y ∈ bd, ∃ thr, fiL y thr = true) : BodyC bd := by
  intro n B lo M R p ps w k l d a cap hn hs hms hp
  cases hy : bd[n]? with
  | none => exact body_any bd n false (fun y h => by rw [hy] at h; cases h) (fun y h => by rw [hy] at h; cases h) B lo M R p ps w k l d a cap hs hms hp hn
  | some y =>
    have hm := List.mem_of_getElem? hy
    obtain ⟨thr, ht⟩ := hfi y hm
    exact body_any bd n thr (fun z h => by rw [hy] at h; cases h; exact hls y hm) (fun z h => by rw [hy] at h; cases h; exact ht) B lo M R p ps w k l d a cap hs hms hp hn
theorem rkL_part (bd : List (List Fl)) (n : Nat) : rkL (partB bd n) ≤ rkB bd := by
  unfold partB
  rw [List.getD_eq_getElem?_getD]
  cases h : bd[n]? with
  | none => simp [rkL]
  | some y => have := rkB_at h; simp; omega
theorem liB_fi : ∀ (bd : List (List Fl)) (t : Bool), liB bd t = true → ∀ y ∈ bd, ∃ thr, fiL y thr = true
  | [], _, _, y, h => by cases h
  | z :: zs, t, h, y, hy => by
    rw [liB_cons, Bool.and_eq_true] at h
    rcases List.mem_cons.1 hy with rfl | hy
    · exact ⟨_, h.1⟩
    · exact liB_fi zs t h.2 y hy
/-- The block statement with the first list, or with none. -/
theorem bs0_of {w : World} {lo H : Nat} {ps : List Nat} {bd : List (List Fl)} {a1 : Nat} {ts : List Tr} {sa : Option Addr} {cap b : Nat} (hl : bd.length < 2) (h1 : lo ≤ a1) (h2 : a1 < H) (h3 : erL ts = partB bd 0) (h4 : w.cell? ⟨a1, 1, none⟩ = some (.slice sa (partB bd 0).length cap))
    (h5 : ts ≠ [] → sa = some ⟨b, 0, none⟩) (h6 : ts = [] → sa = none ∧ cap = 0) (h7 : TL w lo H ps b 0 ts) (h9 : Fresh (gtsL ts) lo H) (hlen : (partB bd 0).length ≤ 8796093022208) : ∃ tb, erB tb = bd ∧ BS0 w lo H ps a1 tb ∧ Fresh (gtsB tb) lo H ∧ tb.length = bd.length := by
  have hel := erL_length ts
  rw [h3] at hel
  rcases bd with _ | ⟨y, _ | ⟨z, zs⟩⟩
  · have : ts = [] := List.length_eq_zero_iff.1 (by rw [← hel]; rfl)
    obtain ⟨rfl, rfl⟩ := h6 this
    exact ⟨[], by rw [erB], by rw [BS0]; exact ⟨h1, h2, h4⟩, by rw [gtsB]; exact Fresh.nil _ _, rfl⟩
  · refine ⟨[ts], by rw [erB, erB, h3]; rfl, ?_, by rw [gtsB, gtsB, List.append_nil]; exact h9, rfl⟩
    rw [BS0]
    exact ⟨h1, h2, sa, cap, by rw [← hel]; exact h4, by rw [← hel]; exact hlen, b, 0, h5, h7⟩
  · simp at hl; omega
theorem part_len {w : World} {H : Nat} {a : Option Addr} {cap : Nat} {bd : List (List Fl)} (hs : SLL w H a cap bd) (n : Nat) : (partB bd n).length ≤ 8796093022208 := by
  unfold partB
  rw [List.getD_eq_getElem?_getD]
  cases h : bd[n]? with
  | none => simp
  | some y =>
    obtain ⟨_, _, b, o, _, h4⟩ := hs
    obtain ⟨hlt, rfl⟩ := List.getElem?_eq_some_iff.1 h
    obtain ⟨_, y', a', cap', _, g2, _, g4⟩ := h4.at n hlt
    rw [h] at g2
    cases g2
    have := g4.1; have := g4.2.1
    simp; omega
theorem BS0.widen {w w' : World} {lo lo' H H' : Nat} {ps ps' : List Nat} {a : Nat} {b : List (List Tr)} (hk : Kept lo H ps ps' w w') (h1 : lo' ≤ lo) (h2 : H ≤ H') (h : BS0 w lo H ps a b) : BS0 w' lo' H' ps' a b := BS0.keepG hk h1 h2 h
theorem CS.widen {w w' : World} {lo lo' H H' : Nat} {ps ps' : List Nat} {sel : Bool} {a : Nat} {d : Int} {b : List (List Tr)} (hk : Kept lo H ps ps' w w') (h1 : lo' ≤ lo) (h2 : H ≤ H') (h : CS w lo H ps sel a d b) : CS w' lo' H' ps' sel a d b := by
  obtain ⟨g1, g2, sa, cap, g3, g4, b', o', g5, g6⟩ := h
  exact ⟨by omega, by omega, sa, cap, hk.cell g1 g2 g3, g4, b', o', g5, CL.keepG hk h1 h2 g6⟩
/-- A tree goes on lying there behind a new block. -/
theorem Kept.alloc (w : World) (o : Obj) {lo H : Nat} {ps : List Nat} (hH : H ≤ w.heap.size) : Kept lo H ps ps w (w.alloc o) := ⟨fun k _ h => Below.heap_alloc _ _ _ (by omega), fun _ _ _ => rfl⟩
theorem MS.setObj {B lo M R : Nat} {p : Int} {ps : List Nat} {w : World} (h : MS B lo M R p ps w) (o : Obj) (c : Nat) (hc : lo ≤ c) (hc2 : c < w.heap.size) (hpm : PM (setObj w R o) R (ps ++ [c])) : MS B lo M R p (ps ++ [c]) (setObj w R o) where
  blk := (setObj_heap _ _ _ _ h.ne).trans h.blk
  pan := hpm
  bM := h.bM
  bR := h.bR
  ne := h.ne
  lM := h.lM
  lR := h.lR
  lsz := by rw [setObj_size]; exact h.lsz
  pos := h.pos
  psn := fun q hq => by
    rw [setObj_size]
    rcases List.mem_append.1 hq with hq | hq
    · exact h.psn q hq
    · simp at hq; omega
  tab := h.tab.on ⟨rfl, rfl, rfl, by rw [setObj_size]; exact Nat.le_refl _, fun k hk => setObj_heap _ _ _ _ (by have := h.bR; omega)⟩
theorem MS.notin {B lo M R : Nat} {p : Int} {ps : List Nat} {w : World} (h : MS B lo M R p ps w) {c : Nat} (hc : w.heap.size ≤ c) : ps.contains c = false := by
  rw [Bool.eq_false_iff]
  intro hh
  have := (h.psn c (List.contains_iff_mem.1 hh)).2
  omega
end Go.Proofs.YtpodifbgfcclbaaGreatDoor
