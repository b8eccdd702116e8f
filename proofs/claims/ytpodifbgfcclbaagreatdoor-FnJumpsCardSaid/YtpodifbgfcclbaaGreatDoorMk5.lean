/- The maker's block statement. -/
import Derived.Test.YtpodifbgfcclbaaGreatDoorMk3
set_option linter.unusedVariables false
set_option linter.unusedSimpArgs false
namespace Go.Proofs.YtpodifbgfcclbaaGreatDoor
open Go.RowKit
attribute [local go_sem] Nat.lt_add_one_of_lt

def RetBd (B lo M R : Nat) (p : Int) (ps : List Nat) (w : World) (y : List Fl) (e : Ending) (w' : World) : Prop :=
  ∃ a1 ts sa cap b p' ps', e = .returned (.pointer (some ⟨a1, 0, none⟩)) ∧ w.heap.size ≤ a1 ∧ a1 < w'.heap.size ∧ erL ts = y ∧ w'.cell? ⟨a1, 1, none⟩ = some (.slice sa y.length cap) ∧
    (ts ≠ [] → sa = some ⟨b, 0, none⟩) ∧ (ts = [] → sa = none ∧ cap = 0) ∧ TL w' w.heap.size w'.heap.size ps' b 0 ts ∧ MkTo B lo M R p ps w (2 + 16 * rkL y) p' ps' w' ∧ Fresh (gtsL ts) w.heap.size w'.heap.size

theorem sc_same {w : World} {a : Addr} {u v : Value} (h : w.cell? a = some u) : (w.setCell a v).cell? a = some v := World.cell?_setCell_same w _ _ h
theorem sc_other {w : World} {b o b' o' : Nat} {v : Value} (h : b ≠ b' ∨ o ≠ o') : (w.setCell ⟨b, o, none⟩ v).cell? ⟨b', o', none⟩ = w.cell? ⟨b', o', none⟩ :=
  World.cell?_setCell_other w _ _ _ (by rcases h with h | h <;> simp [h])
theorem TL.setCell {w : World} {lo H b o : Nat} {ps : List Nat} {y : List Tr} {a : Addr} (v : Value) (h : TL w lo H ps b o y) (ha : a.block < lo ∨ H ≤ a.block) : TL (w.setCell a v) lo H ps b o y :=
  h.keep ⟨fun k h1 h2 => Below.heap_setCell _ _ _ _ (by omega), fun _ _ _ => rfl⟩ (Nat.le_refl _)
theorem TL.mk {B lo M R : Nat} {p : Int} {ps : List Nat} {w : World} {c : Nat} {p' : Int} {ps' : List Nat} {w' : World} (hm : MkTo B lo M R p ps w c p' ps' w') {s e b o : Nat} {y : List Tr} (h : TL w s e ps b o y) (hs : lo ≤ s) (he : e ≤ w.heap.size) : TL w' s e ps' b o y :=
  h.keep (hm.st hs he) (Nat.le_refl _)

set_option maxHeartbeats 1000000 in
theorem body_any (bd : List (List Fl)) (n : Nat) (thr : Bool) (hls : ∀ y, bd[n]? = some y → MkLsC y) (hfi : ∀ y, bd[n]? = some y → fiL y thr = true) (B lo M R : Nat) (p : Int) (ps : List Nat) (w : World) (k l d : Int) (a : Option Addr) (cap : Nat)
    (hs : SLL w B a cap bd) (hms : MS B lo M R p ps w) (hp : p + 16 * rkL (partB bd n) + 2 < 4611686018427387904) (hn : n < 2) :
    Calls Tryz.prog 37 #[.pointer (some ⟨M, 0, none⟩), .agg #[.int .i64 k, .int .i64 l, .int .i64 d, .slice a bd.length cap], .int .i64 n] w (RetBd B lo M R p ps w (partB bd n)) := by
  have HLS := Lib.hid hls
  have HFI := Lib.hid hfi
  clear hls hfi
  obtain ⟨hcl, hc2, b, o, h3, h4⟩ := hs
  have hB := hms.szB
  have hlo := hms.lsz
  have hlM := hms.lM
  have hlR := hms.lR
  by_cases hlt : n < bd.length
  · obtain ⟨g1, y, a', cap', g2, g3, g4, g5⟩ := h4.at n hlt
    obtain rfl := h3 (by rintro rfl; simp at hlt)
    have hpart : partB bd n = y := by simp [partB, List.getD, g3]
    rw [hpart] at hp ⊢
    have HL := Lib.hid (HLS.out y g3 thr)
    have HF := Lib.hid (HFI.out y g3)
    have hnz : (n : Int) < (bd.length : Int) := by omega
    have hbw : b < w.heap.size := by omega
    clear h3 g2 g3 hpart
    go_enter Tryz.func37, Tryz.ntmps37
    go_wp2_with fail
    refine (at_any B lo M R p ps _ (hms.alloc _) (by omega)).mono ?_
    rintro e w1 ⟨rfl, hm1, hz1⟩
    simp only [World.size_alloc] at hz1
    have hcn : ∀ o, w1.cell? ⟨w.heap.size, o, none⟩ = _ := fun o => hm1.mf.cell (k := w.heap.size) (o := o) (by simp) (by omega) (by omega)
    have hcb : ∀ o, w1.cell? ⟨b, o, none⟩ = w.cell? ⟨b, o, none⟩ := fun o => by rw [hm1.mf.cell (k := b) (o := o) (by simp; omega) (by have := hms.bM; omega) (by have := hms.bR; omega)]; exact World.cell?_alloc_past _ _ _ hbw
    have hbw1 : b < w1.heap.size := by omega
    go_wp2_with fail
    have hms2 := hm1.ms.alloc (.cells #[.int .i64 (p + 1), .slice none 0 0, .int .i64 0] 76)
    have hb2 : Below B w (w1.alloc (.cells #[.int .i64 (p + 1), .slice none 0 0, .int .i64 0] 76)) :=
      (((Below.refl _ _).alloc hB _).trans (hm1.mf.below (by simp; omega) hms.bM hms.bR)).alloc (by omega) _
    refine (HL.out B lo M R (p + 1) ps _ a' cap' HF.out (g5.below hb2 (Nat.le_refl _)) hms2 (by omega)).mono ?_
    rintro e w2 ⟨ts, sa, cap2, p2, ps2, rfl, ht, ⟨b2, r1, r2⟩, r3, hm2, hf⟩
    have hc2 : ∀ o, w2.cell? ⟨w.heap.size + 1, o, none⟩ = _ := fun o => hm2.mf.cell (k := w.heap.size + 1) (o := o) (by simp; omega) (by omega) (by omega)
    have hf2 : ∀ o, w2.frozen? ⟨w.heap.size + 1, o, none⟩ = _ := fun o => hm2.mf.frozen (k := w.heap.size + 1) (o := o) (by simp; omega) (by omega) (by omega)
    have HM2 := Lib.hid hm2
    have HM1 := Lib.hid hm1
    have HT := Lib.hid ht
    have HR2 := Lib.hid r2
    have HR1 := Lib.hid r1
    have HR3 := Lib.hid r3
    have HF2 := Lib.hid hf
    have hub := hm2.ub
    have hsz2 := hm2.size
    simp only [World.size_alloc] at hsz2
    clear hm2 hm1 ht r2 r1 r3 hf hcn hcb hms2 hb2 hc2
    have hc2 : ∀ o, w2.cell? ⟨w.heap.size + 1, o, none⟩ = _ := fun o => HM2.out.mf.cell (k := w.heap.size + 1) (o := o) (by simp; omega) (by omega) (by omega)
    go_wp2_with fail
    have hm3 : MkTo B lo M R p ps w (1 + 16 * rkL y) p2 ps2 (w2.setCell ⟨w.heap.size + 1, 1, none⟩ (.slice sa y.length cap2)) :=
      ((((MkTo.refl hms).alloc _).trans HM1.out).trans (c := 1) ((MkTo.refl HM1.out.ms).alloc _ |>.trans HM2.out)).more (by omega) |>.setCell (by simp) (by simp; omega) _
    refine (at_any B lo M R p2 ps2 _ hm3.ms (by omega)).mono ?_
    rintro e w3 ⟨rfl, hm4, hz4⟩
    simp only [World.size_setCell] at hz4
    have hc2b : w2.cell? ⟨w.heap.size + 1, 1, none⟩ = some (.slice none 0 0) := by rw [hc2]; rw [← hz1]; simp
    have hc4 : w3.cell? ⟨w.heap.size + 1, 1, none⟩ = some (.slice sa y.length cap2) := by
      rw [hm4.mf.cell (k := w.heap.size + 1) (o := 1) (by simp; omega) (by omega) (by omega)]
      exact sc_same hc2b
    have hc5 : w3.cell? ⟨w.heap.size + 1, 2, none⟩ = some (.int .i64 0) := by
      rw [hm4.mf.cell (k := w.heap.size + 1) (o := 2) (by simp; omega) (by omega) (by omega), sc_other (.inr (by omega)), hc2]; rw [← hz1]; simp
    have hf5 : ∀ o, w3.frozen? ⟨w.heap.size + 1, o, none⟩ = false := fun o => by
      rw [hm4.mf.frozen (k := w.heap.size + 1) (o := o) (by simp; omega) (by omega) (by omega), World.frozen?_setCell, hf2]; rw [← hz1]; simp
    have hm5 := (hm3.trans hm4).setCell (a := ⟨w.heap.size + 1, 2, none⟩) (by simp) (by simp; omega) (.int .i64 (p2 + 1))
    have HM4 := Lib.hid hm4
    have HM5 := Lib.hid hm5
    clear hm4 hm3 hm5 hc2 hf2 hc2b
    go_wp2_with fail
    go_ret
    have t2 := HR2.out
    have f2 := HF2.out
    have r3 := HR3.out
    have r1 := HR1.out
    rw [World.size_alloc] at t2 f2
    have hsz5 := HM4.out.size
    simp only [World.size_setCell] at hsz5
    have t3 : TL (w2.setCell ⟨w.heap.size + 1, 1, none⟩ (.slice sa y.length cap2)) (w1.heap.size + 1) w2.heap.size ps2 b2 0 ts := t2.setCell _ (.inl (by simp; omega))
    have t4 := (TL.mk HM4.out t3 (by omega) (by simp)).setCell (a := ⟨w.heap.size + 1, 2, none⟩) (.int .i64 (p2 + 1)) (.inl (by simp; omega))
    refine ⟨w.heap.size + 1, ts, sa, cap2, b2, p2 + 1, ps2, rfl, by omega, by simp; omega, HT.out, ?_, r1, r3, ?_, HM5.out.more (by omega), f2.mono (by omega) (by simp; omega)⟩
    · rw [sc_other (.inr (by omega))]; exact hc4
    · exact TL.keepG ⟨fun _ _ _ => rfl, fun _ _ _ => rfl⟩ (by omega) (by simp; omega) t4
  · have hpart : partB bd n = [] := by simp [partB, List.getD, List.getElem?_eq_none (by omega : bd.length ≤ n)]
    rw [hpart] at hp ⊢
    have hnz : ¬ (n : Int) < (bd.length : Int) := by omega
    simp only [rkL] at hp
    clear h3 hpart
    go_enter Tryz.func37, Tryz.ntmps37
    go_wp2_with fail
    refine (at_any B lo M R p ps _ (hms.alloc _) (by omega)).mono ?_
    rintro e w1 ⟨rfl, hm1, hz1⟩
    simp only [World.size_alloc] at hz1
    have hcn : ∀ o, w1.cell? ⟨w.heap.size, o, none⟩ = _ := fun o => hm1.mf.cell (k := w.heap.size) (o := o) (by simp) (by omega) (by omega)
    go_wp2_with fail
    have hms2 := hm1.ms.alloc (.cells #[.int .i64 (p + 1), .slice none 0 0, .int .i64 0] 76)
    refine (at_any B lo M R (p + 1) ps _ hms2 (by omega)).mono ?_
    rintro e w3 ⟨rfl, hm4, hz4⟩
    simp only [World.size_alloc] at hz4
    have hc4 : w3.cell? ⟨w.heap.size + 1, 1, none⟩ = some (.slice none 0 0) := by
      rw [hm4.mf.cell (k := w.heap.size + 1) (o := 1) (by simp; omega) (by omega) (by omega), ← hz1]; simp
    have hc5 : w3.cell? ⟨w.heap.size + 1, 2, none⟩ = some (.int .i64 0) := by
      rw [hm4.mf.cell (k := w.heap.size + 1) (o := 2) (by simp; omega) (by omega) (by omega), ← hz1]; simp
    have hf5 : ∀ o, w3.frozen? ⟨w.heap.size + 1, o, none⟩ = false := fun o => by
      rw [hm4.mf.frozen (k := w.heap.size + 1) (o := o) (by simp; omega) (by omega) (by omega), ← hz1]; simp
    have hm5 := ((((MkTo.refl hms).alloc _).trans hm1).trans (c := 1) ((MkTo.refl hm1.ms).alloc _ |>.trans hm4)).setCell (a := ⟨w.heap.size + 1, 2, none⟩) (by simp) (by simp; omega) (.int .i64 (p + 1 + 1))
    have HM5 := Lib.hid hm5
    clear hm4 hm5 hcn hms2 hm1
    go_wp2_with fail
    go_ret
    refine ⟨w.heap.size + 1, [], none, 0, 0, p + 1 + 1, ps, rfl, by omega, by simp; omega, erL_nil, ?_, fun h => absurd rfl h, fun _ => ⟨rfl, rfl⟩, TL_nil, HM5.out.more (by omega), Fresh.nil _ _⟩
    rw [sc_other (.inr (by omega))]; exact hc4
end Go.Proofs.YtpodifbgfcclbaaGreatDoor

/- The maker's clauses: what the loop over them knows. -/
set_option linter.unusedVariables false
set_option linter.unusedSimpArgs false
namespace Go.Proofs.YtpodifbgfcclbaaGreatDoor
open Go.RowKit
attribute [local go_sem] Nat.lt_add_one_of_lt

/-- The value v is clause i, with the list y. -/
def CIt (w : World) (s e : Nat) (ps : List Nat) (sel : Bool) (i : Nat) (d : Int) (v : Value) (y : List Tr) : Prop :=
  ∃ c, v = .iface (if sel then 195 else 192) (.pointer (some ⟨c, 0, none⟩)) ∧ s ≤ c ∧ c < e ∧ (sel = false → if (i : Int) = d then w.cell? ⟨c, 1, none⟩ = some (.slice none 0 0) else ∃ x, w.cell? ⟨c, 1, none⟩ = some (.slice (some x) 1 1)) ∧
    ∃ sa cap, w.cell? ⟨c, 3, none⟩ = some (.slice sa y.length cap) ∧ y.length ≤ 8796093022208 ∧ ∃ b o, (y ≠ [] → sa = some ⟨b, o, none⟩) ∧ TL w s e ps b o y
theorem CIt.keepG {w w' : World} {s e s' e' : Nat} {ps ps' : List Nat} {sel : Bool} {i : Nat} {d : Int} {v : Value} {y : List Tr} (hk : Kept s e ps ps' w w') (h1 : s' ≤ s) (h2 : e ≤ e') (h : CIt w s e ps sel i d v y) : CIt w' s' e' ps' sel i d v y := by
  obtain ⟨c, g1, g2, g3, g4, sa, cap, g5, g6, b, o, g7, g8⟩ := h
  refine ⟨c, g1, by omega, by omega, fun hs => ?_, sa, cap, hk.cell g2 g3 g5, g6, b, o, g7, TL.keepG hk h1 h2 g8⟩
  have g4 := g4 hs
  split
  · rename_i hd; rw [if_pos hd] at g4; exact hk.cell g2 g3 g4
  · rename_i hd; rw [if_neg hd] at g4; obtain ⟨x, g4⟩ := g4; exact ⟨x, hk.cell g2 g3 g4⟩
/-- The clauses that have been gathered. -/
def GC (w : World) (base H : Nat) (ps : List Nat) (sel : Bool) (d : Int) (row : Option Nat) : Nat → List Value → List (List Tr) → Prop
  | _, [], [] => True
  | i, v :: vs, y :: ys => (∃ s e, base ≤ s ∧ e ≤ H ∧ CIt w s e ps sel i d v y ∧ ∀ g, row = some g → g < s ∨ e ≤ g) ∧ GC w base H ps sel d row (i + 1) vs ys
  | _, _, _ => False
theorem GC.keep {w w' : World} {base H H' : Nat} {ps ps' : List Nat} {sel : Bool} {d : Int} {row : Option Nat} (hH : H ≤ H') (hh : ∀ k, base ≤ k → k < H → row ≠ some k → w'.heap[k]? = w.heap[k]?) (hp : ∀ c, c < H → ps'.contains c = ps.contains c) :
    ∀ {i : Nat} {vs : List Value} {ts : List (List Tr)}, GC w base H ps sel d row i vs ts → GC w' base H' ps' sel d row i vs ts
  | _, [], [], _ => trivial
  | i, v :: vs, t :: ts, h => by
    obtain ⟨⟨s, e, h1, h2, h3, h4⟩, h5⟩ := h
    refine ⟨⟨s, e, h1, by omega, h3.keepG ⟨fun k k1 k2 => hh k (by omega) (by omega) (fun hr => ?_), fun c c1 c2 => hp c (by omega)⟩ (Nat.le_refl _) (Nat.le_refl _), h4⟩, GC.keep hH hh hp h5⟩
    have := h4 k hr
    omega
  | _, [], _ :: _, h => h.elim
  | _, _ :: _, [], h => h.elim
theorem GC.row {w : World} {base H : Nat} {ps : List Nat} {sel : Bool} {d : Int} {row row' : Option Nat} (hr : ∀ g, row' = some g → row = some g ∨ H ≤ g) : ∀ {i : Nat} {vs : List Value} {ts : List (List Tr)}, GC w base H ps sel d row i vs ts → GC w base H ps sel d row' i vs ts
  | _, [], [], _ => trivial
  | i, v :: vs, t :: ts, h => by
    obtain ⟨⟨s, e, h1, h2, h3, h4⟩, h5⟩ := h
    refine ⟨⟨s, e, h1, h2, h3, fun g hg => ?_⟩, GC.row hr h5⟩
    rcases hr g hg with h | h
    · exact h4 g h
    · omega
  | _, [], _ :: _, h => h.elim
  | _, _ :: _, [], h => h.elim
theorem GC.snoc {w : World} {base H : Nat} {ps : List Nat} {sel : Bool} {d : Int} {row : Option Nat} {v : Value} {y : List Tr} :
    ∀ {i : Nat} {vs : List Value} {ts : List (List Tr)}, (∃ s e, base ≤ s ∧ e ≤ H ∧ CIt w s e ps sel (i + vs.length) d v y ∧ ∀ g, row = some g → g < s ∨ e ≤ g) → GC w base H ps sel d row i vs ts → GC w base H ps sel d row i (vs ++ [v]) (ts ++ [y])
  | i, [], [], hx, _ => ⟨hx, trivial⟩
  | i, _ :: vs, _ :: _, hx, h => ⟨h.1, GC.snoc (by rw [List.length_cons] at hx; rw [show i + 1 + vs.length = i + (vs.length + 1) from by omega]; exact hx) h.2⟩
  | _, [], _ :: _, _, h => h.elim
  | _, _ :: _, [], _, h => h.elim
theorem GC.length {w : World} {base H : Nat} {ps : List Nat} {sel : Bool} {d : Int} {row : Option Nat} : ∀ {i : Nat} {vs : List Value} {ts : List (List Tr)}, GC w base H ps sel d row i vs ts → vs.length = ts.length
  | _, [], [], _ => rfl
  | _, _ :: _, _ :: _, h => by simp [GC.length h.2]
  | _, [], _ :: _, h => h.elim
  | _, _ :: _, [], h => h.elim
theorem CL_cons {w : World} {lo H : Nat} {ps : List Nat} {sel : Bool} {b o i : Nat} {d : Int} {y : List Tr} {ys : List (List Tr)} (h1 : lo ≤ b) (h2 : b < H) (v : Value) (hv : w.cell? ⟨b, o, none⟩ = some v) (h : CIt w lo H ps sel i d v y) (ht : CL w lo H ps sel b (o + 1) (i + 1) d ys) : CL w lo H ps sel b o i d (y :: ys) := by
  obtain ⟨c, rfl, g2, g3, g4, g5⟩ := h
  rw [CL]
  exact ⟨h1, h2, ⟨c, g2, g3, hv, g4, g5⟩, ht⟩
theorem GC.toCL {w : World} {base g H H' lo : Nat} {ps : List Nat} {sel : Bool} {d : Int} {row : Option Nat} (hlo : lo ≤ base) (hH : H' ≤ H) (hg : lo ≤ g) (hg2 : g < H) : ∀ {i : Nat} {vs : List Value} {ts : List (List Tr)} {o : Nat}, GC w base H' ps sel d row i vs ts → (∀ j v, vs[j]? = some v → w.cell? ⟨g, o + j, none⟩ = some v) → CL w lo H ps sel g o i d ts
  | _, [], [], _, _, _ => by rw [CL]; trivial
  | i, v :: vs, t :: ts, o, h, hc => by
    obtain ⟨⟨s, e, h1, h2, h3, h4⟩, h5⟩ := h
    refine CL_cons hg hg2 v (by simpa using hc 0 v rfl) (h3.keepG ⟨fun _ _ _ => rfl, fun _ _ _ => rfl⟩ (by omega) (by omega)) (GC.toCL hlo hH hg hg2 h5 fun j u hu => ?_)
    have := hc (j + 1) u (by simpa using hu)
    rw [show o + 1 + j = o + (j + 1) from by omega]
    exact this
  | _, [], _ :: _, _, h, _ => h.elim
  | _, _ :: _, [], _, h, _ => h.elim

/-- A block known whole: its cells, its marks. -/
theorem blk_cell {w : World} {b T : Nat} {cs : Array Value} (h : w.heap[b]? = some (.cells cs T (0, 0))) (o : Nat) : w.cell? ⟨b, o, none⟩ = cs[o]? := by simp [World.cell?, h]
theorem blk_frz {w : World} {b T : Nat} {cs : Array Value} (h : w.heap[b]? = some (.cells cs T (0, 0))) (o : Nat) : w.frozen? ⟨b, o, none⟩ = false := by simp [World.frozen?, h]
theorem blk_set {w : World} {b T o : Nat} {cs : Array Value} (h : w.heap[b]? = some (.cells cs T (0, 0))) (v : Value) : (w.setCell ⟨b, o, none⟩ v).heap[b]? = some (.cells (cs.setIfInBounds o v) T (0, 0)) := by
  simp [World.setCell, Array.getElem?_modify, h]
theorem blk_new (w : World) (cs : Array Value) (T : Nat) : (w.alloc (.cells cs T)).heap[w.heap.size]? = some (.cells cs T (0, 0)) := heap_alloc_new w _
theorem blk_far {w : World} {b : Nat} {a : Addr} (v : Value) (h : b ≠ a.block) : (w.setCell a v).heap[b]? = w.heap[b]? := Below.heap_setCell _ _ _ _ h

/-- What the loop over the clauses knows: a1: the block statement; its list is vo. -/
structure CInv (B lo M R : Nat) (p : Int) (ps : List Nat) (Wb : World) (a1 : Nat) (q0 : Int) (bd : List (List Fl)) (d : Int) (sel : Bool) (c0 k : Nat) (vo : Value) (wr : World) : Prop where
  ex : ∃ xs ys p' ps', wr.ownsRow (a1 + 1) 79 1 vo k xs ∧ erB ys = bd.take k ∧ GC wr (a1 + 1) wr.heap.size ps' sel d vo.ownBlock 0 xs ys ∧ MS B lo M R p' ps' wr ∧ MF a1 M R Wb wr ∧ p ≤ p' ∧ p' ≤ p + (c0 + 16 * rkB (bd.take k) : Nat) ∧
    (∃ ns, ps' = ps ++ ns ∧ ∀ q ∈ ns, a1 ≤ q) ∧ Fresh (gtsB ys) (a1 + 1) wr.heap.size
  blk : wr.heap[a1]? = some (.cells #[.int .i64 q0, vo, .int .i64 0] 76 (0, 0))
  nil : k = 0 → vo = .slice none 0 0
theorem erB_append (x y : List (List Tr)) : erB (x ++ y) = erB x ++ erB y := by rw [erB_map, erB_map, erB_map, List.map_append]
theorem gtsB_append (x y : List (List Tr)) : gtsB (x ++ y) = gtsB x ++ gtsB y := by
  induction x with
  | nil => simp [gtsB]
  | cons t ts ih => rw [List.cons_append, gtsB, gtsB, ih, List.append_assoc]
theorem rkB_append (x y : List (List Fl)) : rkB (x ++ y) = rkB x + rkB y := by
  induction x with
  | nil => simp [rkB]
  | cons t ts ih => rw [List.cons_append, rkB, rkB, ih]; omega
theorem rkB_take (l : List (List Fl)) (k : Nat) (x : List Fl) (h : l[k]? = some x) : rkB (l.take (k + 1)) = rkB (l.take k) + (rkL x + 1) := by
  obtain ⟨hk, rfl⟩ := List.getElem?_eq_some_iff.1 h
  rw [List.take_succ_eq_append_getElem hk, rkB_append]
  simp [rkB]
theorem rkB_take_le (l : List (List Fl)) (k : Nat) : rkB (l.take k) ≤ rkB l := by
  have := rkB_append (l.take k) (l.drop k)
  rw [List.take_append_drop] at this
  omega
/-- One clause more: wr: the round's head; w6: the clause is made, of the blocks from wr.heap.size on; w7: behind the append; then the slice is stored. -/
theorem CInv.step {B lo M R : Nat} {p : Int} {ps : List Nat} {Wb wr w6 w7 : World} {a1 : Nat} {q0 : Int} {bd : List (List Fl)} {d : Int} {sel : Bool} {c0 k : Nat} {vo v : Value} {g cap : Nat} {y : List Fl} {ts : List Tr} {p6 : Int} {ps6 : List Nat} {xs : List Value} {ys : List (List Tr)} {p' : Int} {ps' : List Nat} {cc : Nat}
    (hlo : lo ≤ a1) (hy : bd[k]? = some y) (hcc : cc ≤ 16 + 16 * rkL y) (ha1 : a1 < wr.heap.size)
    (h1 : wr.ownsRow (a1 + 1) 79 1 vo k xs) (h2 : erB ys = bd.take k) (h3 : GC wr (a1 + 1) wr.heap.size ps' sel d vo.ownBlock 0 xs ys) (h5 : MF a1 M R Wb wr) (h6 : p ≤ p') (h7 : p' ≤ p + (c0 + 16 * rkB (bd.take k) : Nat))
    (h8 : ∃ ns, ps' = ps ++ ns ∧ ∀ q ∈ ns, a1 ≤ q) (h9 : Fresh (gtsB ys) (a1 + 1) wr.heap.size) (hblk : wr.heap[a1]? = some (.cells #[.int .i64 q0, vo, .int .i64 0] 76 (0, 0)))
    (hm6 : MkTo B lo M R p' ps' wr cc p6 ps6 w6) (ht : erL ts = y) (hci : CIt w6 wr.heap.size w6.heap.size ps6 sel k d v ts) (hf : Fresh (gtsL ts) wr.heap.size w6.heap.size)
    (hown : w7.ownsRow (a1 + 1) 79 1 (.slice (some ⟨g, 0, none⟩) (k + 1) cap) (k + 1) (xs ++ [v])) (hg : (w6.alloc (.cells #[v] 79)).grownBy w7 vo.ownBlock) (hat : vo.ownBlock = some g ∨ g = w6.heap.size + 1) :
    CInv B lo M R p ps Wb a1 q0 bd d sel c0 (k + 1) (.slice (some ⟨g, 0, none⟩) (k + 1) cap) (w7.setCell ⟨a1, 1, none⟩ (.slice (some ⟨g, 0, none⟩) (k + 1) cap)) := by
  have z2 := hm6.size
  have z3 := hg.size
  rw [World.size_alloc] at z3
  have hlM := hm6.ms.lM
  have hlR := hm6.ms.lR
  have hrow := fun g' (e : vo.ownBlock = some g') => ownsRow_row h1 e
  have hxl : xs.length = k := by have := h1.1; omega
  have k2 : GC w6 (a1 + 1) w6.heap.size ps6 sel d vo.ownBlock 0 xs ys := h3.keep z2 (fun q q1 q2 q3 => hm6.mf.block q q2 (by omega) (by omega)) (fun c hc => hm6.pan c hc)
  have k3 := GC.snoc (v := v) (y := ts) ⟨wr.heap.size, w6.heap.size, by omega, Nat.le_refl _, by rw [hxl, Nat.zero_add]; exact hci, fun g' e => .inl (by have := (hrow g' e).2.1; omega)⟩ k2
  have k4 : GC w7 (a1 + 1) w6.heap.size ps6 sel d vo.ownBlock 0 (xs ++ [v]) (ys ++ [ts]) := k3.keep (Nat.le_refl _) (fun q q1 q2 q3 => by
    rw [hg.block q (by simp; omega) (fun e => q3 e.symm), Below.heap_alloc _ _ _ q2]) (fun c hc => rfl)
  have k5 : GC w7 (a1 + 1) w6.heap.size ps6 sel d (some g) 0 (xs ++ [v]) (ys ++ [ts]) := k4.row fun g' e => by
    obtain rfl : g = g' := Option.some.inj e
    rcases hat with e | e
    · exact .inl e
    · right; omega
  have hg1 := (ownsRow_row hown (g := g) rfl)
  have k6 : GC (w7.setCell ⟨a1, 1, none⟩ (.slice (some ⟨g, 0, none⟩) (k + 1) cap)) (a1 + 1) (w7.setCell ⟨a1, 1, none⟩ (.slice (some ⟨g, 0, none⟩) (k + 1) cap)).heap.size ps6 sel d (some g) 0 (xs ++ [v]) (ys ++ [ts]) :=
    k5.keep (by simp; omega) (fun q q1 q2 q3 => blk_far _ (by simp; omega)) (fun c hc => rfl)
  have hrow2 : ∀ g', vo.ownBlock = some g' → lo ≤ g' ∧ ∃ cur T', T' ≠ 214 ∧ (w6.alloc (.cells #[v] 79)).heap[g']? = some (.cells cur T' (0, 0)) := by
    intro g' e
    obtain ⟨q1, q2, cur, q3⟩ := hrow g' e
    refine ⟨by omega, cur, 79, by decide, ?_⟩
    rw [Below.heap_alloc _ _ _ (by omega), hm6.mf.block g' (by omega) (by omega) (by omega)]
    exact q3
  have hms7 : MS B lo M R p6 ps6 w7 := (hm6.ms.alloc _).grown hg hrow2
  have hblk7 : w7.heap[a1]? = some (.cells #[.int .i64 q0, vo, .int .i64 0] 76 (0, 0)) := by
    rw [hg.block a1 (by simp; omega) (fun e => by have := (hrow a1 e.symm).1; omega), Below.heap_alloc _ _ _ (by omega), hm6.mf.block a1 ha1 (by omega) (by omega)]
    exact hblk
  refine ⟨⟨xs ++ [v], ys ++ [ts], p6, ps6, ownsRow_keep hown fun g' e => blk_far _ ?_, ?_, k6, hms7.setCell (by simpa using hlo) _, ?_, ?_, ?_, ?_, ?_⟩, ?_, fun h => by omega⟩
  · obtain rfl : g = g' := Option.some.inj e
    simp; omega
  · rw [erB_append, h2, erB_cons, erB_nil, ht]
    obtain ⟨hk, rfl⟩ := List.getElem?_eq_some_iff.1 hy
    rw [List.take_succ_eq_append_getElem hk]
  · refine MF.setCell ?_ (by simp) _
    refine h5.trans ((hm6.mf.mono (by omega)).trans (.of_below ⟨hg.os, hg.tape, hg.output, by omega, fun q hq => ?_⟩))
    rw [hg.block q (by simp; omega) (fun e => by have := (hrow q e.symm).1; omega), Below.heap_alloc _ _ _ (by omega)]
  · have := hm6.le; omega
  · rw [rkB_take bd k y hy]
    have := hm6.ub
    omega
  · obtain ⟨n1, e1, g1⟩ := h8
    obtain ⟨n2, e2, g2⟩ := hm6.new
    refine ⟨n1 ++ n2, by rw [e2, e1, List.append_assoc], fun q hq => ?_⟩
    rcases List.mem_append.1 hq with hq | hq
    · exact g1 q hq
    · have := g2 q hq; omega
  · rw [gtsB_append, gtsB, gtsB, List.append_nil]
    exact (h9.append (hi := w6.heap.size) (hf.mono (Nat.le_refl _) (Nat.le_refl _)) (by omega) (by omega)).mono (Nat.le_refl _) (by simp; omega)
  · exact blk_set hblk7 _
end Go.Proofs.YtpodifbgfcclbaaGreatDoor
