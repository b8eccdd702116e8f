/- The maker's lists: what is gathered in a slice while trees are made. -/
import Derived.Test.YtpodifbgfcclbaaGreatDoorMk1
import Derived.Test.YtpodifbgfcclbaaGreatDoorVal1
import Derived.Deep.AppendLies
set_option linter.unusedVariables false
set_option linter.unusedSimpArgs false
namespace Go.Proofs.YtpodifbgfcclbaaGreatDoor
open Go.RowKit
attribute [local go_sem] Nat.lt_add_one_of_lt

mutual
/-- The blocks of the gotos of a tree, but for those in function literals. -/
def gts : Tr → List Nat
  | .mk a k _ _ b => if k = 11 then [a] else if k = 19 then [] else gtsB b
def gtsL : List Tr → List Nat
  | [] => []
  | t :: ts => gts t ++ gtsL ts
def gtsB : List (List Tr) → List Nat
  | [] => []
  | y :: ys => gtsL y ++ gtsB ys
end
mutual
/-- A tree of whatever blocks. -/
def lift : Fl → Tr
  | .mk k l d b => .mk 0 k l d (liftB b)
def liftL : List Fl → List Tr
  | [] => []
  | x :: xs => lift x :: liftL xs
def liftB : List (List Fl) → List (List Tr)
  | [] => []
  | y :: ys => liftL y :: liftB ys
end
mutual
theorem er_lift : ∀ x : Fl, er (lift x) = x
  | .mk k l d b => by rw [lift, er, erB_lift b]
theorem erL_lift : ∀ l : List Fl, erL (liftL l) = l
  | [] => by rw [liftL, erL]
  | x :: xs => by rw [liftL, erL, er_lift x, erL_lift xs]
theorem erB_lift : ∀ b : List (List Fl), erB (liftB b) = b
  | [] => by rw [liftB, erB]
  | y :: ys => by rw [liftB, erB, erL_lift y, erB_lift ys]
end
/-- New blocks, each once. -/
def Fresh (g : List Nat) (lo hi : Nat) : Prop := g.Nodup ∧ ∀ a ∈ g, lo ≤ a ∧ a < hi
theorem Fresh.nil (lo hi : Nat) : Fresh [] lo hi := ⟨List.nodup_nil, by simp⟩
theorem Fresh.mono {g : List Nat} {lo hi lo' hi' : Nat} (h : Fresh g lo hi) (h1 : lo' ≤ lo) (h2 : hi ≤ hi') : Fresh g lo' hi' := ⟨h.1, fun a ha => by have := h.2 a ha; omega⟩
theorem Fresh.append {g g' : List Nat} {lo mid hi : Nat} (h : Fresh g lo mid) (h' : Fresh g' mid hi) (h1 : lo ≤ mid) (h2 : mid ≤ hi) : Fresh (g ++ g') lo hi := by
  refine ⟨List.nodup_append.2 ⟨h.1, h'.1, fun a ha b hb e => ?_⟩, fun a ha => ?_⟩
  · have := h.2 a ha; have := h'.2 b hb; omega
  · rcases List.mem_append.1 ha with ha | ha
    · have := h.2 a ha; omega
    · have := h'.2 a ha; omega
theorem gtsL_append (x y : List Tr) : gtsL (x ++ y) = gtsL x ++ gtsL y := by
  induction x with
  | nil => simp [gtsL]
  | cons t ts ih => rw [List.cons_append, gtsL, gtsL, ih, List.append_assoc]
theorem erL_append (x y : List Tr) : erL (x ++ y) = erL x ++ erL y := by rw [erL_map, erL_map, erL_map, List.map_append]
theorem rkL_append (x y : List Fl) : rkL (x ++ y) = rkL x + rkL y := by
  induction x with
  | nil => simp [rkL]
  | cons t ts ih => rw [List.cons_append, rkL, rkL, ih]; omega

/-- The values that have been gathered, each the head of its own tree; none of the trees goes through the row in which they are gathered. -/
def GL (w : World) (base H : Nat) (ps : List Nat) (row : Option Nat) : List Value → List Tr → Prop
  | [], [] => True
  | v :: vs, t :: ts => (∃ s e, base ≤ s ∧ e ≤ H ∧ ST w s e ps v t ∧ ∀ g, row = some g → g < s ∨ e ≤ g) ∧ GL w base H ps row vs ts
  | _, _ => False
theorem GL.keep {w w' : World} {base H H' : Nat} {ps ps' : List Nat} {row : Option Nat} (hH : H ≤ H') (hh : ∀ k, base ≤ k → k < H → row ≠ some k → w'.heap[k]? = w.heap[k]?) (hp : ∀ c, c < H → ps'.contains c = ps.contains c) :
    ∀ {vs : List Value} {ts : List Tr}, GL w base H ps row vs ts → GL w' base H' ps' row vs ts
  | [], [], _ => trivial
  | v :: vs, t :: ts, h => by
    obtain ⟨⟨s, e, h1, h2, h3, h4⟩, h5⟩ := h
    refine ⟨⟨s, e, h1, by omega, h3.keep ⟨fun k k1 k2 => hh k (by omega) (by omega) (fun hr => ?_), fun c c1 c2 => hp c (by omega)⟩ (Nat.le_refl _), h4⟩, GL.keep hH hh hp h5⟩
    have := h4 k hr
    omega
  | [], _ :: _, h => h.elim
  | _ :: _, [], h => h.elim
theorem GL.row {w : World} {base H : Nat} {ps : List Nat} {row row' : Option Nat} (hr : ∀ g, row' = some g → row = some g ∨ H ≤ g) : ∀ {vs : List Value} {ts : List Tr}, GL w base H ps row vs ts → GL w base H ps row' vs ts
  | [], [], _ => trivial
  | v :: vs, t :: ts, h => by
    obtain ⟨⟨s, e, h1, h2, h3, h4⟩, h5⟩ := h
    refine ⟨⟨s, e, h1, h2, h3, fun g hg => ?_⟩, GL.row hr h5⟩
    rcases hr g hg with h | h
    · exact h4 g h
    · omega
  | [], _ :: _, h => h.elim
  | _ :: _, [], h => h.elim
theorem GL.snoc {w : World} {base H : Nat} {ps : List Nat} {row : Option Nat} {v : Value} {t : Tr} (hx : ∃ s e, base ≤ s ∧ e ≤ H ∧ ST w s e ps v t ∧ ∀ g, row = some g → g < s ∨ e ≤ g) :
    ∀ {vs : List Value} {ts : List Tr}, GL w base H ps row vs ts → GL w base H ps row (vs ++ [v]) (ts ++ [t])
  | [], [], _ => ⟨hx, trivial⟩
  | _ :: _, _ :: _, h => ⟨h.1, GL.snoc hx h.2⟩
  | [], _ :: _, h => h.elim
  | _ :: _, [], h => h.elim
theorem GL.length {w : World} {base H : Nat} {ps : List Nat} {row : Option Nat} : ∀ {vs : List Value} {ts : List Tr}, GL w base H ps row vs ts → vs.length = ts.length
  | [], [], _ => rfl
  | _ :: _, _ :: _, h => by simp [GL.length h.2]
  | [], _ :: _, h => h.elim
  | _ :: _, [], h => h.elim
/-- At the end: the list lies in the row. -/
theorem GL.toTL {w : World} {base g H H' : Nat} {ps : List Nat} {row : Option Nat} (hH : H' ≤ H) (hg : base ≤ g) (hg2 : g < H) : ∀ {vs : List Value} {ts : List Tr} {o : Nat}, GL w base H' ps row vs ts → (∀ i v, vs[i]? = some v → w.cell? ⟨g, o + i, none⟩ = some v) → TL w base H ps g o ts
  | [], [], _, _, _ => TL_nil
  | v :: vs, t :: ts, o, h, hc => by
    obtain ⟨⟨s, e, h1, h2, h3, h4⟩, h5⟩ := h
    refine TL_cons.2 ⟨hg, hg2, ⟨v, by simpa using hc 0 v rfl, ST.keepG (H := e) ⟨fun _ _ _ => rfl, fun _ _ _ => rfl⟩ h1 (by omega) h3⟩, GL.toTL hH hg hg2 h5 fun i u hu => ?_⟩
    have := hc (i + 1) u (by simpa using hu)
    rw [show o + 1 + i = o + (i + 1) from by omega]
    exact this
  | [], _ :: _, _, h, _ => h.elim
  | _ :: _, [], _, h, _ => h.elim

theorem MS.grown {B lo M R : Nat} {p : Int} {ps : List Nat} {w w' : World} {row : Option Nat} (h : MS B lo M R p ps w) (hg : w.grownBy w' row) (hr : ∀ g, row = some g → lo ≤ g ∧ ∃ cur T, T ≠ 214 ∧ w.heap[g]? = some (.cells cur T (0, 0))) : MS B lo M R p ps w' where
  blk := (hg.block M h.szM (fun e => by have := (hr M e.symm).1; have := h.lM; omega)).trans h.blk
  pan := h.pan.keep (hg.block R h.szR (fun e => by have := (hr R e.symm).1; have := h.lR; omega)) fun c hc => hg.block c (h.psn c hc).2 fun e => by
    obtain ⟨_, cur, T, hT, hcur⟩ := hr c e.symm
    obtain ⟨cs, hcs⟩ := h.pan.own c hc
    rw [hcur] at hcs
    injection hcs with hcs
    injection hcs with _ h2 _
    exact hT h2
  bM := h.bM
  bR := h.bR
  ne := h.ne
  lM := h.lM
  lR := h.lR
  lsz := Nat.le_trans h.lsz hg.size
  pos := h.pos
  psn := fun q hq => ⟨(h.psn q hq).1, by have := (h.psn q hq).2; have := hg.size; omega⟩
  tab := h.tab.on ⟨hg.os, hg.tape, hg.output, hg.size, fun k hk => hg.block k (by have := h.szB; omega) fun e => by have := (hr k e.symm).1; have := h.lM; have := h.bM; omega⟩
theorem MkTo.grown {B lo M R : Nat} {p : Int} {ps : List Nat} {w : World} {c : Nat} {p' : Int} {ps' : List Nat} {w1 w' : World} {row : Option Nat} (h : MkTo B lo M R p ps w c p' ps' w1) (hg : w1.grownBy w' row)
    (hr : ∀ g, row = some g → lo ≤ g ∧ w.heap.size ≤ g ∧ ∃ cur T, T ≠ 214 ∧ w1.heap[g]? = some (.cells cur T (0, 0))) : MkTo B lo M R p ps w c p' ps' w' :=
  ⟨h.ms.grown hg fun g e => ⟨(hr g e).1, (hr g e).2.2⟩, h.mf.trans ⟨hg.os, hg.tape, hg.output, hg.size, fun k hk _ _ => hg.block k (by have := h.size; omega) fun e => by have := (hr k e.symm).2.1; omega⟩, h.le, h.ub, h.new⟩
/-- The calls of panic that were there are the same ones. -/
theorem MkTo.pan {B lo M R : Nat} {p : Int} {ps : List Nat} {w : World} {c : Nat} {p' : Int} {ps' : List Nat} {w' : World} (h : MkTo B lo M R p ps w c p' ps' w') (q : Nat) (hq : q < w.heap.size) : ps'.contains q = ps.contains q := by
  obtain ⟨ns, e, hn⟩ := h.new
  rw [e, Bool.eq_iff_iff]
  simp only [List.contains_iff_mem, List.mem_append]
  constructor
  · rintro (h | h)
    · exact h
    · have := hn q h; omega
  · exact .inl
/-- A tree goes on lying there while the maker goes on. -/
theorem MkTo.st {B lo M R : Nat} {p : Int} {ps : List Nat} {w : World} {c : Nat} {p' : Int} {ps' : List Nat} {w' : World} (h : MkTo B lo M R p ps w c p' ps' w') {s e : Nat} (hs : lo ≤ s) (he : e ≤ w.heap.size) : Kept s e ps ps' w w' :=
  ⟨fun k h1 h2 => h.mf.block k (by omega) (by have := h.ms.lM; omega) (by have := h.ms.lR; omega), fun c h1 h2 => h.pan c (by omega)⟩
end Go.Proofs.YtpodifbgfcclbaaGreatDoor

/- The maker's list of statements, out of its statements. -/
set_option linter.unusedVariables false
set_option linter.unusedSimpArgs false
namespace Go.Proofs.YtpodifbgfcclbaaGreatDoor
open Go.RowKit
attribute [local go_sem] Nat.lt_add_one_of_lt

def RetSt (B lo M R : Nat) (p : Int) (ps : List Nat) (w : World) (x : Fl) (e : Ending) (w' : World) : Prop :=
  ∃ T a t p' ps', e = .returned (.iface T (.pointer (some ⟨a, 0, none⟩))) ∧ er t = x ∧ ST w' w.heap.size w'.heap.size ps' (.iface T (.pointer (some ⟨a, 0, none⟩))) t ∧ MkTo B lo M R p ps w (16 * rk x) p' ps' w' ∧ Fresh (gts t) w.heap.size w'.heap.size
def RetLs (B lo M R : Nat) (p : Int) (ps : List Nat) (w : World) (l : List Fl) (e : Ending) (w' : World) : Prop :=
  ∃ ts sa cap p' ps', e = .returned (.slice sa l.length cap) ∧ erL ts = l ∧ (∃ b, (ts ≠ [] → sa = some ⟨b, 0, none⟩) ∧ TL w' w.heap.size w'.heap.size ps' b 0 ts) ∧ (ts = [] → sa = none ∧ cap = 0) ∧ MkTo B lo M R p ps w (16 * rkL l) p' ps' w' ∧ Fresh (gtsL ts) w.heap.size w'.heap.size
def MkStC (x : Fl) : Prop := ∀ (thr : Bool) (B lo M R : Nat) (p : Int) (ps : List Nat) (w : World) (k l d : Int) (bd : List (List Fl)) (a : Option Addr) (cap : Nat), stF x thr = true → x = .mk k l d bd → SLL w B a cap bd → MS B lo M R p ps w → p + 16 * rk x < 4611686018427387904 →
    Calls Tryz.prog 47 #[.pointer (some ⟨M, 0, none⟩), .agg #[.int .i64 k, .int .i64 l, .int .i64 d, .slice a bd.length cap]] w (RetSt B lo M R p ps w x)
def MkLsC (l : List Fl) : Prop := ∀ (thr : Bool) (B lo M R : Nat) (p : Int) (ps : List Nat) (w : World) (a : Option Addr) (cap : Nat), fiL l thr = true → SL w B a cap l → MS B lo M R p ps w → p + 16 * rkL l < 4611686018427387904 →
    Calls Tryz.prog 39 #[.pointer (some ⟨M, 0, none⟩), .slice a l.length cap] w (RetLs B lo M R p ps w l)

theorem info79 : ∃ j, Tryz.prog.info? 79 = some j ∧ j.zero = some .nilIface ∧ j.size = 1 ∧ j.bytes = 16 := by
  have h : (Tryz.prog.info? 79).map (fun j => (j.zero, j.size, j.bytes)) = some (some .nilIface, 1, 16) := by kernel_rfl
  cases hj : Tryz.prog.info? 79 with
  | none => rw [hj] at h; cases h
  | some j => rw [hj] at h; simp at h; exact ⟨j, rfl, h.1, h.2.1, h.2.2⟩
theorem fiL_at : ∀ (l : List Fl) (t : Bool) (i : Nat) (x : Fl), fiL l t = true → l[i]? = some x → ∃ t', stF x t' = true
  | y :: ys, t, 0, x, h, hi => by
    simp at hi
    subst hi
    rw [fiL_cons, Bool.and_eq_true] at h
    exact ⟨_, h.1⟩
  | y :: ys, t, i + 1, x, h, hi => by
    rw [fiL_cons, Bool.and_eq_true] at h
    exact fiL_at ys t i x h.2 (by simpa using hi)
theorem rkL_take (l : List Fl) (k : Nat) (x : Fl) (h : l[k]? = some x) : rkL (l.take (k + 1)) = rkL (l.take k) + rk x := by
  obtain ⟨hk, rfl⟩ := List.getElem?_eq_some_iff.1 h
  rw [List.take_succ_eq_append_getElem hk, rkL_append]
  simp [rkL]
theorem rkL_take_le (l : List Fl) (k : Nat) : rkL (l.take k) ≤ rkL l := by
  have := rkL_append (l.take k) (l.drop k)
  rw [List.take_append_drop] at this
  omega
/-- What the loop of the maker's list knows. -/
structure LInv (B lo M R : Nat) (p : Int) (ps : List Nat) (w : World) (l : List Fl) (k : Nat) (vo : Value) (wr : World) : Prop where
  ex : ∃ xs ts p' ps', wr.ownsRow w.heap.size 79 1 vo k xs ∧ erL ts = l.take k ∧ GL wr w.heap.size wr.heap.size ps' vo.ownBlock xs ts ∧ MkTo B lo M R p ps w (16 * rkL (l.take k)) p' ps' wr ∧ Fresh (gtsL ts) w.heap.size wr.heap.size
  nil : k = 0 → vo = .slice none 0 0
theorem ownsRow_row {w : World} {base : Nat} {e n : Nat} {v : Value} {xs : List Value} (h : w.ownsRow base e 1 v n xs) {g : Nat} (hg : v.ownBlock = some g) : base ≤ g ∧ g < w.heap.size ∧ ∃ cur, w.heap[g]? = some (.cells cur e (0, 0)) := by
  rcases h.2 with ⟨rfl, _⟩ | ⟨g', cap, cur, rfl, h1, h2, _⟩
  · cases hg
  · cases hg
    refine ⟨h1, ?_, cur, h2⟩
    rcases Nat.lt_or_ge g' w.heap.size with hlt | hge
    · exact hlt
    · rw [Array.getElem?_eq_none hge] at h2; cases h2
theorem ownsRow_cell {w : World} {base : Nat} {e n : Nat} {v : Value} {xs : List Value} (h : w.ownsRow base e 1 v n xs) (hn : 0 < n) : ∃ g cap, v = .slice (some ⟨g, 0, none⟩) n cap ∧ base ≤ g ∧ g < w.heap.size ∧ ∀ i u, xs[i]? = some u → w.cell? ⟨g, 0 + i, none⟩ = some u := by
  rcases h.2 with ⟨_, h0⟩ | ⟨g, cap, cur, rfl, h1, h2, h3, h4, h5, h6⟩
  · omega
  · obtain ⟨_, hlt, _⟩ := ownsRow_row h (g := g) rfl
    refine ⟨g, cap, rfl, h1, hlt, fun i u hu => ?_⟩
    rw [cell_of_row w g (0 + i) cur e (0, 0) h2, Nat.zero_add]
    rw [← h6, List.getElem?_take] at hu
    split at hu
    · simpa using hu
    · cases hu
theorem ownsRow_keep {w w' : World} {base : Nat} {e n : Nat} {v : Value} {xs : List Value} (h : w.ownsRow base e 1 v n xs) (hk : ∀ g, v.ownBlock = some g → w'.heap[g]? = w.heap[g]?) : w'.ownsRow base e 1 v n xs := by
  refine ⟨h.1, ?_⟩
  rcases h.2 with h2 | ⟨g, cap, cur, hv, h1, h2, h3⟩
  · exact .inl h2
  · exact .inr ⟨g, cap, cur, hv, h1, (hk g (by rw [hv]; rfl)).trans h2, h3⟩
theorem LInv.start {B lo M R : Nat} {p : Int} {ps : List Nat} {w : World} {l : List Fl} (h : MS B lo M R p ps w) : LInv B lo M R p ps w l 0 (.slice none 0 0) w :=
  ⟨⟨[], [], p, ps, World.ownsRow_nil _ _ _ _, by rw [erL]; rfl, trivial, by simpa [rkL] using MkTo.refl h, Fresh.nil _ _⟩, fun _ => rfl⟩
theorem LInv.step {B lo M R : Nat} {p : Int} {ps : List Nat} {w wr w2 w3 : World} {l : List Fl} {k : Nat} {vo : Value} {xs : List Value} {ts : List Tr} {p1 p2 : Int} {ps1 ps2 : List Nat} {x : Fl} {T a g cap : Nat} {t : Tr} {o1 : Obj}
    (hlo : lo ≤ w.heap.size) (hx : l[k]? = some x)
    (h1 : wr.ownsRow w.heap.size 79 1 vo k xs) (h2 : erL ts = l.take k) (h3 : GL wr w.heap.size wr.heap.size ps1 vo.ownBlock xs ts) (h4 : MkTo B lo M R p ps w (16 * rkL (l.take k)) p1 ps1 wr) (h5 : Fresh (gtsL ts) w.heap.size wr.heap.size)
    (ht : er t = x) (hst : ST w2 (wr.alloc o1).heap.size w2.heap.size ps2 (.iface T (.pointer (some ⟨a, 0, none⟩))) t) (hm2 : MkTo B lo M R p1 ps1 (wr.alloc o1) (16 * rk x) p2 ps2 w2) (hf : Fresh (gts t) (wr.alloc o1).heap.size w2.heap.size)
    (hown : w3.ownsRow w.heap.size 79 1 (.slice (some ⟨g, 0, none⟩) (k + 1) cap) (k + 1) (xs ++ [.iface T (.pointer (some ⟨a, 0, none⟩))]))
    (hg : (w2.alloc (.cells #[.iface T (.pointer (some ⟨a, 0, none⟩))] 79)).grownBy w3 vo.ownBlock) (hat : vo.ownBlock = some g ∨ g = w2.heap.size + 1) :
    LInv B lo M R p ps w l (k + 1) (.slice (some ⟨g, 0, none⟩) (k + 1) cap) w3 := by
  have z1 : (wr.alloc o1).heap.size = wr.heap.size + 1 := by simp
  have z2 := hm2.size
  have z3 := hg.size
  have z0 := h4.size
  rw [World.size_alloc] at z3
  rw [z1] at hst z2 hf
  have hrow := fun g' (e : vo.ownBlock = some g') => ownsRow_row h1 e
  -- the old trees, first behind the statement's making, then behind the append
  have k2 : GL w2 w.heap.size w2.heap.size ps2 vo.ownBlock xs ts := h3.keep (by omega) (fun q q1 q2 q3 => by
      rw [hm2.mf.block q (by omega) (by have := hm2.ms.lM; omega) (by have := hm2.ms.lR; omega), Below.heap_alloc _ _ _ q2]) (fun c hc => by rw [hm2.pan c (by omega)])
  have k3 := GL.snoc (v := .iface T (.pointer (some ⟨a, 0, none⟩))) (t := t) ⟨wr.heap.size + 1, w2.heap.size, by omega, Nat.le_refl _, hst, fun g' e => .inl (by have := (hrow g' e).2.1; omega)⟩ k2
  have k4 : GL w3 w.heap.size w2.heap.size ps2 vo.ownBlock (xs ++ [.iface T (.pointer (some ⟨a, 0, none⟩))]) (ts ++ [t]) := k3.keep (Nat.le_refl _) (fun q q1 q2 q3 => by
      rw [hg.block q (by simp; omega) (fun e => q3 e.symm), Below.heap_alloc _ _ _ q2]) (fun c hc => rfl)
  have hmid : MkTo B lo M R p ps w (16 * rkL (l.take k) + 16 * rk x) p2 ps2 w2 := (h4.alloc o1).trans hm2
  have hrow2 : ∀ g', vo.ownBlock = some g' → lo ≤ g' ∧ w.heap.size ≤ g' ∧ ∃ cur T', T' ≠ 214 ∧ (w2.alloc (.cells #[.iface T (.pointer (some ⟨a, 0, none⟩))] 79)).heap[g']? = some (.cells cur T' (0, 0)) := by
    intro g' e
    obtain ⟨q1, q2, cur, q3⟩ := hrow g' e
    refine ⟨by omega, q1, cur, 79, by decide, ?_⟩
    rw [Below.heap_alloc _ _ _ (by omega), hm2.mf.block g' (by omega) (by have := hm2.ms.lM; omega) (by have := hm2.ms.lR; omega), Below.heap_alloc _ _ _ q2]
    exact q3
  have hend := (hmid.alloc (.cells #[.iface T (.pointer (some ⟨a, 0, none⟩))] 79)).grown hg hrow2
  refine ⟨⟨_, _, p2, ps2, hown, ?_, (k4.row ?_).keep (by omega) (fun _ _ _ _ => rfl) (fun _ _ => rfl), hend.more ?_, ?_⟩, fun h => by omega⟩
  · rw [erL_append, h2, erL_cons, erL_nil, ht]
    obtain ⟨hk, rfl⟩ := List.getElem?_eq_some_iff.1 hx
    rw [List.take_succ_eq_append_getElem hk]
  · intro g' e
    obtain rfl : g = g' := Option.some.inj e
    rcases hat with e | e
    · exact .inl e
    · right; omega
  · rw [rkL_take l k x hx]; omega
  · rw [gtsL_append, gtsL, gtsL, List.append_nil]
    exact (h5.append (hi := w2.heap.size) (hf.mono (by omega) (Nat.le_refl _)) (by omega) (by omega)).mono (Nat.le_refl _) (by omega)

set_option maxHeartbeats 1000000 in
theorem mkls_of (l : List Fl) (hst : ∀ x, x ∈ l → MkStC x) : MkLsC l := by
  have HST := Lib.hid hst
  clear hst
  intro thr B lo M R p ps w a cap hfi hs hms hp
  have HFI := Lib.hid hfi
  clear hfi
  obtain ⟨hcl, hc2, b, o, h3, h4⟩ := hs
  have hlen : l.length ≤ 2932031007403 := by omega
  obtain ⟨j, hj, hz0, hz1, hz2⟩ := info79
  have hB := hms.szB
  have hlo := hms.lsz
  go_enter Tryz.func39, Tryz.ntmps39
  go_wp2_with fail
  go_loopg [5, 10] l.length (fun g vo vi wr => ∃ k : Nat, k + g = l.length ∧ vi = .int .i64 k ∧ LInv B lo M R p ps w l k vo wr)
  case atStart => exact ⟨0, by omega, rfl, LInv.start hms⟩
  case round =>
    obtain ⟨k, hk, rfl, ⟨⟨xs, ts, p1, ps1, q1, q2, q3, q4, q5⟩, qn⟩⟩ := hrel
    have hsz := q4.size
    by_cases hlt : k < l.length
    · have hbw : Below B w wr := q4.mf.below hB hms.bM hms.bR
      obtain ⟨g1, kk, lb, d, bd, a', cap', g2, g3, g4, g5, g6, g7, g8⟩ := (EL.keep (H' := B) (fun q hq => hbw.block q hq) (Nat.le_refl _) h4).at k hlt
      obtain rfl := h3 (by rintro rfl; simp at hlt)
      have hmem : Fl.mk kk lb d bd ∈ l := List.mem_of_getElem? g3
      obtain ⟨thr', hfi⟩ := fiL_at l thr k _ HFI.out g3
      have HF := Lib.hid hfi
      have hrt := rkL_take l k _ g3
      have hle := rkL_take_le l (k + 1)
      have hub := q4.ub
      have hbr : b < wr.heap.size := by omega
      have hpk : p1 + 16 * rk (.mk kk lb d bd) < 4611686018427387904 := by omega
      have HP := Lib.hid hpk
      have HR := Lib.hid q4
      have HG3 := Lib.hid g3
      clear h3 g2 g3 hfi hrt hle hub hpk q4
      go_wp2_with fail
      refine (HST.out _ hmem thr' B lo M R p1 ps1 _ kk lb d bd a' cap' HF.out rfl (g8.keep (fun q hq => Below.heap_alloc _ _ _ (by omega)) (Nat.le_refl _)) (HR.out.ms.alloc _) HP.out).mono ?_
      rintro e w2 ⟨T, ta, t, p2, ps2, rfl, ht, hst, hm2, hf⟩
      have hown2 : w2.ownsRow w.heap.size 79 1 u5 k xs := ownsRow_keep q1 fun g e => by
        obtain ⟨r1, r2, _⟩ := ownsRow_row q1 e
        rw [hm2.mf.block g (by simp; omega) (by have := hm2.ms.lM; omega) (by have := hm2.ms.lR; omega), Below.heap_alloc _ _ _ r2]
      clear qn
      have HQ1 := Lib.hid q1
      have HQ2 := Lib.hid q2
      have HQ3 := Lib.hid q3
      have HQ5 := Lib.hid q5
      have HT := Lib.hid ht
      have HST2 := Lib.hid hst
      have HM2 := Lib.hid hm2
      have HF2 := Lib.hid hf
      clear q1 q2 q3 q5 ht hst hm2 hf hp hc2 hcl
      go_wp2_with (at_builtin; refine wpList_append_lies _ rfl _ _ 53 rfl w.heap.size 79 j .nilIface 1 16 Tryz.underlying53 hj hz0 hz1 hz2 rfl (by decide) u5 k xs (by rfl) (hown2.alloc _) ⟨w2.heap.size, 0, none⟩ 1 1 [.iface T (.pointer (some ⟨ta, 0, none⟩))] (by rfl) rfl ?c1 ?c2 (by omega) ?c3 ?c4 ?c5 (w2.heap.size + 1) (by simp) ?_)
      case c1 => exact World.news_of_block (heap_alloc_new w2 _)
      case c2 => intro u hu; simp at hu; subst hu; rfl
      case c3 => unfold maxLen; omega
      case c4 => omega
      case c5 => have := HM2.out.size; simp at this ⊢; omega
      intro g cap3 w3 hown3 hg3 hat3 hlt3
      have hL := LInv.step hlo HG3.out HQ1.out HQ2.out HQ3.out HR.out HQ5.out HT.out HST2.out HM2.out HF2.out hown3 hg3 hat3
      have HL := Lib.hid hL
      clear hL hown3 hg3 hat3 hlt3 hown2
      go_wp2_with fail
      go_roundg (gk - 1)
      case measure => omega
      case rel => exact ⟨k + 1, by omega, by go_num, HL.out⟩
    · obtain rfl : k = l.length := by omega
      have HN := Lib.hid qn
      clear qn
      have HQ := Lib.hid (And.intro q1 (And.intro q2 (And.intro q3 (And.intro q4 q5))))
      clear q1 q2 q3 q4 q5
      go_wp2_with fail
      go_ret
      obtain ⟨q1, q2, q3, q4, q5⟩ := HQ.out
      rw [List.take_length] at q2 q4
      have hxl := q1.1
      have hll := q3.length
      have hel := erL_length ts
      rw [q2] at hel
      by_cases h0 : l.length = 0
      · have hv := HN.out h0
        obtain rfl : ts = [] := List.length_eq_zero_iff.1 (by omega)
        exact ⟨[], none, 0, p1, ps1, by rw [h0]; exact ret_eq hv, q2, ⟨0, fun h => absurd rfl h, TL_nil⟩, fun _ => ⟨rfl, rfl⟩, q4, q5⟩
      · obtain ⟨g, cap5, hv, r1, r2, r3⟩ := ownsRow_cell q1 (by omega)
        exact ⟨ts, some ⟨g, 0, none⟩, cap5, p1, ps1, ret_eq hv, q2, ⟨g, fun _ => rfl, q3.toTL (Nat.le_refl _) r1 r2 r3⟩, fun h => absurd (by rw [hel, h]; rfl) h0, q4, q5⟩
end Go.Proofs.YtpodifbgfcclbaaGreatDoor
