/- stmtBranches: break and continue with a target. -/
import Derived.Test.YtpodifbgfcclbaaGreatDoorJm14
set_option linter.unusedVariables false
set_option linter.unusedSimpArgs false
namespace Go.Proofs.YtpodifbgfcclbaaGreatDoor
open Go.RowKit
attribute [local go_sem] Nat.lt_add_one_of_lt

set_option maxRecDepth 100000 in
set_option maxHeartbeats 4000000 in
theorem st_break_bad (lo H0 C A M0 n : Nat) (up : List BE) (lst cur : CUR) (gd : GD) (rep : Nat) (labs : List Int) (fs : List (Nat × Int)) (bs : List Nat) (a i : Nat) (l q : Int) (c : Value) (nodes : List Nat) (w : World) (h : LSt lo H0 C A M0 n up lst gd rep labs fs bs w) (g1 : lo ≤ a) (g2 : a < H0) (j1 : lo ≤ i) (j2 : i < H0) (k1 : -1 ≤ l) (k2 : l ≤ 9) (h1 : w.cell? ⟨a, 1, none⟩ = some (.int .i64 61)) (i3 : w.cell? ⟨a, 2, none⟩ = some (.pointer (some ⟨i, 0, none⟩))) (i4 : w.cell? ⟨i, 0, none⟩ = some (.int .i64 q)) (i5 : w.cell? ⟨i, 1, none⟩ = some (.string (nm l))) (hcap : rep ≤ 100000) (x : Nat × Int × Int) (henc : encB (⟨n + 2, labs, lst⟩ :: up) l = some x) (T : Nat) (hT : tagK x.2.2 = T) (t137 : T ≠ 137) (t141 : T ≠ 141) (t147 : T ≠ 147) (t130 : T ≠ 130) (t133 : T ≠ 133) (hok : breakK x.2.2 = false) :
    Calls Tryz.prog 76 #[c, .iface 95 (.pointer (some ⟨a, 0, none⟩)), .pointer (some ⟨n + 7, 0, none⟩), .pointer (some ⟨n, 0, none⟩), .pointer (some ⟨n + 1, 0, none⟩), .pointer (some ⟨n + 3, 0, none⟩), .pointer (some ⟨n + 5, 0, none⟩), .pointer (some ⟨n + 8, 0, none⟩), .pointer (some ⟨n + 4, 0, none⟩), .pointer (some ⟨n + 10, 0, none⟩), .pointer (some ⟨n + 9, 0, none⟩)] w (StmR lo H0 C A M0 n up lst gd rep labs fs bs (leaveL breakK (tgB (⟨n + 2, labs, lst⟩ :: up)) l) nodes w) := by
  have hfc := h.fc
  have hH := h.hH
  have l3 : n + 3 < w.heap.size := (Array.getElem?_eq_some_iff.1 hfc.z3).1
  have c3 : ∀ o, w.cell? ⟨n + 3, o, none⟩ = _ := blk_cell hfc.z3
  have l0 : n < w.heap.size := (Array.getElem?_eq_some_iff.1 hfc.z0).1
  have c0 : ∀ o, w.cell? ⟨n, o, none⟩ = _ := blk_cell hfc.z0
  have l1 : n + 1 < w.heap.size := (Array.getElem?_eq_some_iff.1 hfc.z1).1
  have c1 : ∀ o, w.cell? ⟨n + 1, o, none⟩ = _ := blk_cell hfc.z1
  have la : a < w.heap.size := by omega
  have li : i < w.heap.size := by omega
  have hch := h.chain
  have hgst := h.g
  have HH := Lib.hid h
  have HC := Lib.hid hch
  have HG := Lib.hid hgst
  clear h hch hgst hfc
  have hJ : leaveL breakK (tgB (⟨n + 2, labs, lst⟩ :: up)) l (jsOf gd rep labs fs bs) = { jsOf gd rep labs fs bs with rep := (jsOf gd rep labs fs bs).rep + 1 } := leave_bad (fun t ht => by rw [encB_tg, henc] at ht; cases ht; exact hok)
  have HJ := Lib.hid hJ
  clear hJ hok
  obtain ⟨⟨s1, s2, s3, s4, _, vv, s6⟩, s7⟩ := encB_LS HC.out henc
  have ls : x.1 < w.heap.size := by omega
  rw [hT] at s6
  go_enter Tryz.func76, Tryz.ntmps76
  go_wp2_with fail
  refine (enclosing_any lo H0 M0 w.heap.size (⟨n + 2, labs, lst⟩ :: up) l w HC.out k1 k2 (by omega)).mono ?_
  rintro e w1 ⟨rfl, hw1⟩
  rw [hw1, henc]
  rw [show ptr ((some x : CUR).map fun x => x.1) = .pointer (some ⟨x.1, 0, none⟩) from rfl]
  go_wp2_with fail
  go_region_held3 (fun w' => w'.cell? ⟨n, 0, none⟩ = some (.pointer (some ⟨C, 0, none⟩)) ∧ w'.cell? ⟨a, 2, none⟩ = some (.pointer (some ⟨i, 0, none⟩)) ∧ w'.cell? ⟨i, 0, none⟩ = some (.int .i64 q)) (first | go_keep | exact hcE)
    (first
      | (go_at_call 60; refine (identPos_any i q _ (by first | exact i4 | exact (World.cell?_alloc_past _ _ _ li).trans i4)).mono ?_; rintro e _ ⟨rfl, rfl⟩)
      | (go_at_call 59; refine (errorf_any H0 C rep w.heap.size 1 1 q _ _ (nm l) _ (by first | exact HG.out.chk.drew.alloc _ | exact (HG.out.chk.alloc _).drew) (by simp; omega) (by simp) (by omega) hcap).mono ?_; rintro e w2 ⟨rfl, r1, r2⟩; have hcE : w2.cell? ⟨n, 0, none⟩ = some (.pointer (some ⟨C, 0, none⟩)) ∧ w2.cell? ⟨a, 2, none⟩ = some (.pointer (some ⟨i, 0, none⟩)) ∧ w2.cell? ⟨i, 0, none⟩ = some (.int .i64 q) := (by have hgf : GF H0 M0 w.heap.size _ w2 := r2.gf (by first | exact HG.out.chk.drew.alloc _ | exact (HG.out.chk.alloc _).drew) (by simp; omega) (by simp); have hn2 := r2.typ (by first | exact HG.out.chk.drew.alloc _ | exact (HG.out.chk.alloc _).drew) ((Below.heap_alloc _ _ _ l0).trans HH.out.fc.z0) (by decide) (by decide); exact ⟨blk_cell hn2 0, (World.cell?_of_block (hgf.low a g2)).trans ((World.cell?_alloc_past _ _ _ la).trans i3), (World.cell?_of_block (hgf.low i j2)).trans ((World.cell?_alloc_past _ _ _ li).trans i4)⟩)))
  all_goals
    go_wp2_with fail
    (try simp only [Exit.inBlock, Exit.then])
    refine bodyPost_ret (results_none rfl _ _ _) rfl ?_
    first | exact rep_done HH.out (HG.out.drew.alloc _) ((GF.refl _ _ _ _).drew.alloc (by simp; omega) (by simp) _) r1 r2 HJ.out | exact rep_done HH.out ((HG.out.alloc _).drew) (((GF.refl _ _ _ _).alloc (by omega) (by omega) _).drew) r1 r2 HJ.out

set_option maxRecDepth 100000 in
set_option maxHeartbeats 4000000 in
theorem st_break_137 (lo H0 C A M0 n : Nat) (up : List BE) (lst cur : CUR) (gd : GD) (rep : Nat) (labs : List Int) (fs : List (Nat × Int)) (bs : List Nat) (a i : Nat) (l q : Int) (c : Value) (nodes : List Nat) (w : World) (h : LSt lo H0 C A M0 n up lst gd rep labs fs bs w) (g1 : lo ≤ a) (g2 : a < H0) (j1 : lo ≤ i) (j2 : i < H0) (k1 : -1 ≤ l) (k2 : l ≤ 9) (h1 : w.cell? ⟨a, 1, none⟩ = some (.int .i64 61)) (i3 : w.cell? ⟨a, 2, none⟩ = some (.pointer (some ⟨i, 0, none⟩))) (i4 : w.cell? ⟨i, 0, none⟩ = some (.int .i64 q)) (i5 : w.cell? ⟨i, 1, none⟩ = some (.string (nm l))) (hcap : rep ≤ 100000) (x : Nat × Int × Int) (henc : encB (⟨n + 2, labs, lst⟩ :: up) l = some x) (hT : tagK x.2.2 = 137) (hok : breakK x.2.2 = true) :
    Calls Tryz.prog 76 #[c, .iface 95 (.pointer (some ⟨a, 0, none⟩)), .pointer (some ⟨n + 7, 0, none⟩), .pointer (some ⟨n, 0, none⟩), .pointer (some ⟨n + 1, 0, none⟩), .pointer (some ⟨n + 3, 0, none⟩), .pointer (some ⟨n + 5, 0, none⟩), .pointer (some ⟨n + 8, 0, none⟩), .pointer (some ⟨n + 4, 0, none⟩), .pointer (some ⟨n + 10, 0, none⟩), .pointer (some ⟨n + 9, 0, none⟩)] w (StmR lo H0 C A M0 n up lst gd rep labs fs bs (leaveL breakK (tgB (⟨n + 2, labs, lst⟩ :: up)) l) nodes w) := by
  have hfc := h.fc
  have hH := h.hH
  have l3 : n + 3 < w.heap.size := (Array.getElem?_eq_some_iff.1 hfc.z3).1
  have c3 : ∀ o, w.cell? ⟨n + 3, o, none⟩ = _ := blk_cell hfc.z3
  have l0 : n < w.heap.size := (Array.getElem?_eq_some_iff.1 hfc.z0).1
  have c0 : ∀ o, w.cell? ⟨n, o, none⟩ = _ := blk_cell hfc.z0
  have l1 : n + 1 < w.heap.size := (Array.getElem?_eq_some_iff.1 hfc.z1).1
  have c1 : ∀ o, w.cell? ⟨n + 1, o, none⟩ = _ := blk_cell hfc.z1
  have la : a < w.heap.size := by omega
  have li : i < w.heap.size := by omega
  have hch := h.chain
  have hgst := h.g
  have HH := Lib.hid h
  have HC := Lib.hid hch
  have HG := Lib.hid hgst
  clear h hch hgst hfc
  have hJ : leaveL breakK (tgB (⟨n + 2, labs, lst⟩ :: up)) l (jsOf gd rep labs fs bs) = { jsOf gd rep labs fs bs with ds := useL l (jsOf gd rep labs fs bs).ds } := leave_ok (t := x.2) (by rw [encB_tg, henc]; rfl) hok
  have HJ := Lib.hid hJ
  clear hJ hok
  obtain ⟨⟨s1, s2, s3, s4, _, vv, s6⟩, s7⟩ := encB_LS HC.out henc
  have ls : x.1 < w.heap.size := by omega
  rw [hT] at s6
  go_enter Tryz.func76, Tryz.ntmps76
  go_wp2_with fail
  refine (enclosing_any lo H0 M0 w.heap.size (⟨n + 2, labs, lst⟩ :: up) l w HC.out k1 k2 (by omega)).mono ?_
  rintro e w1 ⟨rfl, hw1⟩
  rw [hw1, henc]
  rw [show ptr ((some x : CUR).map fun x => x.1) = .pointer (some ⟨x.1, 0, none⟩) from rfl]
  go_wp2_with fail
  refine (Lookup_any H0 C A M0 rep gd l w HG.out k1 k2).mono ?_
  rintro e w2 ⟨rfl, hw2⟩
  have hmem : l ∈ keysG gd := by
    have h1 := HH.out.st x.2 (List.mem_of_find?_eq_some ((encB_tg _ l).trans (by rw [henc]; rfl)))
    rw [s7] at h1
    exact h1
  obtain ⟨e, he, he1, hlk⟩ := lookG_of hmem
  rw [hw2, hlk]
  obtain ⟨hL0, _, _, pL, hL⟩ := HG.out.lab e he
  have lL : e.2.2 < w.heap.size := (Array.getElem?_eq_some_iff.1 hL).1
  have cL : ∀ o, w.cell? ⟨e.2.2, o, none⟩ = _ := blk_cell hL
  have fL : ∀ o, w.frozen? ⟨e.2.2, o, none⟩ = false := blk_frz hL
  have nL0 : e.2.2 ≠ n := by rintro rfl; rw [HH.out.fc.z0] at hL; cases hL
  have nLa : e.2.2 ≠ a := by omega
  have nL0' : n ≠ e.2.2 := fun h => nL0 h.symm
  have nLa' : a ≠ e.2.2 := fun h => nLa h.symm
  have d0 : (w.setCell ⟨e.2.2, 2, none⟩ (.bool true)).cell? ⟨n, 0, none⟩ = some (.pointer (some ⟨C, 0, none⟩)) := (sc_other (.inl nL0)).trans (c0 0)
  have da : (w.setCell ⟨e.2.2, 2, none⟩ (.bool true)).cell? ⟨a, 2, none⟩ = some (.pointer (some ⟨i, 0, none⟩)) := (sc_other (.inl nLa)).trans i3
  clear hL hlk hmem
  go_wp2_with fail
  go_quiet ((go_at_call 85; exact Calls.quiet_of_same (recordUse_any _ _ _ _)))
  go_wp2_with fail
  go_end0
  refine use_done HH.out he ⟨nq, rfl⟩ ?_
  rw [he1]
  exact HJ.out

set_option maxRecDepth 100000 in
set_option maxHeartbeats 4000000 in
theorem st_break_141 (lo H0 C A M0 n : Nat) (up : List BE) (lst cur : CUR) (gd : GD) (rep : Nat) (labs : List Int) (fs : List (Nat × Int)) (bs : List Nat) (a i : Nat) (l q : Int) (c : Value) (nodes : List Nat) (w : World) (h : LSt lo H0 C A M0 n up lst gd rep labs fs bs w) (g1 : lo ≤ a) (g2 : a < H0) (j1 : lo ≤ i) (j2 : i < H0) (k1 : -1 ≤ l) (k2 : l ≤ 9) (h1 : w.cell? ⟨a, 1, none⟩ = some (.int .i64 61)) (i3 : w.cell? ⟨a, 2, none⟩ = some (.pointer (some ⟨i, 0, none⟩))) (i4 : w.cell? ⟨i, 0, none⟩ = some (.int .i64 q)) (i5 : w.cell? ⟨i, 1, none⟩ = some (.string (nm l))) (hcap : rep ≤ 100000) (x : Nat × Int × Int) (henc : encB (⟨n + 2, labs, lst⟩ :: up) l = some x) (hT : tagK x.2.2 = 141) (hok : breakK x.2.2 = true) :
    Calls Tryz.prog 76 #[c, .iface 95 (.pointer (some ⟨a, 0, none⟩)), .pointer (some ⟨n + 7, 0, none⟩), .pointer (some ⟨n, 0, none⟩), .pointer (some ⟨n + 1, 0, none⟩), .pointer (some ⟨n + 3, 0, none⟩), .pointer (some ⟨n + 5, 0, none⟩), .pointer (some ⟨n + 8, 0, none⟩), .pointer (some ⟨n + 4, 0, none⟩), .pointer (some ⟨n + 10, 0, none⟩), .pointer (some ⟨n + 9, 0, none⟩)] w (StmR lo H0 C A M0 n up lst gd rep labs fs bs (leaveL breakK (tgB (⟨n + 2, labs, lst⟩ :: up)) l) nodes w) := by
  have hfc := h.fc
  have hH := h.hH
  have l3 : n + 3 < w.heap.size := (Array.getElem?_eq_some_iff.1 hfc.z3).1
  have c3 : ∀ o, w.cell? ⟨n + 3, o, none⟩ = _ := blk_cell hfc.z3
  have l0 : n < w.heap.size := (Array.getElem?_eq_some_iff.1 hfc.z0).1
  have c0 : ∀ o, w.cell? ⟨n, o, none⟩ = _ := blk_cell hfc.z0
  have l1 : n + 1 < w.heap.size := (Array.getElem?_eq_some_iff.1 hfc.z1).1
  have c1 : ∀ o, w.cell? ⟨n + 1, o, none⟩ = _ := blk_cell hfc.z1
  have la : a < w.heap.size := by omega
  have li : i < w.heap.size := by omega
  have hch := h.chain
  have hgst := h.g
  have HH := Lib.hid h
  have HC := Lib.hid hch
  have HG := Lib.hid hgst
  clear h hch hgst hfc
  have hJ : leaveL breakK (tgB (⟨n + 2, labs, lst⟩ :: up)) l (jsOf gd rep labs fs bs) = { jsOf gd rep labs fs bs with ds := useL l (jsOf gd rep labs fs bs).ds } := leave_ok (t := x.2) (by rw [encB_tg, henc]; rfl) hok
  have HJ := Lib.hid hJ
  clear hJ hok
  obtain ⟨⟨s1, s2, s3, s4, _, vv, s6⟩, s7⟩ := encB_LS HC.out henc
  have ls : x.1 < w.heap.size := by omega
  rw [hT] at s6
  go_enter Tryz.func76, Tryz.ntmps76
  go_wp2_with fail
  refine (enclosing_any lo H0 M0 w.heap.size (⟨n + 2, labs, lst⟩ :: up) l w HC.out k1 k2 (by omega)).mono ?_
  rintro e w1 ⟨rfl, hw1⟩
  rw [hw1, henc]
  rw [show ptr ((some x : CUR).map fun x => x.1) = .pointer (some ⟨x.1, 0, none⟩) from rfl]
  go_wp2_with fail
  refine (Lookup_any H0 C A M0 rep gd l w HG.out k1 k2).mono ?_
  rintro e w2 ⟨rfl, hw2⟩
  have hmem : l ∈ keysG gd := by
    have h1 := HH.out.st x.2 (List.mem_of_find?_eq_some ((encB_tg _ l).trans (by rw [henc]; rfl)))
    rw [s7] at h1
    exact h1
  obtain ⟨e, he, he1, hlk⟩ := lookG_of hmem
  rw [hw2, hlk]
  obtain ⟨hL0, _, _, pL, hL⟩ := HG.out.lab e he
  have lL : e.2.2 < w.heap.size := (Array.getElem?_eq_some_iff.1 hL).1
  have cL : ∀ o, w.cell? ⟨e.2.2, o, none⟩ = _ := blk_cell hL
  have fL : ∀ o, w.frozen? ⟨e.2.2, o, none⟩ = false := blk_frz hL
  have nL0 : e.2.2 ≠ n := by rintro rfl; rw [HH.out.fc.z0] at hL; cases hL
  have nLa : e.2.2 ≠ a := by omega
  have nL0' : n ≠ e.2.2 := fun h => nL0 h.symm
  have nLa' : a ≠ e.2.2 := fun h => nLa h.symm
  have d0 : (w.setCell ⟨e.2.2, 2, none⟩ (.bool true)).cell? ⟨n, 0, none⟩ = some (.pointer (some ⟨C, 0, none⟩)) := (sc_other (.inl nL0)).trans (c0 0)
  have da : (w.setCell ⟨e.2.2, 2, none⟩ (.bool true)).cell? ⟨a, 2, none⟩ = some (.pointer (some ⟨i, 0, none⟩)) := (sc_other (.inl nLa)).trans i3
  clear hL hlk hmem
  go_wp2_with fail
  go_quiet ((go_at_call 85; exact Calls.quiet_of_same (recordUse_any _ _ _ _)))
  go_wp2_with fail
  go_end0
  refine use_done HH.out he ⟨nq, rfl⟩ ?_
  rw [he1]
  exact HJ.out

set_option maxRecDepth 100000 in
set_option maxHeartbeats 4000000 in
theorem st_break_147 (lo H0 C A M0 n : Nat) (up : List BE) (lst cur : CUR) (gd : GD) (rep : Nat) (labs : List Int) (fs : List (Nat × Int)) (bs : List Nat) (a i : Nat) (l q : Int) (c : Value) (nodes : List Nat) (w : World) (h : LSt lo H0 C A M0 n up lst gd rep labs fs bs w) (g1 : lo ≤ a) (g2 : a < H0) (j1 : lo ≤ i) (j2 : i < H0) (k1 : -1 ≤ l) (k2 : l ≤ 9) (h1 : w.cell? ⟨a, 1, none⟩ = some (.int .i64 61)) (i3 : w.cell? ⟨a, 2, none⟩ = some (.pointer (some ⟨i, 0, none⟩))) (i4 : w.cell? ⟨i, 0, none⟩ = some (.int .i64 q)) (i5 : w.cell? ⟨i, 1, none⟩ = some (.string (nm l))) (hcap : rep ≤ 100000) (x : Nat × Int × Int) (henc : encB (⟨n + 2, labs, lst⟩ :: up) l = some x) (hT : tagK x.2.2 = 147) (hok : breakK x.2.2 = true) :
    Calls Tryz.prog 76 #[c, .iface 95 (.pointer (some ⟨a, 0, none⟩)), .pointer (some ⟨n + 7, 0, none⟩), .pointer (some ⟨n, 0, none⟩), .pointer (some ⟨n + 1, 0, none⟩), .pointer (some ⟨n + 3, 0, none⟩), .pointer (some ⟨n + 5, 0, none⟩), .pointer (some ⟨n + 8, 0, none⟩), .pointer (some ⟨n + 4, 0, none⟩), .pointer (some ⟨n + 10, 0, none⟩), .pointer (some ⟨n + 9, 0, none⟩)] w (StmR lo H0 C A M0 n up lst gd rep labs fs bs (leaveL breakK (tgB (⟨n + 2, labs, lst⟩ :: up)) l) nodes w) := by
  have hfc := h.fc
  have hH := h.hH
  have l3 : n + 3 < w.heap.size := (Array.getElem?_eq_some_iff.1 hfc.z3).1
  have c3 : ∀ o, w.cell? ⟨n + 3, o, none⟩ = _ := blk_cell hfc.z3
  have l0 : n < w.heap.size := (Array.getElem?_eq_some_iff.1 hfc.z0).1
  have c0 : ∀ o, w.cell? ⟨n, o, none⟩ = _ := blk_cell hfc.z0
  have l1 : n + 1 < w.heap.size := (Array.getElem?_eq_some_iff.1 hfc.z1).1
  have c1 : ∀ o, w.cell? ⟨n + 1, o, none⟩ = _ := blk_cell hfc.z1
  have la : a < w.heap.size := by omega
  have li : i < w.heap.size := by omega
  have hch := h.chain
  have hgst := h.g
  have HH := Lib.hid h
  have HC := Lib.hid hch
  have HG := Lib.hid hgst
  clear h hch hgst hfc
  have hJ : leaveL breakK (tgB (⟨n + 2, labs, lst⟩ :: up)) l (jsOf gd rep labs fs bs) = { jsOf gd rep labs fs bs with ds := useL l (jsOf gd rep labs fs bs).ds } := leave_ok (t := x.2) (by rw [encB_tg, henc]; rfl) hok
  have HJ := Lib.hid hJ
  clear hJ hok
  obtain ⟨⟨s1, s2, s3, s4, _, vv, s6⟩, s7⟩ := encB_LS HC.out henc
  have ls : x.1 < w.heap.size := by omega
  rw [hT] at s6
  go_enter Tryz.func76, Tryz.ntmps76
  go_wp2_with fail
  refine (enclosing_any lo H0 M0 w.heap.size (⟨n + 2, labs, lst⟩ :: up) l w HC.out k1 k2 (by omega)).mono ?_
  rintro e w1 ⟨rfl, hw1⟩
  rw [hw1, henc]
  rw [show ptr ((some x : CUR).map fun x => x.1) = .pointer (some ⟨x.1, 0, none⟩) from rfl]
  go_wp2_with fail
  refine (Lookup_any H0 C A M0 rep gd l w HG.out k1 k2).mono ?_
  rintro e w2 ⟨rfl, hw2⟩
  have hmem : l ∈ keysG gd := by
    have h1 := HH.out.st x.2 (List.mem_of_find?_eq_some ((encB_tg _ l).trans (by rw [henc]; rfl)))
    rw [s7] at h1
    exact h1
  obtain ⟨e, he, he1, hlk⟩ := lookG_of hmem
  rw [hw2, hlk]
  obtain ⟨hL0, _, _, pL, hL⟩ := HG.out.lab e he
  have lL : e.2.2 < w.heap.size := (Array.getElem?_eq_some_iff.1 hL).1
  have cL : ∀ o, w.cell? ⟨e.2.2, o, none⟩ = _ := blk_cell hL
  have fL : ∀ o, w.frozen? ⟨e.2.2, o, none⟩ = false := blk_frz hL
  have nL0 : e.2.2 ≠ n := by rintro rfl; rw [HH.out.fc.z0] at hL; cases hL
  have nLa : e.2.2 ≠ a := by omega
  have nL0' : n ≠ e.2.2 := fun h => nL0 h.symm
  have nLa' : a ≠ e.2.2 := fun h => nLa h.symm
  have d0 : (w.setCell ⟨e.2.2, 2, none⟩ (.bool true)).cell? ⟨n, 0, none⟩ = some (.pointer (some ⟨C, 0, none⟩)) := (sc_other (.inl nL0)).trans (c0 0)
  have da : (w.setCell ⟨e.2.2, 2, none⟩ (.bool true)).cell? ⟨a, 2, none⟩ = some (.pointer (some ⟨i, 0, none⟩)) := (sc_other (.inl nLa)).trans i3
  clear hL hlk hmem
  go_wp2_with fail
  go_quiet ((go_at_call 85; exact Calls.quiet_of_same (recordUse_any _ _ _ _)))
  go_wp2_with fail
  go_end0
  refine use_done HH.out he ⟨nq, rfl⟩ ?_
  rw [he1]
  exact HJ.out

set_option maxRecDepth 100000 in
set_option maxHeartbeats 4000000 in
theorem st_break_130 (lo H0 C A M0 n : Nat) (up : List BE) (lst cur : CUR) (gd : GD) (rep : Nat) (labs : List Int) (fs : List (Nat × Int)) (bs : List Nat) (a i : Nat) (l q : Int) (c : Value) (nodes : List Nat) (w : World) (h : LSt lo H0 C A M0 n up lst gd rep labs fs bs w) (g1 : lo ≤ a) (g2 : a < H0) (j1 : lo ≤ i) (j2 : i < H0) (k1 : -1 ≤ l) (k2 : l ≤ 9) (h1 : w.cell? ⟨a, 1, none⟩ = some (.int .i64 61)) (i3 : w.cell? ⟨a, 2, none⟩ = some (.pointer (some ⟨i, 0, none⟩))) (i4 : w.cell? ⟨i, 0, none⟩ = some (.int .i64 q)) (i5 : w.cell? ⟨i, 1, none⟩ = some (.string (nm l))) (hcap : rep ≤ 100000) (x : Nat × Int × Int) (henc : encB (⟨n + 2, labs, lst⟩ :: up) l = some x) (hT : tagK x.2.2 = 130) (hok : breakK x.2.2 = true) :
    Calls Tryz.prog 76 #[c, .iface 95 (.pointer (some ⟨a, 0, none⟩)), .pointer (some ⟨n + 7, 0, none⟩), .pointer (some ⟨n, 0, none⟩), .pointer (some ⟨n + 1, 0, none⟩), .pointer (some ⟨n + 3, 0, none⟩), .pointer (some ⟨n + 5, 0, none⟩), .pointer (some ⟨n + 8, 0, none⟩), .pointer (some ⟨n + 4, 0, none⟩), .pointer (some ⟨n + 10, 0, none⟩), .pointer (some ⟨n + 9, 0, none⟩)] w (StmR lo H0 C A M0 n up lst gd rep labs fs bs (leaveL breakK (tgB (⟨n + 2, labs, lst⟩ :: up)) l) nodes w) := by
  have hfc := h.fc
  have hH := h.hH
  have l3 : n + 3 < w.heap.size := (Array.getElem?_eq_some_iff.1 hfc.z3).1
  have c3 : ∀ o, w.cell? ⟨n + 3, o, none⟩ = _ := blk_cell hfc.z3
  have l0 : n < w.heap.size := (Array.getElem?_eq_some_iff.1 hfc.z0).1
  have c0 : ∀ o, w.cell? ⟨n, o, none⟩ = _ := blk_cell hfc.z0
  have l1 : n + 1 < w.heap.size := (Array.getElem?_eq_some_iff.1 hfc.z1).1
  have c1 : ∀ o, w.cell? ⟨n + 1, o, none⟩ = _ := blk_cell hfc.z1
  have la : a < w.heap.size := by omega
  have li : i < w.heap.size := by omega
  have hch := h.chain
  have hgst := h.g
  have HH := Lib.hid h
  have HC := Lib.hid hch
  have HG := Lib.hid hgst
  clear h hch hgst hfc
  have hJ : leaveL breakK (tgB (⟨n + 2, labs, lst⟩ :: up)) l (jsOf gd rep labs fs bs) = { jsOf gd rep labs fs bs with ds := useL l (jsOf gd rep labs fs bs).ds } := leave_ok (t := x.2) (by rw [encB_tg, henc]; rfl) hok
  have HJ := Lib.hid hJ
  clear hJ hok
  obtain ⟨⟨s1, s2, s3, s4, _, vv, s6⟩, s7⟩ := encB_LS HC.out henc
  have ls : x.1 < w.heap.size := by omega
  rw [hT] at s6
  go_enter Tryz.func76, Tryz.ntmps76
  go_wp2_with fail
  refine (enclosing_any lo H0 M0 w.heap.size (⟨n + 2, labs, lst⟩ :: up) l w HC.out k1 k2 (by omega)).mono ?_
  rintro e w1 ⟨rfl, hw1⟩
  rw [hw1, henc]
  rw [show ptr ((some x : CUR).map fun x => x.1) = .pointer (some ⟨x.1, 0, none⟩) from rfl]
  go_wp2_with fail
  refine (Lookup_any H0 C A M0 rep gd l w HG.out k1 k2).mono ?_
  rintro e w2 ⟨rfl, hw2⟩
  have hmem : l ∈ keysG gd := by
    have h1 := HH.out.st x.2 (List.mem_of_find?_eq_some ((encB_tg _ l).trans (by rw [henc]; rfl)))
    rw [s7] at h1
    exact h1
  obtain ⟨e, he, he1, hlk⟩ := lookG_of hmem
  rw [hw2, hlk]
  obtain ⟨hL0, _, _, pL, hL⟩ := HG.out.lab e he
  have lL : e.2.2 < w.heap.size := (Array.getElem?_eq_some_iff.1 hL).1
  have cL : ∀ o, w.cell? ⟨e.2.2, o, none⟩ = _ := blk_cell hL
  have fL : ∀ o, w.frozen? ⟨e.2.2, o, none⟩ = false := blk_frz hL
  have nL0 : e.2.2 ≠ n := by rintro rfl; rw [HH.out.fc.z0] at hL; cases hL
  have nLa : e.2.2 ≠ a := by omega
  have nL0' : n ≠ e.2.2 := fun h => nL0 h.symm
  have nLa' : a ≠ e.2.2 := fun h => nLa h.symm
  have d0 : (w.setCell ⟨e.2.2, 2, none⟩ (.bool true)).cell? ⟨n, 0, none⟩ = some (.pointer (some ⟨C, 0, none⟩)) := (sc_other (.inl nL0)).trans (c0 0)
  have da : (w.setCell ⟨e.2.2, 2, none⟩ (.bool true)).cell? ⟨a, 2, none⟩ = some (.pointer (some ⟨i, 0, none⟩)) := (sc_other (.inl nLa)).trans i3
  clear hL hlk hmem
  go_wp2_with fail
  go_quiet ((go_at_call 85; exact Calls.quiet_of_same (recordUse_any _ _ _ _)))
  go_wp2_with fail
  go_end0
  refine use_done HH.out he ⟨nq, rfl⟩ ?_
  rw [he1]
  exact HJ.out

set_option maxRecDepth 100000 in
set_option maxHeartbeats 4000000 in
theorem st_break_133 (lo H0 C A M0 n : Nat) (up : List BE) (lst cur : CUR) (gd : GD) (rep : Nat) (labs : List Int) (fs : List (Nat × Int)) (bs : List Nat) (a i : Nat) (l q : Int) (c : Value) (nodes : List Nat) (w : World) (h : LSt lo H0 C A M0 n up lst gd rep labs fs bs w) (g1 : lo ≤ a) (g2 : a < H0) (j1 : lo ≤ i) (j2 : i < H0) (k1 : -1 ≤ l) (k2 : l ≤ 9) (h1 : w.cell? ⟨a, 1, none⟩ = some (.int .i64 61)) (i3 : w.cell? ⟨a, 2, none⟩ = some (.pointer (some ⟨i, 0, none⟩))) (i4 : w.cell? ⟨i, 0, none⟩ = some (.int .i64 q)) (i5 : w.cell? ⟨i, 1, none⟩ = some (.string (nm l))) (hcap : rep ≤ 100000) (x : Nat × Int × Int) (henc : encB (⟨n + 2, labs, lst⟩ :: up) l = some x) (hT : tagK x.2.2 = 133) (hok : breakK x.2.2 = true) :
    Calls Tryz.prog 76 #[c, .iface 95 (.pointer (some ⟨a, 0, none⟩)), .pointer (some ⟨n + 7, 0, none⟩), .pointer (some ⟨n, 0, none⟩), .pointer (some ⟨n + 1, 0, none⟩), .pointer (some ⟨n + 3, 0, none⟩), .pointer (some ⟨n + 5, 0, none⟩), .pointer (some ⟨n + 8, 0, none⟩), .pointer (some ⟨n + 4, 0, none⟩), .pointer (some ⟨n + 10, 0, none⟩), .pointer (some ⟨n + 9, 0, none⟩)] w (StmR lo H0 C A M0 n up lst gd rep labs fs bs (leaveL breakK (tgB (⟨n + 2, labs, lst⟩ :: up)) l) nodes w) := by
  have hfc := h.fc
  have hH := h.hH
  have l3 : n + 3 < w.heap.size := (Array.getElem?_eq_some_iff.1 hfc.z3).1
  have c3 : ∀ o, w.cell? ⟨n + 3, o, none⟩ = _ := blk_cell hfc.z3
  have l0 : n < w.heap.size := (Array.getElem?_eq_some_iff.1 hfc.z0).1
  have c0 : ∀ o, w.cell? ⟨n, o, none⟩ = _ := blk_cell hfc.z0
  have l1 : n + 1 < w.heap.size := (Array.getElem?_eq_some_iff.1 hfc.z1).1
  have c1 : ∀ o, w.cell? ⟨n + 1, o, none⟩ = _ := blk_cell hfc.z1
  have la : a < w.heap.size := by omega
  have li : i < w.heap.size := by omega
  have hch := h.chain
  have hgst := h.g
  have HH := Lib.hid h
  have HC := Lib.hid hch
  have HG := Lib.hid hgst
  clear h hch hgst hfc
  have hJ : leaveL breakK (tgB (⟨n + 2, labs, lst⟩ :: up)) l (jsOf gd rep labs fs bs) = { jsOf gd rep labs fs bs with ds := useL l (jsOf gd rep labs fs bs).ds } := leave_ok (t := x.2) (by rw [encB_tg, henc]; rfl) hok
  have HJ := Lib.hid hJ
  clear hJ hok
  obtain ⟨⟨s1, s2, s3, s4, _, vv, s6⟩, s7⟩ := encB_LS HC.out henc
  have ls : x.1 < w.heap.size := by omega
  rw [hT] at s6
  go_enter Tryz.func76, Tryz.ntmps76
  go_wp2_with fail
  refine (enclosing_any lo H0 M0 w.heap.size (⟨n + 2, labs, lst⟩ :: up) l w HC.out k1 k2 (by omega)).mono ?_
  rintro e w1 ⟨rfl, hw1⟩
  rw [hw1, henc]
  rw [show ptr ((some x : CUR).map fun x => x.1) = .pointer (some ⟨x.1, 0, none⟩) from rfl]
  go_wp2_with fail
  refine (Lookup_any H0 C A M0 rep gd l w HG.out k1 k2).mono ?_
  rintro e w2 ⟨rfl, hw2⟩
  have hmem : l ∈ keysG gd := by
    have h1 := HH.out.st x.2 (List.mem_of_find?_eq_some ((encB_tg _ l).trans (by rw [henc]; rfl)))
    rw [s7] at h1
    exact h1
  obtain ⟨e, he, he1, hlk⟩ := lookG_of hmem
  rw [hw2, hlk]
  obtain ⟨hL0, _, _, pL, hL⟩ := HG.out.lab e he
  have lL : e.2.2 < w.heap.size := (Array.getElem?_eq_some_iff.1 hL).1
  have cL : ∀ o, w.cell? ⟨e.2.2, o, none⟩ = _ := blk_cell hL
  have fL : ∀ o, w.frozen? ⟨e.2.2, o, none⟩ = false := blk_frz hL
  have nL0 : e.2.2 ≠ n := by rintro rfl; rw [HH.out.fc.z0] at hL; cases hL
  have nLa : e.2.2 ≠ a := by omega
  have nL0' : n ≠ e.2.2 := fun h => nL0 h.symm
  have nLa' : a ≠ e.2.2 := fun h => nLa h.symm
  have d0 : (w.setCell ⟨e.2.2, 2, none⟩ (.bool true)).cell? ⟨n, 0, none⟩ = some (.pointer (some ⟨C, 0, none⟩)) := (sc_other (.inl nL0)).trans (c0 0)
  have da : (w.setCell ⟨e.2.2, 2, none⟩ (.bool true)).cell? ⟨a, 2, none⟩ = some (.pointer (some ⟨i, 0, none⟩)) := (sc_other (.inl nLa)).trans i3
  clear hL hlk hmem
  go_wp2_with fail
  go_quiet ((go_at_call 85; exact Calls.quiet_of_same (recordUse_any _ _ _ _)))
  go_wp2_with fail
  go_end0
  refine use_done HH.out he ⟨nq, rfl⟩ ?_
  rw [he1]
  exact HJ.out

set_option maxRecDepth 100000 in
set_option maxHeartbeats 4000000 in
theorem st_continue_bad (lo H0 C A M0 n : Nat) (up : List BE) (lst cur : CUR) (gd : GD) (rep : Nat) (labs : List Int) (fs : List (Nat × Int)) (bs : List Nat) (a i : Nat) (l q : Int) (c : Value) (nodes : List Nat) (w : World) (h : LSt lo H0 C A M0 n up lst gd rep labs fs bs w) (g1 : lo ≤ a) (g2 : a < H0) (j1 : lo ≤ i) (j2 : i < H0) (k1 : -1 ≤ l) (k2 : l ≤ 9) (h1 : w.cell? ⟨a, 1, none⟩ = some (.int .i64 65)) (i3 : w.cell? ⟨a, 2, none⟩ = some (.pointer (some ⟨i, 0, none⟩))) (i4 : w.cell? ⟨i, 0, none⟩ = some (.int .i64 q)) (i5 : w.cell? ⟨i, 1, none⟩ = some (.string (nm l))) (hcap : rep ≤ 100000) (x : Nat × Int × Int) (henc : encB (⟨n + 2, labs, lst⟩ :: up) l = some x) (T : Nat) (hT : tagK x.2.2 = T) (t130 : T ≠ 130) (t133 : T ≠ 133) (hok : contK x.2.2 = false) :
    Calls Tryz.prog 76 #[c, .iface 95 (.pointer (some ⟨a, 0, none⟩)), .pointer (some ⟨n + 7, 0, none⟩), .pointer (some ⟨n, 0, none⟩), .pointer (some ⟨n + 1, 0, none⟩), .pointer (some ⟨n + 3, 0, none⟩), .pointer (some ⟨n + 5, 0, none⟩), .pointer (some ⟨n + 8, 0, none⟩), .pointer (some ⟨n + 4, 0, none⟩), .pointer (some ⟨n + 10, 0, none⟩), .pointer (some ⟨n + 9, 0, none⟩)] w (StmR lo H0 C A M0 n up lst gd rep labs fs bs (leaveL contK (tgB (⟨n + 2, labs, lst⟩ :: up)) l) nodes w) := by
  have hfc := h.fc
  have hH := h.hH
  have l3 : n + 3 < w.heap.size := (Array.getElem?_eq_some_iff.1 hfc.z3).1
  have c3 : ∀ o, w.cell? ⟨n + 3, o, none⟩ = _ := blk_cell hfc.z3
  have l0 : n < w.heap.size := (Array.getElem?_eq_some_iff.1 hfc.z0).1
  have c0 : ∀ o, w.cell? ⟨n, o, none⟩ = _ := blk_cell hfc.z0
  have l1 : n + 1 < w.heap.size := (Array.getElem?_eq_some_iff.1 hfc.z1).1
  have c1 : ∀ o, w.cell? ⟨n + 1, o, none⟩ = _ := blk_cell hfc.z1
  have la : a < w.heap.size := by omega
  have li : i < w.heap.size := by omega
  have hch := h.chain
  have hgst := h.g
  have HH := Lib.hid h
  have HC := Lib.hid hch
  have HG := Lib.hid hgst
  clear h hch hgst hfc
  have hJ : leaveL contK (tgB (⟨n + 2, labs, lst⟩ :: up)) l (jsOf gd rep labs fs bs) = { jsOf gd rep labs fs bs with rep := (jsOf gd rep labs fs bs).rep + 1 } := leave_bad (fun t ht => by rw [encB_tg, henc] at ht; cases ht; exact hok)
  have HJ := Lib.hid hJ
  clear hJ hok
  obtain ⟨⟨s1, s2, s3, s4, _, vv, s6⟩, s7⟩ := encB_LS HC.out henc
  have ls : x.1 < w.heap.size := by omega
  rw [hT] at s6
  go_enter Tryz.func76, Tryz.ntmps76
  go_wp2_with fail
  refine (enclosing_any lo H0 M0 w.heap.size (⟨n + 2, labs, lst⟩ :: up) l w HC.out k1 k2 (by omega)).mono ?_
  rintro e w1 ⟨rfl, hw1⟩
  rw [hw1, henc]
  rw [show ptr ((some x : CUR).map fun x => x.1) = .pointer (some ⟨x.1, 0, none⟩) from rfl]
  go_wp2_with fail
  go_region_held3 (fun w' => w'.cell? ⟨n, 0, none⟩ = some (.pointer (some ⟨C, 0, none⟩)) ∧ w'.cell? ⟨a, 2, none⟩ = some (.pointer (some ⟨i, 0, none⟩)) ∧ w'.cell? ⟨i, 0, none⟩ = some (.int .i64 q)) (first | go_keep | exact hcE)
    (first
      | (go_at_call 60; refine (identPos_any i q _ (by first | exact i4 | exact (World.cell?_alloc_past _ _ _ li).trans i4)).mono ?_; rintro e _ ⟨rfl, rfl⟩)
      | (go_at_call 59; refine (errorf_any H0 C rep w.heap.size 1 1 q _ _ (nm l) _ (by first | exact HG.out.chk.drew.alloc _ | exact (HG.out.chk.alloc _).drew) (by simp; omega) (by simp) (by omega) hcap).mono ?_; rintro e w2 ⟨rfl, r1, r2⟩; have hcE : w2.cell? ⟨n, 0, none⟩ = some (.pointer (some ⟨C, 0, none⟩)) ∧ w2.cell? ⟨a, 2, none⟩ = some (.pointer (some ⟨i, 0, none⟩)) ∧ w2.cell? ⟨i, 0, none⟩ = some (.int .i64 q) := (by have hgf : GF H0 M0 w.heap.size _ w2 := r2.gf (by first | exact HG.out.chk.drew.alloc _ | exact (HG.out.chk.alloc _).drew) (by simp; omega) (by simp); have hn2 := r2.typ (by first | exact HG.out.chk.drew.alloc _ | exact (HG.out.chk.alloc _).drew) ((Below.heap_alloc _ _ _ l0).trans HH.out.fc.z0) (by decide) (by decide); exact ⟨blk_cell hn2 0, (World.cell?_of_block (hgf.low a g2)).trans ((World.cell?_alloc_past _ _ _ la).trans i3), (World.cell?_of_block (hgf.low i j2)).trans ((World.cell?_alloc_past _ _ _ li).trans i4)⟩)))
  all_goals
    go_wp2_with fail
    (try simp only [Exit.inBlock, Exit.then])
    refine bodyPost_ret (results_none rfl _ _ _) rfl ?_
    first | exact rep_done HH.out (HG.out.drew.alloc _) ((GF.refl _ _ _ _).drew.alloc (by simp; omega) (by simp) _) r1 r2 HJ.out | exact rep_done HH.out ((HG.out.alloc _).drew) (((GF.refl _ _ _ _).alloc (by omega) (by omega) _).drew) r1 r2 HJ.out

set_option maxRecDepth 100000 in
set_option maxHeartbeats 4000000 in
theorem st_continue_130 (lo H0 C A M0 n : Nat) (up : List BE) (lst cur : CUR) (gd : GD) (rep : Nat) (labs : List Int) (fs : List (Nat × Int)) (bs : List Nat) (a i : Nat) (l q : Int) (c : Value) (nodes : List Nat) (w : World) (h : LSt lo H0 C A M0 n up lst gd rep labs fs bs w) (g1 : lo ≤ a) (g2 : a < H0) (j1 : lo ≤ i) (j2 : i < H0) (k1 : -1 ≤ l) (k2 : l ≤ 9) (h1 : w.cell? ⟨a, 1, none⟩ = some (.int .i64 65)) (i3 : w.cell? ⟨a, 2, none⟩ = some (.pointer (some ⟨i, 0, none⟩))) (i4 : w.cell? ⟨i, 0, none⟩ = some (.int .i64 q)) (i5 : w.cell? ⟨i, 1, none⟩ = some (.string (nm l))) (hcap : rep ≤ 100000) (x : Nat × Int × Int) (henc : encB (⟨n + 2, labs, lst⟩ :: up) l = some x) (hT : tagK x.2.2 = 130) (hok : contK x.2.2 = true) :
    Calls Tryz.prog 76 #[c, .iface 95 (.pointer (some ⟨a, 0, none⟩)), .pointer (some ⟨n + 7, 0, none⟩), .pointer (some ⟨n, 0, none⟩), .pointer (some ⟨n + 1, 0, none⟩), .pointer (some ⟨n + 3, 0, none⟩), .pointer (some ⟨n + 5, 0, none⟩), .pointer (some ⟨n + 8, 0, none⟩), .pointer (some ⟨n + 4, 0, none⟩), .pointer (some ⟨n + 10, 0, none⟩), .pointer (some ⟨n + 9, 0, none⟩)] w (StmR lo H0 C A M0 n up lst gd rep labs fs bs (leaveL contK (tgB (⟨n + 2, labs, lst⟩ :: up)) l) nodes w) := by
  have hfc := h.fc
  have hH := h.hH
  have l3 : n + 3 < w.heap.size := (Array.getElem?_eq_some_iff.1 hfc.z3).1
  have c3 : ∀ o, w.cell? ⟨n + 3, o, none⟩ = _ := blk_cell hfc.z3
  have l0 : n < w.heap.size := (Array.getElem?_eq_some_iff.1 hfc.z0).1
  have c0 : ∀ o, w.cell? ⟨n, o, none⟩ = _ := blk_cell hfc.z0
  have l1 : n + 1 < w.heap.size := (Array.getElem?_eq_some_iff.1 hfc.z1).1
  have c1 : ∀ o, w.cell? ⟨n + 1, o, none⟩ = _ := blk_cell hfc.z1
  have la : a < w.heap.size := by omega
  have li : i < w.heap.size := by omega
  have hch := h.chain
  have hgst := h.g
  have HH := Lib.hid h
  have HC := Lib.hid hch
  have HG := Lib.hid hgst
  clear h hch hgst hfc
  have hJ : leaveL contK (tgB (⟨n + 2, labs, lst⟩ :: up)) l (jsOf gd rep labs fs bs) = { jsOf gd rep labs fs bs with ds := useL l (jsOf gd rep labs fs bs).ds } := leave_ok (t := x.2) (by rw [encB_tg, henc]; rfl) hok
  have HJ := Lib.hid hJ
  clear hJ hok
  obtain ⟨⟨s1, s2, s3, s4, _, vv, s6⟩, s7⟩ := encB_LS HC.out henc
  have ls : x.1 < w.heap.size := by omega
  rw [hT] at s6
  go_enter Tryz.func76, Tryz.ntmps76
  go_wp2_with fail
  refine (enclosing_any lo H0 M0 w.heap.size (⟨n + 2, labs, lst⟩ :: up) l w HC.out k1 k2 (by omega)).mono ?_
  rintro e w1 ⟨rfl, hw1⟩
  rw [hw1, henc]
  rw [show ptr ((some x : CUR).map fun x => x.1) = .pointer (some ⟨x.1, 0, none⟩) from rfl]
  go_wp2_with fail
  refine (Lookup_any H0 C A M0 rep gd l w HG.out k1 k2).mono ?_
  rintro e w2 ⟨rfl, hw2⟩
  have hmem : l ∈ keysG gd := by
    have h1 := HH.out.st x.2 (List.mem_of_find?_eq_some ((encB_tg _ l).trans (by rw [henc]; rfl)))
    rw [s7] at h1
    exact h1
  obtain ⟨e, he, he1, hlk⟩ := lookG_of hmem
  rw [hw2, hlk]
  obtain ⟨hL0, _, _, pL, hL⟩ := HG.out.lab e he
  have lL : e.2.2 < w.heap.size := (Array.getElem?_eq_some_iff.1 hL).1
  have cL : ∀ o, w.cell? ⟨e.2.2, o, none⟩ = _ := blk_cell hL
  have fL : ∀ o, w.frozen? ⟨e.2.2, o, none⟩ = false := blk_frz hL
  have nL0 : e.2.2 ≠ n := by rintro rfl; rw [HH.out.fc.z0] at hL; cases hL
  have nLa : e.2.2 ≠ a := by omega
  have nL0' : n ≠ e.2.2 := fun h => nL0 h.symm
  have nLa' : a ≠ e.2.2 := fun h => nLa h.symm
  have d0 : (w.setCell ⟨e.2.2, 2, none⟩ (.bool true)).cell? ⟨n, 0, none⟩ = some (.pointer (some ⟨C, 0, none⟩)) := (sc_other (.inl nL0)).trans (c0 0)
  have da : (w.setCell ⟨e.2.2, 2, none⟩ (.bool true)).cell? ⟨a, 2, none⟩ = some (.pointer (some ⟨i, 0, none⟩)) := (sc_other (.inl nLa)).trans i3
  clear hL hlk hmem
  go_wp2_with fail
  go_quiet ((go_at_call 85; exact Calls.quiet_of_same (recordUse_any _ _ _ _)))
  go_wp2_with fail
  go_end0
  refine use_done HH.out he ⟨nq, rfl⟩ ?_
  rw [he1]
  exact HJ.out

set_option maxRecDepth 100000 in
set_option maxHeartbeats 4000000 in
theorem st_continue_133 (lo H0 C A M0 n : Nat) (up : List BE) (lst cur : CUR) (gd : GD) (rep : Nat) (labs : List Int) (fs : List (Nat × Int)) (bs : List Nat) (a i : Nat) (l q : Int) (c : Value) (nodes : List Nat) (w : World) (h : LSt lo H0 C A M0 n up lst gd rep labs fs bs w) (g1 : lo ≤ a) (g2 : a < H0) (j1 : lo ≤ i) (j2 : i < H0) (k1 : -1 ≤ l) (k2 : l ≤ 9) (h1 : w.cell? ⟨a, 1, none⟩ = some (.int .i64 65)) (i3 : w.cell? ⟨a, 2, none⟩ = some (.pointer (some ⟨i, 0, none⟩))) (i4 : w.cell? ⟨i, 0, none⟩ = some (.int .i64 q)) (i5 : w.cell? ⟨i, 1, none⟩ = some (.string (nm l))) (hcap : rep ≤ 100000) (x : Nat × Int × Int) (henc : encB (⟨n + 2, labs, lst⟩ :: up) l = some x) (hT : tagK x.2.2 = 133) (hok : contK x.2.2 = true) :
    Calls Tryz.prog 76 #[c, .iface 95 (.pointer (some ⟨a, 0, none⟩)), .pointer (some ⟨n + 7, 0, none⟩), .pointer (some ⟨n, 0, none⟩), .pointer (some ⟨n + 1, 0, none⟩), .pointer (some ⟨n + 3, 0, none⟩), .pointer (some ⟨n + 5, 0, none⟩), .pointer (some ⟨n + 8, 0, none⟩), .pointer (some ⟨n + 4, 0, none⟩), .pointer (some ⟨n + 10, 0, none⟩), .pointer (some ⟨n + 9, 0, none⟩)] w (StmR lo H0 C A M0 n up lst gd rep labs fs bs (leaveL contK (tgB (⟨n + 2, labs, lst⟩ :: up)) l) nodes w) := by
  have hfc := h.fc
  have hH := h.hH
  have l3 : n + 3 < w.heap.size := (Array.getElem?_eq_some_iff.1 hfc.z3).1
  have c3 : ∀ o, w.cell? ⟨n + 3, o, none⟩ = _ := blk_cell hfc.z3
  have l0 : n < w.heap.size := (Array.getElem?_eq_some_iff.1 hfc.z0).1
  have c0 : ∀ o, w.cell? ⟨n, o, none⟩ = _ := blk_cell hfc.z0
  have l1 : n + 1 < w.heap.size := (Array.getElem?_eq_some_iff.1 hfc.z1).1
  have c1 : ∀ o, w.cell? ⟨n + 1, o, none⟩ = _ := blk_cell hfc.z1
  have la : a < w.heap.size := by omega
  have li : i < w.heap.size := by omega
  have hch := h.chain
  have hgst := h.g
  have HH := Lib.hid h
  have HC := Lib.hid hch
  have HG := Lib.hid hgst
  clear h hch hgst hfc
  have hJ : leaveL contK (tgB (⟨n + 2, labs, lst⟩ :: up)) l (jsOf gd rep labs fs bs) = { jsOf gd rep labs fs bs with ds := useL l (jsOf gd rep labs fs bs).ds } := leave_ok (t := x.2) (by rw [encB_tg, henc]; rfl) hok
  have HJ := Lib.hid hJ
  clear hJ hok
  obtain ⟨⟨s1, s2, s3, s4, _, vv, s6⟩, s7⟩ := encB_LS HC.out henc
  have ls : x.1 < w.heap.size := by omega
  rw [hT] at s6
  go_enter Tryz.func76, Tryz.ntmps76
  go_wp2_with fail
  refine (enclosing_any lo H0 M0 w.heap.size (⟨n + 2, labs, lst⟩ :: up) l w HC.out k1 k2 (by omega)).mono ?_
  rintro e w1 ⟨rfl, hw1⟩
  rw [hw1, henc]
  rw [show ptr ((some x : CUR).map fun x => x.1) = .pointer (some ⟨x.1, 0, none⟩) from rfl]
  go_wp2_with fail
  refine (Lookup_any H0 C A M0 rep gd l w HG.out k1 k2).mono ?_
  rintro e w2 ⟨rfl, hw2⟩
  have hmem : l ∈ keysG gd := by
    have h1 := HH.out.st x.2 (List.mem_of_find?_eq_some ((encB_tg _ l).trans (by rw [henc]; rfl)))
    rw [s7] at h1
    exact h1
  obtain ⟨e, he, he1, hlk⟩ := lookG_of hmem
  rw [hw2, hlk]
  obtain ⟨hL0, _, _, pL, hL⟩ := HG.out.lab e he
  have lL : e.2.2 < w.heap.size := (Array.getElem?_eq_some_iff.1 hL).1
  have cL : ∀ o, w.cell? ⟨e.2.2, o, none⟩ = _ := blk_cell hL
  have fL : ∀ o, w.frozen? ⟨e.2.2, o, none⟩ = false := blk_frz hL
  have nL0 : e.2.2 ≠ n := by rintro rfl; rw [HH.out.fc.z0] at hL; cases hL
  have nLa : e.2.2 ≠ a := by omega
  have nL0' : n ≠ e.2.2 := fun h => nL0 h.symm
  have nLa' : a ≠ e.2.2 := fun h => nLa h.symm
  have d0 : (w.setCell ⟨e.2.2, 2, none⟩ (.bool true)).cell? ⟨n, 0, none⟩ = some (.pointer (some ⟨C, 0, none⟩)) := (sc_other (.inl nL0)).trans (c0 0)
  have da : (w.setCell ⟨e.2.2, 2, none⟩ (.bool true)).cell? ⟨a, 2, none⟩ = some (.pointer (some ⟨i, 0, none⟩)) := (sc_other (.inl nLa)).trans i3
  clear hL hlk hmem
  go_wp2_with fail
  go_quiet ((go_at_call 85; exact Calls.quiet_of_same (recordUse_any _ _ _ _)))
  go_wp2_with fail
  go_end0
  refine use_done HH.out he ⟨nq, rfl⟩ ?_
  rw [he1]
  exact HJ.out

end Go.Proofs.YtpodifbgfcclbaaGreatDoor
