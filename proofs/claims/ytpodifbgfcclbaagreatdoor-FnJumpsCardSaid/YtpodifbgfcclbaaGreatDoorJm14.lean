/- stmtBranches: break and continue. -/
import Derived.Test.YtpodifbgfcclbaaGreatDoorJm12
set_option linter.unusedVariables false
set_option linter.unusedSimpArgs false
namespace Go.Proofs.YtpodifbgfcclbaaGreatDoor
open Go.RowKit
attribute [local go_sem] Nat.lt_add_one_of_lt

theorem rep_done {lo H0 C A M0 n : Nat} {up : List BE} {lst : CUR} {gd : GD} {rep : Nat} {labs : List Int} {fs : List (Nat × Int)} {bs : List Nat} {nodes : List Nat} {w w0 w1 : World} (h : LSt lo H0 C A M0 n up lst gd rep labs fs bs w)
    (hg : GSt H0 C A M0 gd rep w0) (hf : GF H0 M0 w.heap.size w w0) (hc : Chk H0 C (rep + 1) w1) (hcf : ChkF H0 C w0 w1) {J : JS → JS} (hJ : J (jsOf gd rep labs fs bs) = { jsOf gd rep labs fs bs with rep := (jsOf gd rep labs fs bs).rep + 1 }) :
    StmR lo H0 C A M0 n up lst gd rep labs fs bs J nodes w (.returned (.tuple #[])) w1 := by
  have hl0 : n < w.heap.size := (Array.getElem?_eq_some_iff.1 h.fc.z0).1
  have hf2 : GF H0 M0 w.heap.size w w1 := hf.trans (hcf.gf hg.chk hg.sz hf.size)
  have h1 := h.nested (hg.reported hc hcf) hf2 fun l hl => hl
  exact ⟨rfl, gd, rep + 1, labs, fs, bs, h1, hf2.mono (by omega), fun _ h => h, fun a ha => by rcases ha with ha | ha <;> simp [ha], by rw [hJ]; rfl⟩
theorem tag_out {k : Int} (h : k < 0 ∨ 20 < k) : tagK k = 121 := by
  unfold tagK
  repeat rw [if_neg (by omega)]
theorem tag_break (k : Int) : (tagK k = 137 ∨ tagK k = 141 ∨ tagK k = 147 ∨ tagK k = 130 ∨ tagK k = 133) ↔ breakK k = true := by
  by_cases hk : k < 0 ∨ 20 < k
  · rw [tag_out hk]
    have h1 : breakK k = false := by simp [breakK]; omega
    rw [h1]
    decide
  · have h : ∀ m : Fin 21, (tagK (m.val : Int) = 137 ∨ tagK (m.val : Int) = 141 ∨ tagK (m.val : Int) = 147 ∨ tagK (m.val : Int) = 130 ∨ tagK (m.val : Int) = 133) ↔ breakK (m.val : Int) = true := by decide
    have h2 := h ⟨k.toNat, by omega⟩
    rw [show ((⟨k.toNat, by omega⟩ : Fin 21).val : Int) = k by simp; omega] at h2
    exact h2
theorem tag_cont (k : Int) : (tagK k = 130 ∨ tagK k = 133) ↔ contK k = true := by
  by_cases hk : k < 0 ∨ 20 < k
  · rw [tag_out hk]
    have h1 : contK k = false := by simp [contK]; omega
    rw [h1]
    decide
  · have h : ∀ m : Fin 21, (tagK (m.val : Int) = 130 ∨ tagK (m.val : Int) = 133) ↔ contK (m.val : Int) = true := by decide
    have h2 := h ⟨k.toNat, by omega⟩
    rw [show ((⟨k.toNat, by omega⟩ : Fin 21).val : Int) = k by simp; omega] at h2
    exact h2
theorem leave_ok {ok : Int → Bool} {tg : List (Int × Int)} {l : Int} {s : JS} {t : Int × Int} (h : tg.find? (fun t => t.1 == l) = some t) (h2 : ok t.2 = true) : leaveL ok tg l s = { s with ds := useL l s.ds } := by
  unfold leaveL; rw [h]; simp [h2]
theorem leave_bad {ok : Int → Bool} {tg : List (Int × Int)} {l : Int} {s : JS} (h : ∀ t, tg.find? (fun t => t.1 == l) = some t → ok t.2 = false) : leaveL ok tg l s = { s with rep := s.rep + 1 } := by
  unfold leaveL
  cases hf : tg.find? (fun t => t.1 == l) with
  | none => rfl
  | some t => simp [h t hf]

set_option maxRecDepth 100000 in
set_option maxHeartbeats 4000000 in
theorem st_break_none (lo H0 C A M0 n : Nat) (up : List BE) (lst cur : CUR) (gd : GD) (rep : Nat) (labs : List Int) (fs : List (Nat × Int)) (bs : List Nat) (a i : Nat) (l q : Int) (c : Value) (nodes : List Nat) (w : World) (h : LSt lo H0 C A M0 n up lst gd rep labs fs bs w) (g1 : lo ≤ a) (g2 : a < H0) (j1 : lo ≤ i) (j2 : i < H0) (k1 : -1 ≤ l) (k2 : l ≤ 9) (h1 : w.cell? ⟨a, 1, none⟩ = some (.int .i64 61)) (i3 : w.cell? ⟨a, 2, none⟩ = some (.pointer (some ⟨i, 0, none⟩))) (i4 : w.cell? ⟨i, 0, none⟩ = some (.int .i64 q)) (i5 : w.cell? ⟨i, 1, none⟩ = some (.string (nm l))) (hcap : rep ≤ 100000) (henc : encB (⟨n + 2, labs, lst⟩ :: up) l = none) :
    Calls Tryz.prog 76 #[c, .iface 95 (.pointer (some ⟨a, 0, none⟩)), .pointer (some ⟨n + 7, 0, none⟩), .pointer (some ⟨n, 0, none⟩), .pointer (some ⟨n + 1, 0, none⟩), .pointer (some ⟨n + 3, 0, none⟩), .pointer (some ⟨n + 5, 0, none⟩), .pointer (some ⟨n + 8, 0, none⟩), .pointer (some ⟨n + 4, 0, none⟩), .pointer (some ⟨n + 10, 0, none⟩), .pointer (some ⟨n + 9, 0, none⟩)] w (StmR lo H0 C A M0 n up lst gd rep labs fs bs (leaveL breakK (tgB (⟨n + 2, labs, lst⟩ :: up)) l) nodes w) := by
  have hfc := h.fc
  have hH := h.hH
  have l3 : n + 3 < w.heap.size := (Array.getElem?_eq_some_iff.1 hfc.z3).1
  have c3 : ∀ o, w.cell? ⟨n + 3, o, none⟩ = _ := blk_cell hfc.z3
  have l0 : n < w.heap.size := (Array.getElem?_eq_some_iff.1 hfc.z0).1
  have c0 : ∀ o, w.cell? ⟨n, o, none⟩ = _ := blk_cell hfc.z0
  have l1 : n + 1 < w.heap.size := (Array.getElem?_eq_some_iff.1 hfc.z1).1
  have c1 : ∀ o, w.cell? ⟨n + 1, o, none⟩ = _ := blk_cell hfc.z1
  have la : a < w.heap.size := by omega
  have li : i < w.heap.size := by omega
  have hch := h.chain
  have hgst := h.g
  have HH := Lib.hid h
  have HC := Lib.hid hch
  have HG := Lib.hid hgst
  clear h hch hgst hfc
  have hJ : leaveL breakK (tgB (⟨n + 2, labs, lst⟩ :: up)) l (jsOf gd rep labs fs bs) = { jsOf gd rep labs fs bs with rep := (jsOf gd rep labs fs bs).rep + 1 } := leave_bad (fun t ht => by rw [encB_tg, henc] at ht; cases ht)
  have HJ := Lib.hid hJ
  clear hJ
  go_enter Tryz.func76, Tryz.ntmps76
  go_wp2_with fail
  refine (enclosing_any lo H0 M0 w.heap.size (⟨n + 2, labs, lst⟩ :: up) l w HC.out k1 k2 (by omega)).mono ?_
  rintro e w1 ⟨rfl, hw1⟩
  rw [hw1, henc]
  rw [show ptr ((none : CUR).map fun x => x.1) = .pointer none from rfl]
  go_wp2_with fail
  go_region_held3 (fun w' => w'.cell? ⟨n, 0, none⟩ = some (.pointer (some ⟨C, 0, none⟩)) ∧ w'.cell? ⟨a, 2, none⟩ = some (.pointer (some ⟨i, 0, none⟩)) ∧ w'.cell? ⟨i, 0, none⟩ = some (.int .i64 q)) (first | go_keep | exact hcE)
    (first
      | (go_at_call 60; refine (identPos_any i q _ (by first | exact i4 | exact (World.cell?_alloc_past _ _ _ li).trans i4)).mono ?_; rintro e _ ⟨rfl, rfl⟩)
      | (go_at_call 59; refine (errorf_any H0 C rep w.heap.size 1 1 q _ _ (nm l) _ (by first | exact HG.out.chk.drew.alloc _ | exact (HG.out.chk.alloc _).drew) (by simp; omega) (by simp) (by omega) hcap).mono ?_; rintro e w2 ⟨rfl, r1, r2⟩; have hcE : w2.cell? ⟨n, 0, none⟩ = some (.pointer (some ⟨C, 0, none⟩)) ∧ w2.cell? ⟨a, 2, none⟩ = some (.pointer (some ⟨i, 0, none⟩)) ∧ w2.cell? ⟨i, 0, none⟩ = some (.int .i64 q) := (by have hgf : GF H0 M0 w.heap.size _ w2 := r2.gf (by first | exact HG.out.chk.drew.alloc _ | exact (HG.out.chk.alloc _).drew) (by simp; omega) (by simp); have hn2 := r2.typ (by first | exact HG.out.chk.drew.alloc _ | exact (HG.out.chk.alloc _).drew) ((Below.heap_alloc _ _ _ l0).trans HH.out.fc.z0) (by decide) (by decide); exact ⟨blk_cell hn2 0, (World.cell?_of_block (hgf.low a g2)).trans ((World.cell?_alloc_past _ _ _ la).trans i3), (World.cell?_of_block (hgf.low i j2)).trans ((World.cell?_alloc_past _ _ _ li).trans i4)⟩)))
  all_goals
    go_wp2_with fail
    (try simp only [Exit.inBlock, Exit.then])
    refine bodyPost_ret (results_none rfl _ _ _) rfl ?_
    first | exact rep_done HH.out (HG.out.drew.alloc _) ((GF.refl _ _ _ _).drew.alloc (by simp; omega) (by simp) _) r1 r2 HJ.out | exact rep_done HH.out ((HG.out.alloc _).drew) (((GF.refl _ _ _ _).alloc (by omega) (by omega) _).drew) r1 r2 HJ.out

set_option maxRecDepth 100000 in
set_option maxHeartbeats 4000000 in
theorem st_continue_none (lo H0 C A M0 n : Nat) (up : List BE) (lst cur : CUR) (gd : GD) (rep : Nat) (labs : List Int) (fs : List (Nat × Int)) (bs : List Nat) (a i : Nat) (l q : Int) (c : Value) (nodes : List Nat) (w : World) (h : LSt lo H0 C A M0 n up lst gd rep labs fs bs w) (g1 : lo ≤ a) (g2 : a < H0) (j1 : lo ≤ i) (j2 : i < H0) (k1 : -1 ≤ l) (k2 : l ≤ 9) (h1 : w.cell? ⟨a, 1, none⟩ = some (.int .i64 65)) (i3 : w.cell? ⟨a, 2, none⟩ = some (.pointer (some ⟨i, 0, none⟩))) (i4 : w.cell? ⟨i, 0, none⟩ = some (.int .i64 q)) (i5 : w.cell? ⟨i, 1, none⟩ = some (.string (nm l))) (hcap : rep ≤ 100000) (henc : encB (⟨n + 2, labs, lst⟩ :: up) l = none) :
    Calls Tryz.prog 76 #[c, .iface 95 (.pointer (some ⟨a, 0, none⟩)), .pointer (some ⟨n + 7, 0, none⟩), .pointer (some ⟨n, 0, none⟩), .pointer (some ⟨n + 1, 0, none⟩), .pointer (some ⟨n + 3, 0, none⟩), .pointer (some ⟨n + 5, 0, none⟩), .pointer (some ⟨n + 8, 0, none⟩), .pointer (some ⟨n + 4, 0, none⟩), .pointer (some ⟨n + 10, 0, none⟩), .pointer (some ⟨n + 9, 0, none⟩)] w (StmR lo H0 C A M0 n up lst gd rep labs fs bs (leaveL contK (tgB (⟨n + 2, labs, lst⟩ :: up)) l) nodes w) := by
  have hfc := h.fc
  have hH := h.hH
  have l3 : n + 3 < w.heap.size := (Array.getElem?_eq_some_iff.1 hfc.z3).1
  have c3 : ∀ o, w.cell? ⟨n + 3, o, none⟩ = _ := blk_cell hfc.z3
  have l0 : n < w.heap.size := (Array.getElem?_eq_some_iff.1 hfc.z0).1
  have c0 : ∀ o, w.cell? ⟨n, o, none⟩ = _ := blk_cell hfc.z0
  have l1 : n + 1 < w.heap.size := (Array.getElem?_eq_some_iff.1 hfc.z1).1
  have c1 : ∀ o, w.cell? ⟨n + 1, o, none⟩ = _ := blk_cell hfc.z1
  have la : a < w.heap.size := by omega
  have li : i < w.heap.size := by omega
  have hch := h.chain
  have hgst := h.g
  have HH := Lib.hid h
  have HC := Lib.hid hch
  have HG := Lib.hid hgst
  clear h hch hgst hfc
  have hJ : leaveL contK (tgB (⟨n + 2, labs, lst⟩ :: up)) l (jsOf gd rep labs fs bs) = { jsOf gd rep labs fs bs with rep := (jsOf gd rep labs fs bs).rep + 1 } := leave_bad (fun t ht => by rw [encB_tg, henc] at ht; cases ht)
  have HJ := Lib.hid hJ
  clear hJ
  go_enter Tryz.func76, Tryz.ntmps76
  go_wp2_with fail
  refine (enclosing_any lo H0 M0 w.heap.size (⟨n + 2, labs, lst⟩ :: up) l w HC.out k1 k2 (by omega)).mono ?_
  rintro e w1 ⟨rfl, hw1⟩
  rw [hw1, henc]
  rw [show ptr ((none : CUR).map fun x => x.1) = .pointer none from rfl]
  go_wp2_with fail
  go_region_held3 (fun w' => w'.cell? ⟨n, 0, none⟩ = some (.pointer (some ⟨C, 0, none⟩)) ∧ w'.cell? ⟨a, 2, none⟩ = some (.pointer (some ⟨i, 0, none⟩)) ∧ w'.cell? ⟨i, 0, none⟩ = some (.int .i64 q)) (first | go_keep | exact hcE)
    (first
      | (go_at_call 60; refine (identPos_any i q _ (by first | exact i4 | exact (World.cell?_alloc_past _ _ _ li).trans i4)).mono ?_; rintro e _ ⟨rfl, rfl⟩)
      | (go_at_call 59; refine (errorf_any H0 C rep w.heap.size 1 1 q _ _ (nm l) _ (by first | exact HG.out.chk.drew.alloc _ | exact (HG.out.chk.alloc _).drew) (by simp; omega) (by simp) (by omega) hcap).mono ?_; rintro e w2 ⟨rfl, r1, r2⟩; have hcE : w2.cell? ⟨n, 0, none⟩ = some (.pointer (some ⟨C, 0, none⟩)) ∧ w2.cell? ⟨a, 2, none⟩ = some (.pointer (some ⟨i, 0, none⟩)) ∧ w2.cell? ⟨i, 0, none⟩ = some (.int .i64 q) := (by have hgf : GF H0 M0 w.heap.size _ w2 := r2.gf (by first | exact HG.out.chk.drew.alloc _ | exact (HG.out.chk.alloc _).drew) (by simp; omega) (by simp); have hn2 := r2.typ (by first | exact HG.out.chk.drew.alloc _ | exact (HG.out.chk.alloc _).drew) ((Below.heap_alloc _ _ _ l0).trans HH.out.fc.z0) (by decide) (by decide); exact ⟨blk_cell hn2 0, (World.cell?_of_block (hgf.low a g2)).trans ((World.cell?_alloc_past _ _ _ la).trans i3), (World.cell?_of_block (hgf.low i j2)).trans ((World.cell?_alloc_past _ _ _ li).trans i4)⟩)))
  all_goals
    go_wp2_with fail
    (try simp only [Exit.inBlock, Exit.then])
    refine bodyPost_ret (results_none rfl _ _ _) rfl ?_
    first | exact rep_done HH.out (HG.out.drew.alloc _) ((GF.refl _ _ _ _).drew.alloc (by simp; omega) (by simp) _) r1 r2 HJ.out | exact rep_done HH.out ((HG.out.alloc _).drew) (((GF.refl _ _ _ _).alloc (by omega) (by omega) _).drew) r1 r2 HJ.out

end Go.Proofs.YtpodifbgfcclbaaGreatDoor
