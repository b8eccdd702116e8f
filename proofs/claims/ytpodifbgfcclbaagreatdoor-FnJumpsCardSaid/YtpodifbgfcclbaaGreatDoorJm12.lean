/- stmtBranches: what has no list inside. -/
import Derived.Test.YtpodifbgfcclbaaGreatDoorJm10
set_option linter.unusedVariables false
set_option linter.unusedSimpArgs false
namespace Go.Proofs.YtpodifbgfcclbaaGreatDoor
open Go.RowKit
attribute [local go_sem] Nat.lt_add_one_of_lt

/-- What stmtBranches leaves. -/
def StmR (lo H0 C A M0 n : Nat) (up : List BE) (lst : CUR) (gd : GD) (rep : Nat) (labs : List Int) (fs : List (Nat × Int)) (bs : List Nat) (J : JS → JS) (nodes : List Nat) (w : World) (e : Ending) (w' : World) : Prop :=
  e = .returned (.tuple #[]) ∧ ∃ (gd' : GD) (rep' : Nat) (labs' : List Int) (fs' : List (Nat × Int)) (bs' : List Nat), LSt lo H0 C A M0 n up lst gd' rep' labs' fs' bs' w' ∧ GF H0 M0 n w w' ∧ (∀ l ∈ keysG gd, l ∈ keysG gd') ∧
    (∀ a, a ∈ fs'.map Prod.fst ∨ a ∈ bs' → a ∈ fs.map Prod.fst ∨ a ∈ bs ∨ a ∈ nodes) ∧ jsOf gd' rep' labs' fs' bs' = J (jsOf gd rep labs fs bs)
theorem StmR.same {lo H0 C A M0 n : Nat} {up : List BE} {lst : CUR} {gd : GD} {rep : Nat} {labs : List Int} {fs : List (Nat × Int)} {bs : List Nat} {nodes : List Nat} {w : World} (h : LSt lo H0 C A M0 n up lst gd rep labs fs bs w) :
    StmR lo H0 C A M0 n up lst gd rep labs fs bs (fun s => s) nodes w (.returned (.tuple #[])) w :=
  ⟨rfl, gd, rep, labs, fs, bs, h, GF.refl _ _ _ _, fun _ h => h, fun a ha => by rcases ha with ha | ha <;> simp [ha], rfl⟩

set_option maxRecDepth 100000 in
set_option maxHeartbeats 4000000 in
theorem st_skip (n T : Nat) (c x : Value) (w : World) (t165 : T ≠ 165) (t156 : T ≠ 156) (t95 : T ≠ 95) (t189 : T ≠ 189) (t50 : T ≠ 50) (t126 : T ≠ 126) (t192 : T ≠ 192) (t137 : T ≠ 137) (t141 : T ≠ 141) (t195 : T ≠ 195) (t147 : T ≠ 147) (t130 : T ≠ 130) (t133 : T ≠ 133) :
    Calls Tryz.prog 76 #[c, .iface T x, .pointer (some ⟨n + 7, 0, none⟩), .pointer (some ⟨n, 0, none⟩), .pointer (some ⟨n + 1, 0, none⟩), .pointer (some ⟨n + 3, 0, none⟩), .pointer (some ⟨n + 5, 0, none⟩), .pointer (some ⟨n + 8, 0, none⟩), .pointer (some ⟨n + 4, 0, none⟩), .pointer (some ⟨n + 10, 0, none⟩), .pointer (some ⟨n + 9, 0, none⟩)] w fun e w' => e = .returned (.tuple #[]) ∧ w' = w := by
  go_enter Tryz.func76, Tryz.ntmps76
  go_wp2_with fail
  go_end0
  exact ⟨rfl, rfl⟩

theorem LV.drew {n : Nat} {fs bs : List Nat} {w : World} (h : LV n fs bs w) : LV n fs bs w.drew := h
theorem var_done {lo H0 C A M0 n : Nat} {up : List BE} {lst : CUR} {gd : GD} {rep : Nat} {labs : List Int} {fs : List (Nat × Int)} {bs : List Nat} {nodes : List Nat} {w w' : World} (h : LSt lo H0 C A M0 n up lst gd rep labs fs bs w)
    (hlv : LV n (fs.map Prod.fst) (fs.map Prod.fst) w') (hv : VF n w w') : StmR lo H0 C A M0 n up lst gd rep labs fs bs varL nodes w (.returned (.tuple #[])) w' := by
  have hown := h.own hv hlv h.gt (fun b hb => by obtain ⟨x, hx, rfl⟩ := List.mem_map.1 hb; exact ⟨(h.gt x hx).2.1, (h.gt x hx).2.2.1⟩)
  refine ⟨rfl, gd, rep, labs, fs, fs.map Prod.fst, hown.1, hown.2, fun _ h => h, fun a ha => by rcases ha with ha | ha <;> exact .inl ha, ?_⟩
  simp only [jsOf, varL, List.map_map]
  congr 1
  refine List.map_congr_left fun x hx => ?_
  have : hasN (fs.map Prod.fst) x.1 = true := by
    rw [hasN, List.contains_iff_mem]
    exact List.mem_map_of_mem hx
  simp [this]

set_option maxRecDepth 100000 in
set_option maxHeartbeats 4000000 in
theorem st_16 (lo H0 C A M0 n : Nat) (up : List BE) (lst cur : CUR) (gd : GD) (rep : Nat) (labs : List Int) (fs : List (Nat × Int)) (bs : List Nat) (a : Nat) (p : Int) (c : Value) (nodes : List Nat) (w : World) (h : LSt lo H0 C A M0 n up lst gd rep labs fs bs w) (h2 : w.cell? ⟨a, 2, none⟩ = some (.int .i64 47)) (h1 : w.cell? ⟨a, 1, none⟩ = some (.int .i64 p)) (hp : 0 < p) (hcap : fs.length ≤ 100000) :
    Calls Tryz.prog 76 #[c, .iface 189 (.pointer (some ⟨a, 0, none⟩)), .pointer (some ⟨n + 7, 0, none⟩), .pointer (some ⟨n, 0, none⟩), .pointer (some ⟨n + 1, 0, none⟩), .pointer (some ⟨n + 3, 0, none⟩), .pointer (some ⟨n + 5, 0, none⟩), .pointer (some ⟨n + 8, 0, none⟩), .pointer (some ⟨n + 4, 0, none⟩), .pointer (some ⟨n + 10, 0, none⟩), .pointer (some ⟨n + 9, 0, none⟩)] w (StmR lo H0 C A M0 n up lst gd rep labs fs bs varL nodes w) := by
  have hfc := h.fc
  have hH := h.hH
  have l7 : n + 7 < w.heap.size := (Array.getElem?_eq_some_iff.1 hfc.z7).1
  have c7 : ∀ o, w.cell? ⟨n + 7, o, none⟩ = _ := blk_cell hfc.z7
  have la := World.block_lt_of_cell? w _ h2
  have hlv := h.lv
  have HH := Lib.hid h
  have HL := Lib.hid hlv
  clear h hlv hfc
  go_enter Tryz.func76, Tryz.ntmps76
  go_wp2_with fail
  go_region_law (first | (go_simp; go_at_call 71; refine (recordVar_any n (fs.map Prod.fst) bs p _ (by exact HL.out.drew) (by omega) (by simpa using hcap) (by simp; omega)).mono ?_; rintro e w1 ⟨rfl, q1, q2⟩))
  all_goals
    go_wp2_with fail
    go_end0
    exact var_done HH.out q1 q2
set_option maxRecDepth 100000 in
set_option maxHeartbeats 4000000 in
theorem st_15 (lo H0 C A M0 n : Nat) (up : List BE) (lst cur : CUR) (gd : GD) (rep : Nat) (labs : List Int) (fs : List (Nat × Int)) (bs : List Nat) (a g : Nat) (p : Int) (c : Value) (nodes : List Nat) (w : World) (h : LSt lo H0 C A M0 n up lst gd rep labs fs bs w) (h0 : w.cell? ⟨a, 0, none⟩ = some (.iface 166 (.pointer (some ⟨g, 0, none⟩)))) (h2 : w.cell? ⟨g, 2, none⟩ = some (.int .i64 85)) (h1 : w.cell? ⟨g, 1, none⟩ = some (.int .i64 p)) (hp : 0 < p) (hcap : fs.length ≤ 100000) :
    Calls Tryz.prog 76 #[c, .iface 165 (.pointer (some ⟨a, 0, none⟩)), .pointer (some ⟨n + 7, 0, none⟩), .pointer (some ⟨n, 0, none⟩), .pointer (some ⟨n + 1, 0, none⟩), .pointer (some ⟨n + 3, 0, none⟩), .pointer (some ⟨n + 5, 0, none⟩), .pointer (some ⟨n + 8, 0, none⟩), .pointer (some ⟨n + 4, 0, none⟩), .pointer (some ⟨n + 10, 0, none⟩), .pointer (some ⟨n + 9, 0, none⟩)] w (StmR lo H0 C A M0 n up lst gd rep labs fs bs varL nodes w) := by
  have hfc := h.fc
  have hH := h.hH
  have l7 : n + 7 < w.heap.size := (Array.getElem?_eq_some_iff.1 hfc.z7).1
  have c7 : ∀ o, w.cell? ⟨n + 7, o, none⟩ = _ := blk_cell hfc.z7
  have la := World.block_lt_of_cell? w _ h0
  have lg := World.block_lt_of_cell? w _ h2
  have hlv := h.lv
  have HH := Lib.hid h
  have HL := Lib.hid hlv
  clear h hlv hfc
  go_enter Tryz.func76, Tryz.ntmps76
  go_wp2_with fail
  go_region_law (first | (go_simp; go_at_call 71; refine (recordVar_any n (fs.map Prod.fst) bs p _ (by exact HL.out.drew) (by omega) (by simpa using hcap) (by simp; omega)).mono ?_; rintro e w1 ⟨rfl, q1, q2⟩))
  all_goals
    go_wp2_with fail
    go_end0
    exact var_done HH.out q1 q2
set_option maxRecDepth 100000 in
set_option maxHeartbeats 4000000 in
theorem st_17 (n a g : Nat) (c : Value) (w : World) (h0 : w.cell? ⟨a, 0, none⟩ = some (.iface 166 (.pointer (some ⟨g, 0, none⟩)))) (h2 : w.cell? ⟨g, 2, none⟩ = some (.int .i64 64)) :
    Calls Tryz.prog 76 #[c, .iface 165 (.pointer (some ⟨a, 0, none⟩)), .pointer (some ⟨n + 7, 0, none⟩), .pointer (some ⟨n, 0, none⟩), .pointer (some ⟨n + 1, 0, none⟩), .pointer (some ⟨n + 3, 0, none⟩), .pointer (some ⟨n + 5, 0, none⟩), .pointer (some ⟨n + 8, 0, none⟩), .pointer (some ⟨n + 4, 0, none⟩), .pointer (some ⟨n + 10, 0, none⟩), .pointer (some ⟨n + 9, 0, none⟩)] w fun e w' => e = .returned (.tuple #[]) ∧ w' = w := by
  have la := World.block_lt_of_cell? w _ h0
  have lg := World.block_lt_of_cell? w _ h2
  go_enter Tryz.func76, Tryz.ntmps76
  go_wp2_with fail
  go_end0
  exact ⟨rfl, rfl⟩
set_option maxRecDepth 100000 in
set_option maxHeartbeats 4000000 in
theorem st_nolabel (n a : Nat) (c : Value) (w : World) (h2 : w.cell? ⟨a, 2, none⟩ = some (.pointer none)) :
    Calls Tryz.prog 76 #[c, .iface 95 (.pointer (some ⟨a, 0, none⟩)), .pointer (some ⟨n + 7, 0, none⟩), .pointer (some ⟨n, 0, none⟩), .pointer (some ⟨n + 1, 0, none⟩), .pointer (some ⟨n + 3, 0, none⟩), .pointer (some ⟨n + 5, 0, none⟩), .pointer (some ⟨n + 8, 0, none⟩), .pointer (some ⟨n + 4, 0, none⟩), .pointer (some ⟨n + 10, 0, none⟩), .pointer (some ⟨n + 9, 0, none⟩)] w fun e w' => e = .returned (.tuple #[]) ∧ w' = w := by
  have la := World.block_lt_of_cell? w _ h2
  go_enter Tryz.func76, Tryz.ntmps76
  go_wp2_with fail
  (try simp only [Exit.inBlock, Exit.then])
  refine bodyPost_ret (results_none rfl _ _ _) rfl ?_
  exact ⟨rfl, rfl⟩

end Go.Proofs.YtpodifbgfcclbaaGreatDoor

/- stmtBranches: jumps. -/
set_option linter.unusedVariables false
set_option linter.unusedSimpArgs false
namespace Go.Proofs.YtpodifbgfcclbaaGreatDoor
open Go.RowKit
attribute [local go_sem] Nat.lt_add_one_of_lt

theorem GSt.drewN {H0 C A M0 k : Nat} {gd : GD} {w : World} (h : GSt H0 C A M0 gd k w) (m : Nat) : GSt H0 C A M0 gd k (w.drewN m) := h.keep (Nat.le_refl _) fun _ _ => rfl
theorem GF.drewN {H0 M0 N : Nat} {a b : World} (h : GF H0 M0 N a b) (m : Nat) : GF H0 M0 N a (b.drewN m) := h.trans ⟨rfl, rfl, rfl, Nat.le_refl _, fun _ _ => rfl, fun _ _ _ => rfl⟩
theorem gotoL_in {gl : List Int} {l : Int} {s : JS} (h : (s.labs ++ gl).contains l = true) : gotoL gl l s = { s with ds := useL l s.ds } := by
  unfold gotoL; rw [h]; rfl
theorem gotoL_out {gl : List Int} {l : Int} {s : JS} (h : (s.labs ++ gl).contains l = false) : gotoL gl l s = { s with fwd := s.fwd ++ [(l, false)] } := by
  unfold gotoL; rw [h]; rfl
theorem lookG_of {gd : GD} {l : Int} (h : l ∈ keysG gd) : ∃ e ∈ gd, e.1 = l ∧ lookG gd l = .iface 108 (.pointer (some ⟨e.2.2, 0, none⟩)) := by
  obtain ⟨e, h1, h2, h3⟩ := find_key h
  exact ⟨e, h1, h2, by rw [lookG, h3]; rfl⟩
theorem use_done {lo H0 C A M0 n : Nat} {up : List BE} {lst : CUR} {gd : GD} {rep : Nat} {labs : List Int} {fs : List (Nat × Int)} {bs : List Nat} {nodes : List Nat} {w w' : World} (h : LSt lo H0 C A M0 n up lst gd rep labs fs bs w)
    {e : Int × Bool × Nat} (he : e ∈ gd) (hw : ∃ m, w' = (w.setCell ⟨e.2.2, 2, none⟩ (.bool true)).drewN m) {J : JS → JS} (hJ : J (jsOf gd rep labs fs bs) = { jsOf gd rep labs fs bs with ds := useL e.1 (jsOf gd rep labs fs bs).ds }) : StmR lo H0 C A M0 n up lst gd rep labs fs bs J nodes w (.returned (.tuple #[])) w' := by
  obtain ⟨m, rfl⟩ := hw
  have hk : keysG (useG e.1 gd) = keysG gd := useG_map _ _ _ fun _ _ _ _ => rfl
  have h1 := h.nested ((h.g.used he).drewN m) ((h.g.used_gf he).drewN m) (by intro l hl; show l ∈ keysG (useG e.1 gd); rw [hk]; exact hl)
  have hl0 : n < w.heap.size := (Array.getElem?_eq_some_iff.1 h.fc.z0).1
  refine ⟨rfl, useG e.1 gd, rep, labs, fs, bs, h1, ((h.g.used_gf (N := w.heap.size) he).drewN m).mono (by omega), fun l hl => by rw [hk]; exact hl, fun a ha => by rcases ha with ha | ha <;> simp [ha], ?_⟩
  rw [hJ]
  simp only [jsOf, useG_ds]
theorem add_done {lo H0 C A M0 n : Nat} {up : List BE} {lst : CUR} {gd : GD} {rep : Nat} {labs : List Int} {fs : List (Nat × Int)} {bs : List Nat} {w w0 w1 : World} {vf v' : Value} {a : Nat} {l : Int} (h : LSt lo H0 C A M0 n up lst gd rep labs fs bs w) (hgt : GT w lo H0 a l) (hb : ¬ a ∈ bs) (hw0 : w0 = w.alloc (.cells #[.pointer (some ⟨a, 0, none⟩)] 95))
    (h5 : w.heap[n + 5]? = some (.cells #[vf] 93)) (ho : w1.ownsRow n 95 1 v' (fs.length + 1) (ptrs (fs.map Prod.fst) ++ [.pointer (some ⟨a, 0, none⟩)])) (hg : w0.grownBy w1 vf.ownBlock) (ha : v'.ownBlock = vf.ownBlock ∨ v'.ownBlock = some w0.heap.size)
    {J : JS → JS} (hJ : J (jsOf gd rep labs fs bs) = { jsOf gd rep labs fs bs with fwd := (jsOf gd rep labs fs bs).fwd ++ [(l, false)] }) : StmR lo H0 C A M0 n up lst gd rep labs fs bs J [a] w (.returned (.tuple #[])) (w1.setCell ⟨n + 5, 0, none⟩ v') := by
  subst hw0
  obtain ⟨p0, vf', vb, r4, rp, r5, rf, r6, rb, rd⟩ := h.lv
  rw [h5] at r5
  cases r5
  have hl5 : n + 5 < w.heap.size := (Array.getElem?_eq_some_iff.1 h5).1
  have al : ∀ {j : Nat} {o : Obj}, w.heap[j]? = some o → (w.alloc (.cells #[.pointer (some ⟨a, 0, none⟩)] 95)).heap[j]? = some o := fun hj => (Below.heap_alloc _ _ _ (Array.getElem?_eq_some_iff.1 hj).1).trans hj
  have hlv := LV.app (fs2 := [a]) (by simp; omega) (al r4) rp (al h5) (rf.alloc _) (al r6) (rb.alloc _) rd (by simpa [ptrs] using ho) hg ha
  have hv : VF n w (w1.setCell ⟨n + 5, 0, none⟩ v') := ⟨hg.os, hg.tape, hg.output, by have := hg.size; simp at this ⊢; omega, fun j j1 j2 j3 j4 j5 => (hlv.2 j (by simp; omega) j3 fun e => by
    obtain ⟨b1, _, cs, b2⟩ := row_blk rf e.symm
    exact j5 b1 cs _ b2).trans (Below.heap_alloc _ _ _ j1)⟩
  have hown := h.own hv (fs' := fs ++ [(a, l)]) (by simpa using hlv.1) (fun x hx => by
    rcases List.mem_append.1 hx with hx | hx
    · exact h.gt x hx
    · simp at hx; subst hx; exact hgt) h.gb
  refine ⟨rfl, gd, rep, labs, fs ++ [(a, l)], bs, hown.1, hown.2, fun _ h => h, fun x hx => ?_, ?_⟩
  · rcases hx with hx | hx
    · simp at hx ⊢
      rcases hx with hx | rfl
      · exact .inl hx
      · exact .inr (.inr rfl)
    · exact .inr (.inl hx)
  · rw [hJ]
    have : hasN bs a = false := by
      rw [hasN, Bool.eq_false_iff]
      intro hh
      exact hb (List.contains_iff_mem.1 hh)
    simp [jsOf, this]

set_option maxRecDepth 100000 in
set_option maxHeartbeats 4000000 in
theorem st_goto_back (lo H0 C A M0 n : Nat) (up : List BE) (lst cur : CUR) (gd : GD) (rep : Nat) (labs : List Int) (fs : List (Nat × Int)) (bs : List Nat) (a : Nat) (l : Int) (c : Value) (w : World) (h : LSt lo H0 C A M0 n up lst gd rep labs fs bs w) (hgt : GT w lo H0 a l) (h1 : w.cell? ⟨a, 1, none⟩ = some (.int .i64 73)) (hfresh : ¬ a ∈ bs) (hcap : fs.length ≤ 100000) (hin : (labs ++ glB up).contains l = true) :
    Calls Tryz.prog 76 #[c, .iface 95 (.pointer (some ⟨a, 0, none⟩)), .pointer (some ⟨n + 7, 0, none⟩), .pointer (some ⟨n, 0, none⟩), .pointer (some ⟨n + 1, 0, none⟩), .pointer (some ⟨n + 3, 0, none⟩), .pointer (some ⟨n + 5, 0, none⟩), .pointer (some ⟨n + 8, 0, none⟩), .pointer (some ⟨n + 4, 0, none⟩), .pointer (some ⟨n + 10, 0, none⟩), .pointer (some ⟨n + 9, 0, none⟩)] w (StmR lo H0 C A M0 n up lst gd rep labs fs bs (gotoL (glB up) l) [a] w) := by
  have hfc := h.fc
  have hH := h.hH
  have l3 : n + 3 < w.heap.size := (Array.getElem?_eq_some_iff.1 hfc.z3).1
  have c3 : ∀ o, w.cell? ⟨n + 3, o, none⟩ = _ := blk_cell hfc.z3
  have l0 : n < w.heap.size := (Array.getElem?_eq_some_iff.1 hfc.z0).1
  have c0 : ∀ o, w.cell? ⟨n, o, none⟩ = _ := blk_cell hfc.z0
  have l1 : n + 1 < w.heap.size := (Array.getElem?_eq_some_iff.1 hfc.z1).1
  have c1 : ∀ o, w.cell? ⟨n + 1, o, none⟩ = _ := blk_cell hfc.z1
  have HGT := Lib.hid hgt
  obtain ⟨g1, g2, g3, ⟨k1, k2, k3⟩, g5⟩ := hgt
  rw [if_neg g5] at k3
  obtain ⟨i, q, i1, i2, i3, i4, i5⟩ := k3
  have la : a < w.heap.size := by omega
  have li : i < w.heap.size := by omega
  have hch := h.chain
  obtain ⟨p0, vf, vb, _, _, h5, hrow, _, _, _⟩ := h.lv
  have l5 : n + 5 < w.heap.size := (Array.getElem?_eq_some_iff.1 h5).1
  have c5 : ∀ o, w.cell? ⟨n + 5, o, none⟩ = _ := blk_cell h5
  have f5 : ∀ o, w.frozen? ⟨n + 5, o, none⟩ = false := blk_frz h5
  have hgl : glB (⟨n + 2, labs, lst⟩ :: up) = labs ++ glB up := by simp [glB]
  have hgst := h.g
  obtain ⟨af, capf, rfl, _, _⟩ := row_form hrow
  have hml : (fs.map Prod.fst).length = fs.length := List.length_map _
  rw [hml] at hrow h5
  have c5 : ∀ o, w.cell? ⟨n + 5, o, none⟩ = #[Value.slice af fs.length capf][o]? := blk_cell h5
  have hne5 : some (n + 5) ≠ (Value.slice af fs.length capf).ownBlock := fun e => by
    obtain ⟨_, _, cs', h3⟩ := row_blk hrow e.symm
    rw [h5] at h3; cases h3
  have HH := Lib.hid h
  have HC := Lib.hid hch
  have HG := Lib.hid hgst
  have H5 := Lib.hid h5
  have HR := Lib.hid hrow
  have HF := Lib.hid hfresh
  clear h hch hgst h5 hrow hfc hfresh
  go_enter Tryz.func76, Tryz.ntmps76
  go_wp2_with fail
  refine (gotoTarget_any lo H0 M0 w.heap.size (⟨n + 2, labs, lst⟩ :: up) l w HC.out k1 k2).mono ?_
  rintro e w1 ⟨⟨x, rfl, hx⟩, hw1⟩
  rw [hw1]
  have HIN := Lib.hid hin
  rw [hgl, hin] at hx
  clear hin
  obtain ⟨xa, rfl⟩ := Option.isSome_iff_exists.1 hx
  clear hx
  go_wp2_with fail
  refine (Lookup_any H0 C A M0 rep gd l w HG.out k1 k2).mono ?_
  rintro e w2 ⟨rfl, hw2⟩
  have hmem : l ∈ keysG gd := by
    have := HIN.out
    rw [List.contains_iff_mem, List.mem_append] at this
    exact this.elim (HH.out.sl l) (HH.out.sg l)
  obtain ⟨e, he, he1, hlk⟩ := lookG_of hmem
  rw [hw2, hlk]
  obtain ⟨hL0, _, _, pL, hL⟩ := HG.out.lab e he
  have lL : e.2.2 < w.heap.size := (Array.getElem?_eq_some_iff.1 hL).1
  have cL : ∀ o, w.cell? ⟨e.2.2, o, none⟩ = _ := blk_cell hL
  have fL : ∀ o, w.frozen? ⟨e.2.2, o, none⟩ = false := blk_frz hL
  have nL0 : e.2.2 ≠ n := by rintro rfl; rw [HH.out.fc.z0] at hL; cases hL
  have nLa : e.2.2 ≠ a := by omega
  have nL0' : n ≠ e.2.2 := fun h => nL0 h.symm
  have nLa' : a ≠ e.2.2 := fun h => nLa h.symm
  have d0 : (w.setCell ⟨e.2.2, 2, none⟩ (.bool true)).cell? ⟨n, 0, none⟩ = some (.pointer (some ⟨C, 0, none⟩)) := (sc_other (.inl nL0)).trans (c0 0)
  have da : (w.setCell ⟨e.2.2, 2, none⟩ (.bool true)).cell? ⟨a, 2, none⟩ = some (.pointer (some ⟨i, 0, none⟩)) := (sc_other (.inl nLa)).trans i3
  clear hL hlk hmem
  go_wp2_with fail
  go_quiet ((go_at_call 85; exact Calls.quiet_of_same (recordUse_any _ _ _ _)))
  go_wp2_with fail
  go_end0
  refine use_done HH.out he ⟨nq, rfl⟩ ?_
  rw [he1]
  exact gotoL_in HIN.out

set_option maxRecDepth 100000 in
set_option maxHeartbeats 4000000 in
theorem st_goto_ahead (lo H0 C A M0 n : Nat) (up : List BE) (lst cur : CUR) (gd : GD) (rep : Nat) (labs : List Int) (fs : List (Nat × Int)) (bs : List Nat) (a : Nat) (l : Int) (c : Value) (w : World) (h : LSt lo H0 C A M0 n up lst gd rep labs fs bs w) (hgt : GT w lo H0 a l) (h1 : w.cell? ⟨a, 1, none⟩ = some (.int .i64 73)) (hfresh : ¬ a ∈ bs) (hcap : fs.length ≤ 100000) (hin : (labs ++ glB up).contains l = false) :
    Calls Tryz.prog 76 #[c, .iface 95 (.pointer (some ⟨a, 0, none⟩)), .pointer (some ⟨n + 7, 0, none⟩), .pointer (some ⟨n, 0, none⟩), .pointer (some ⟨n + 1, 0, none⟩), .pointer (some ⟨n + 3, 0, none⟩), .pointer (some ⟨n + 5, 0, none⟩), .pointer (some ⟨n + 8, 0, none⟩), .pointer (some ⟨n + 4, 0, none⟩), .pointer (some ⟨n + 10, 0, none⟩), .pointer (some ⟨n + 9, 0, none⟩)] w (StmR lo H0 C A M0 n up lst gd rep labs fs bs (gotoL (glB up) l) [a] w) := by
  have hfc := h.fc
  have hH := h.hH
  have l3 : n + 3 < w.heap.size := (Array.getElem?_eq_some_iff.1 hfc.z3).1
  have c3 : ∀ o, w.cell? ⟨n + 3, o, none⟩ = _ := blk_cell hfc.z3
  have l0 : n < w.heap.size := (Array.getElem?_eq_some_iff.1 hfc.z0).1
  have c0 : ∀ o, w.cell? ⟨n, o, none⟩ = _ := blk_cell hfc.z0
  have l1 : n + 1 < w.heap.size := (Array.getElem?_eq_some_iff.1 hfc.z1).1
  have c1 : ∀ o, w.cell? ⟨n + 1, o, none⟩ = _ := blk_cell hfc.z1
  have HGT := Lib.hid hgt
  obtain ⟨g1, g2, g3, ⟨k1, k2, k3⟩, g5⟩ := hgt
  rw [if_neg g5] at k3
  obtain ⟨i, q, i1, i2, i3, i4, i5⟩ := k3
  have la : a < w.heap.size := by omega
  have li : i < w.heap.size := by omega
  have hch := h.chain
  obtain ⟨p0, vf, vb, _, _, h5, hrow, _, _, _⟩ := h.lv
  have l5 : n + 5 < w.heap.size := (Array.getElem?_eq_some_iff.1 h5).1
  have c5 : ∀ o, w.cell? ⟨n + 5, o, none⟩ = _ := blk_cell h5
  have f5 : ∀ o, w.frozen? ⟨n + 5, o, none⟩ = false := blk_frz h5
  have hgl : glB (⟨n + 2, labs, lst⟩ :: up) = labs ++ glB up := by simp [glB]
  have hgst := h.g
  obtain ⟨af, capf, rfl, _, _⟩ := row_form hrow
  have hml : (fs.map Prod.fst).length = fs.length := List.length_map _
  rw [hml] at hrow h5
  have c5 : ∀ o, w.cell? ⟨n + 5, o, none⟩ = #[Value.slice af fs.length capf][o]? := blk_cell h5
  have hne5 : some (n + 5) ≠ (Value.slice af fs.length capf).ownBlock := fun e => by
    obtain ⟨_, _, cs', h3⟩ := row_blk hrow e.symm
    rw [h5] at h3; cases h3
  have HH := Lib.hid h
  have HC := Lib.hid hch
  have HG := Lib.hid hgst
  have H5 := Lib.hid h5
  have HR := Lib.hid hrow
  have HF := Lib.hid hfresh
  clear h hch hgst h5 hrow hfc hfresh
  go_enter Tryz.func76, Tryz.ntmps76
  go_wp2_with fail
  refine (gotoTarget_any lo H0 M0 w.heap.size (⟨n + 2, labs, lst⟩ :: up) l w HC.out k1 k2).mono ?_
  rintro e w1 ⟨⟨x, rfl, hx⟩, hw1⟩
  rw [hw1]
  have HIN := Lib.hid hin
  rw [hgl, hin] at hx
  clear hin
  obtain rfl := Option.isSome_eq_false_iff.1 hx |> Option.isNone_iff_eq_none.1
  clear hx
  obtain ⟨j, hj, hz, hz1, hz2⟩ := info95
  go_wp2_with (at_builtin; refine wpList_append_lies _ rfl _ _ 93 rfl n 95 j (.pointer none) 1 8 und93 hj hz hz1 hz2 rfl (by decide) (.slice af fs.length capf) fs.length (ptrs (fs.map Prod.fst)) (by rfl) (HR.out.alloc _) ⟨w.heap.size, 0, none⟩ 1 1 [.pointer (some ⟨a, 0, none⟩)] (by rfl) rfl ?c1 ?c2 (by omega) ?c3 ?c4 ?c5 (w.heap.size + 1) (by simp) ?_)
  case c1 => exact World.news_of_block (heap_alloc_new w _)
  case c2 => intro u hu; simp at hu; subst hu; rfl
  case c3 => unfold maxLen; omega
  case c4 => omega
  case c5 => simp; omega
  intro g cap3 w3 hown3 hg3 hat3 hlt3
  have hc5 : w3.cell? ⟨n + 5, 0, none⟩ = some (.slice af fs.length capf) := (hg3.cell_far ⟨n + 5, 0, none⟩ (by simp; omega) hne5).trans ((World.cell?_alloc_past _ _ _ l5).trans (c5 0))
  have hf5 : w3.frozen? ⟨n + 5, 0, none⟩ = false := (hg3.frozen_far ⟨n + 5, 0, none⟩ (by simp; omega) hne5).trans ((World.frozen?_alloc_past _ _ _ l5).trans (f5 0))
  have HO := Lib.hid hown3
  have HG3 := Lib.hid hg3
  have HA := Lib.hid hat3
  clear hown3 hg3 hat3
  go_wp2_with fail
  (try simp only [Exit.inBlock, Exit.then])
  refine bodyPost_ret (results_none rfl _ _ _) rfl ?_
  refine add_done HH.out HGT.out HF.out rfl H5.out HO.out HG3.out ?_ ?_
  · rcases HA.out with e | e
    · exact .inl e.symm
    · right; rw [e]; simp [Value.ownBlock]
  · exact gotoL_out HIN.out

end Go.Proofs.YtpodifbgfcclbaaGreatDoor
