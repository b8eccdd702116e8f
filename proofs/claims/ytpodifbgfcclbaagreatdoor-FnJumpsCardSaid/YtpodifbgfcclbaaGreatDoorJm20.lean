/- stmtBranches: a label. -/
import Derived.Test.YtpodifbgfcclbaaGreatDoorJm18
set_option linter.unusedVariables false
set_option linter.unusedSimpArgs false
namespace Go.Proofs.YtpodifbgfcclbaaGreatDoor
open Go.RowKit
attribute [local go_sem] Nat.lt_add_one_of_lt

theorem f72a : Tryz.prog.cellsOf 72 = 2 := by kernel_rfl
theorem f72b : byteOfCell Tryz.prog Tryz.prog.depth 72 0 = some 0 := by kernel_rfl
theorem f72c : Tryz.prog.bytesOf 72 = 40 := by kernel_rfl
/-- The address of the checker's last field, which takes no room. -/
theorem part72 (C : Nat) (w : World) (h : w.shape? C = some (72, 2)) : Sem.run Tryz.prog (partAt ⟨C, 0, none⟩ 2 32) w = .ok ⟨C, 2, some 32⟩ w := by
  have hv : Sem.run Tryz.prog (viewAt C) w = .ok none w := by
    simp [viewAt, shape, Sem.run_bind, Sem.run, h, Result.andThen, pure]
  have h0 : Sem.run Tryz.prog (byteOf ⟨C, 0, none⟩) w = .ok 0 w := by
    simp [byteOf, noView, shape, program, Sem.run_bind, Sem.run, Result.andThen, h, f72a, f72b, hv]
  have h1 : Sem.run Tryz.prog (byteOf ⟨C, 2, none⟩) w = .ok 40 w := by
    simp [byteOf, noView, shape, program, Sem.run_bind, Sem.run, Result.andThen, h, f72a, f72b, f72c, hv]
  simp [partAt, Sem.run_bind, h0, h1, Result.andThen]

set_option maxRecDepth 100000 in
set_option maxHeartbeats 8000000 in
theorem lab_new (lo H0 C A M0 n : Nat) (up : List BE) (lst cur : CUR) (gd : GD) (rep : Nat) (labs : List Int) (fs : List (Nat × Int)) (bs : List Nat) (a i : Nat) (l q : Int) (v' : Value) (J : JS → JS) (nodes : List Nat) (cnt : Nat) (w : World) (h : LSt lo H0 C A M0 n up lst gd rep labs fs bs w)
    (g1 : lo ≤ a) (g2 : a < H0) (j1 : lo ≤ i) (j2 : i < H0) (k1 : 1 ≤ l) (k2 : l ≤ 9) (i3 : w.cell? ⟨a, 0, none⟩ = some (.pointer (some ⟨i, 0, none⟩))) (i4 : w.cell? ⟨i, 0, none⟩ = some (.int .i64 q)) (i5 : w.cell? ⟨i, 1, none⟩ = some (.string (nm l))) (i6 : w.cell? ⟨a, 2, none⟩ = some v')
    (hcap : fs.length + rep + 1 ≤ 100000) (hkey : ¬ l ∈ keysG gd)
    (hin : ∀ (gd' : GD) (rep' : Nat) (labs' : List Int) (fs' : List (Nat × Int)) (w' : World), LSt lo H0 C A M0 n up lst gd' rep' labs' fs' bs w' → GF H0 M0 n w w' → (∀ k ∈ keysG gd, k ∈ keysG gd') → l ∈ keysG gd' → (∀ x ∈ fs', x ∈ fs) → jsOf gd' rep' labs' fs' bs = declL l (jsOf gd rep labs fs bs) → Calls Tryz.prog 76 #[.pointer (some ⟨a, 0, none⟩), v', .pointer (some ⟨n + 7, 0, none⟩), .pointer (some ⟨n, 0, none⟩), .pointer (some ⟨n + 1, 0, none⟩), .pointer (some ⟨n + 3, 0, none⟩), .pointer (some ⟨n + 5, 0, none⟩), .pointer (some ⟨n + 8, 0, none⟩), .pointer (some ⟨n + 4, 0, none⟩), .pointer (some ⟨n + 10, 0, none⟩), .pointer (some ⟨n + 9, 0, none⟩)] w' (StmR lo H0 C A M0 n up lst gd' rep' labs' fs' bs J nodes w')) :
    Calls Tryz.prog 76 #[ptr (cur.map fun x => x.1), .iface 156 (.pointer (some ⟨a, 0, none⟩)), .pointer (some ⟨n + 7, 0, none⟩), .pointer (some ⟨n, 0, none⟩), .pointer (some ⟨n + 1, 0, none⟩), .pointer (some ⟨n + 3, 0, none⟩), .pointer (some ⟨n + 5, 0, none⟩), .pointer (some ⟨n + 8, 0, none⟩), .pointer (some ⟨n + 4, 0, none⟩), .pointer (some ⟨n + 10, 0, none⟩), .pointer (some ⟨n + 9, 0, none⟩)] w (StmR lo H0 C A M0 n up lst gd rep labs fs bs (fun s => J (declL l s)) nodes w) := by
  have hfc := h.fc
  have hH := h.hH
  have hlt := h.lt
  have l0 : n < w.heap.size := by omega
  have c0 : ∀ o, w.cell? ⟨n, o, none⟩ = _ := blk_cell hfc.z0
  have l1 : n + 1 < w.heap.size := by omega
  have c1 : ∀ o, w.cell? ⟨n + 1, o, none⟩ = _ := blk_cell hfc.z1
  have la : a < w.heap.size := by omega
  have li : i < w.heap.size := by omega
  obtain ⟨hCH, vC, xsC, hC, _⟩ := h.g.chk
  have lC : C < w.heap.size := (Array.getElem?_eq_some_iff.1 hC).1
  have cC : ∀ o, w.cell? ⟨C, o, none⟩ = _ := blk_cell hC
  have hne : ((nm l).toList == [95]) = false := by
    have := nm_eq k1 k2 (b := -1) (by omega) (by omega)
    rw [show (nm (-1)).toList = [95] by decide +kernel] at this
    rw [this]
    simp; omega
  have hpt := part72 C w.drew (by have : w.drew.heap[C]? = _ := hC; simp only [World.shape?, this]; rfl)
  have hce : (((w.alloc (.cells #[] 70)).alloc (.cells #[.int .i64 q, .string (nm l), .bool false] 107)).drew).cell? ⟨n, 0, none⟩ = some (.pointer (some ⟨C, 0, none⟩)) ∧ (((w.alloc (.cells #[] 70)).alloc (.cells #[.int .i64 q, .string (nm l), .bool false] 107)).drew).cell? ⟨a, 0, none⟩ = some (.pointer (some ⟨i, 0, none⟩)) ∧ (((w.alloc (.cells #[] 70)).alloc (.cells #[.int .i64 q, .string (nm l), .bool false] 107)).drew).cell? ⟨i, 0, none⟩ = some (.int .i64 q) ∧ Sem.run Tryz.prog (partAt ⟨C, 0, none⟩ 2 32) (((w.alloc (.cells #[] 70)).alloc (.cells #[.int .i64 q, .string (nm l), .bool false] 107)).drew) = .ok ⟨C, 2, some 32⟩ (((w.alloc (.cells #[] 70)).alloc (.cells #[.int .i64 q, .string (nm l), .bool false] 107)).drew) := by
    have hp : ∀ (b o : Nat), b < w.heap.size → (((w.alloc (.cells #[] 70)).alloc (.cells #[.int .i64 q, .string (nm l), .bool false] 107)).drew).cell? ⟨b, o, none⟩ = w.cell? ⟨b, o, none⟩ := fun b o hb => World.cell?_of_block (w := w) ((Below.heap_alloc _ _ _ (by simp; omega)).trans (Below.heap_alloc _ _ _ hb))
    refine ⟨(hp _ _ l0).trans (c0 0), (hp _ _ la).trans i3, (hp _ _ li).trans i4, part72 C _ ?_⟩
    have : (((w.alloc (.cells #[] 70)).alloc (.cells #[.int .i64 q, .string (nm l), .bool false] 107)).drew).heap[C]? = _ := ((Below.heap_alloc _ _ _ (by simp; omega)).trans (Below.heap_alloc _ _ _ lC)).trans hC
    simp only [World.shape?, this]; rfl
  have HCE := Lib.hid hce
  clear hce
  have HH := Lib.hid h
  have HIN := Lib.hid hin
  clear h hin hfc hC
  go_enter Tryz.func76, Tryz.ntmps76
  go_wp2_with fail
  go_region_held3 (fun w' => w'.cell? ⟨n, 0, none⟩ = some (.pointer (some ⟨C, 0, none⟩)) ∧ w'.cell? ⟨a, 0, none⟩ = some (.pointer (some ⟨i, 0, none⟩)) ∧ w'.cell? ⟨i, 0, none⟩ = some (.int .i64 q) ∧ Sem.run Tryz.prog (partAt ⟨C, 0, none⟩ 2 32) w' = .ok ⟨C, 2, some 32⟩ w') (first | exact hcE | go_keep)
    (first
      | (go_at_call 60; refine (identPos_any i q _ (by exact i4)).mono ?_; rintro e _ ⟨rfl, rfl⟩)
      | (go_at_call 77; refine (newLabel_any q (nm l) _).mono ?_; rintro e w2 ⟨rfl, hw2⟩; have hcE : (((w.alloc (.cells #[] 70)).alloc (.cells #[.int .i64 q, .string (nm l), .bool false] 107)).drew).cell? ⟨n, 0, none⟩ = some (.pointer (some ⟨C, 0, none⟩)) ∧ (((w.alloc (.cells #[] 70)).alloc (.cells #[.int .i64 q, .string (nm l), .bool false] 107)).drew).cell? ⟨a, 0, none⟩ = some (.pointer (some ⟨i, 0, none⟩)) ∧ (((w.alloc (.cells #[] 70)).alloc (.cells #[.int .i64 q, .string (nm l), .bool false] 107)).drew).cell? ⟨i, 0, none⟩ = some (.int .i64 q) ∧ Sem.run Tryz.prog (partAt ⟨C, 0, none⟩ 2 32) (((w.alloc (.cells #[] 70)).alloc (.cells #[.int .i64 q, .string (nm l), .bool false] 107)).drew) = .ok ⟨C, 2, some 32⟩ (((w.alloc (.cells #[] 70)).alloc (.cells #[.int .i64 q, .string (nm l), .bool false] 107)).drew) := HCE.out))
  all_goals
    obtain ⟨w1, hw1⟩ : ∃ w1, w1 = ((w.alloc (.cells #[] 70)).alloc (.cells #[.int .i64 q, .string (nm l), .bool false] 107)).drew := ⟨_, rfl⟩
    rw [← hw1]
    have h1 : LSt lo H0 C A M0 n up lst gd rep labs fs bs w1 := by rw [hw1]; exact ((HH.out.alloc _).alloc _).drew'
    have gf1 : GF H0 M0 n w w1 := by rw [hw1]; exact (((GF.refl _ _ _ w).alloc (by omega) (by omega) _).alloc (by simp; omega) (by simp; omega) _).drew
    have sz1 : w1.heap.size = w.heap.size + 2 := by rw [hw1]; simp
    have hL1 : w1.heap[w.heap.size + 1]? = some (.cells #[.int .i64 q, .string (nm l), .bool false] 107) := by
      rw [hw1]
      have := blk_new (w.alloc (.cells #[] 70)) #[.int .i64 q, .string (nm l), .bool false] 107
      rw [show (w.alloc (.cells #[] 70)).heap.size = w.heap.size + 1 by simp] at this
      exact this
    clear hw1
    have hfc1 := h1.fc
    have hlt1 := h1.lt
    have m1 : n + 1 < w1.heap.size := by omega
    have d1 : ∀ o, w1.cell? ⟨n + 1, o, none⟩ = _ := blk_cell hfc1.z1
    have hg1 := h1.g
    have H1 := Lib.hid h1
    have GF1 := Lib.hid gf1
    have HL1 := Lib.hid hL1
    clear h1 hfc1 gf1 hL1
    go_wp2_with fail
    refine (Insert_new H0 C A M0 rep (w.heap.size + 1) gd l q w1 hg1 k1 k2 HL1.out hkey (HH.out.g.fresh (by omega)) (by omega)).mono ?_
    rintro e w2 ⟨rfl, r1, r2, r3⟩
    have h2 : LSt lo H0 C A M0 n up lst (gd ++ [(l, false, w.heap.size + 1)]) rep labs fs bs w2 := H1.out.nested r1 r3 (fun k hk => by rw [List.map_append]; exact List.mem_append_left _ hk)
    have gf2 : GF H0 M0 n w w2 := GF1.out.trans (r3.mono (by omega))
    have hlt2 := h2.lt
    have sz2 : w1.heap.size ≤ w2.heap.size := r3.size
    have m3 : n + 3 < w2.heap.size := by omega
    have d3 : ∀ o, w2.cell? ⟨n + 3, o, none⟩ = _ := blk_cell h2.fc.z3
    have e3 : w2.cell? ⟨a, 0, none⟩ = _ := (World.cell?_of_block (w := w) (gf2.low a g2)).trans i3
    have e5 : w2.cell? ⟨i, 1, none⟩ = _ := (World.cell?_of_block (w := w) (gf2.low i j2)).trans i5
    obtain ⟨lm, hme, hlm⟩ := h2.me
    have hMl : M0 < w2.heap.size := r1.map.lt
    have hnl : ¬ l ∈ labs := fun hh => hkey (HH.out.sl l hh)
    have H2 := Lib.hid h2
    have GF2 := Lib.hid gf2
    have HME := Lib.hid hme
    have HLM := Lib.hid hlm
    have HL2 := Lib.hid r2
    clear h2 gf2 hme hlm r1 r2 r3 d1 hg1
    go_wp2_with fail
    refine (binsert_any n M0 (n + 2) a i _ _ lm labs l w2 HME.out HLM.out k1 k2 hnl e3 e5 (by omega) hMl).mono ?_
    rintro e w3 ⟨rfl, s1, s2, s3, s4, s5, s6⟩
    obtain ⟨h3, gf3⟩ := H2.out.put (by simp [keysG]) HME.out HLM.out s1 s2 s3 s4 s5 s6
    have hL3 : w3.heap[w.heap.size + 1]? = some (.cells #[.int .i64 q, .string (nm l), .bool false] 107) := (s6 _ (Array.getElem?_eq_some_iff.1 HL2.out).1 (by omega) (fun e => by
      have hlm2 := HLM.out.2
      rw [← e] at hlm2
      obtain ⟨_, _, _, _, _, es, clk, hm, _⟩ := hlm2
      rw [HL2.out] at hm; cases hm)).trans HL2.out
    have gf3' : GF H0 M0 n w w3 := GF2.out.trans gf3
    have hlt3 := h3.lt
    have m0 : n < w3.heap.size := by omega
    have d0 : ∀ o, w3.cell? ⟨n, o, none⟩ = _ := blk_cell h3.fc.z0
    have la3 : a < w3.heap.size := by omega
    have f3 : w3.cell? ⟨a, 0, none⟩ = _ := (World.cell?_of_block (w := w) (gf3'.low a g2)).trans i3
    have hlab : LabI H0 (w.heap.size + 1) l q false (gd ++ [(l, false, w.heap.size + 1)]) (gd ++ [(l, false, w.heap.size + 1)]) false w3 := ⟨by omega, ⟨false, hL3⟩, rfl, false, by simp⟩
    have H3 := Lib.hid h3
    have GF3 := Lib.hid gf3'
    have HLAB := Lib.hid hlab
    clear h3 gf3 gf3' hlab hL3 s1 s2 s3 s4 s5 s6 d3 e3 e5 hMl
    go_wp2_with fail
    go_quiet ((go_at_call 84; exact Calls.quiet_of_same (recordDef_any _ _ _ _)))
    all_goals
      obtain ⟨w4, hw4⟩ : ∃ w4, w4 = w3.drewN nq := ⟨_, rfl⟩
      rw [← hw4]
      have h4 : LSt lo H0 C A M0 n up lst (gd ++ [(l, false, w.heap.size + 1)]) rep (labs ++ [l]) fs bs w4 := by rw [hw4]; exact H3.out.nested (H3.out.g.drewN nq) ((GF.refl _ _ _ w3).drewN nq) (fun _ h => h)
      have gf4 : GF H0 M0 n w w4 := by rw [hw4]; exact GF3.out.drewN nq
      have hlab4 : LabI H0 (w.heap.size + 1) l q false (gd ++ [(l, false, w.heap.size + 1)]) (gd ++ [(l, false, w.heap.size + 1)]) false w4 := by rw [hw4]; exact HLAB.out.keep fun _ _ => rfl
      clear hw4
      obtain ⟨p00, vf0, vb0, _, _, r5, rf, _⟩ := h4.lv
      obtain ⟨af, capf, rfl, hcf1, hcf2⟩ := row_form rf
      rw [List.length_map] at r5 rf hcf1
      have c5 : ∀ o, w4.cell? ⟨n + 5, o, none⟩ = _ := blk_cell r5
      have hlt4 := h4.lt
      have m5 : n + 5 < w4.heap.size := by omega
      have hst := LbI.start h4 hlab4 r5
      have HST := Lib.hid hst
      have GF4 := Lib.hid gf4
      clear hst h4 hlab4 r5 rf gf4
      go_wp2_with fail
      go_loopg [21, 124] fs.length (fun g v21 v124 wr => ∃ k : Nat, k + g = fs.length ∧ v124 = .int .i64 k ∧ v21 = .int .i64 ((keptF l fs k).length : Nat) ∧ LbI lo H0 C A M0 n up lst (gd ++ [(l, false, w.heap.size + 1)]) rep (labs ++ [l]) fs bs (w.heap.size + 1) l q false (.slice af fs.length capf) w4 k wr)
      case atStart => exact ⟨0, by omega, rfl, by simp [keptF], HST.out⟩
      case round =>
        obtain ⟨k, hk, rfl, rfl, hI⟩ := hrel
        have HI := Lib.hid hI
        clear hI
        by_cases hlt : k < fs.length
        · obtain ⟨g, x, ii, qq, haf, hx, t1, t2, ⟨tv, t3⟩, t4, t5, t6, t7, t8, t9, t10, t11, t12, t13⟩ := HI.out.read hlt
          subst haf
          have hkI : (k : Int) < (fs.length : Int) := by omega
          have hk0 : (0 : Int) ≤ (k : Int) := by omega
          have hszr : w4.heap.size ≤ wr.heap.size := HI.out.gf.size
          have hnm := nm_eq k1 k2 t10 t11
          have hnm2 : ((nm x.2).toList == (nm l).toList) = decide (l = x.2) := by rw [← hnm, Bool.beq_comm]
          clear hnm
          have lx : x.1 < wr.heap.size := by omega
          have lii : ii < wr.heap.size := by omega
          have HX := Lib.hid hx
          have HT := Lib.hid t13
          have HO := Lib.hid t12
          clear hx t13 t12
          obtain ⟨gdk, hs, hl, hkk⟩ := HI.out.ex
          have hs0 := hs.fc
          obtain ⟨hL0, ⟨u, hL⟩, _⟩ := hl
          have lL : w.heap.size + 1 < wr.heap.size := (Array.getElem?_eq_some_iff.1 hL).1
          have HS := Lib.hid hs
          have HFC := Lib.hid hs0
          clear hs hs0 hkk
          by_cases hxl : l = x.2
          · rw [decide_eq_true hxl] at hnm2
            have HXL := Lib.hid hxl
            clear hxl
            have cL : ∀ o, wr.cell? ⟨w.heap.size + 1, o, none⟩ = _ := blk_cell hL
            have fL : ∀ o, wr.frozen? ⟨w.heap.size + 1, o, none⟩ = false := blk_frz hL
            have HL := Lib.hid hL
            clear hL
            go_wp2_with fail
            obtain ⟨w5, hw5⟩ : ∃ w5, w5 = wr.setCell ⟨w.heap.size + 1, 2, none⟩ (.bool true) := ⟨_, rfl⟩
            rw [← hw5]
            obtain ⟨gd0, hs0, hl0, _⟩ := HI.out.ex
            obtain ⟨gd5, hs5, _, _, _⟩ := hs0.mark hl0
            rw [← hw5] at hs5
            have low5 : ∀ j o, j < H0 → w5.cell? ⟨j, o, none⟩ = wr.cell? ⟨j, o, none⟩ := fun j o hj => by rw [hw5]; exact World.cell?_of_block (w := wr) (blk_far _ (by show j ≠ w.heap.size + 1; omega))
            have u1 : w5.cell? ⟨x.1, 2, none⟩ = _ := (low5 _ _ t5).trans t7
            have u2 : w5.cell? ⟨ii, 0, none⟩ = _ := (low5 _ _ t6).trans t8
            have sz5 : w5.heap.size = wr.heap.size := by rw [hw5]; simp
            have u3 : n < w5.heap.size := by omega
            have u4 : w5.cell? ⟨n, 0, none⟩ = _ := blk_cell hs5.fc.z0 0
            have u5 : x.1 < w5.heap.size := by omega
            have u6 : ii < w5.heap.size := by omega
            have own5 : Own w5 x.1 103 := by
              obtain ⟨cs, hcs⟩ := HO.out
              exact ⟨cs, by rw [hw5]; exact (blk_far _ (by show x.1 ≠ w.heap.size + 1; omega)).trans hcs⟩
            have HS5 := Lib.hid hs5
            have HW5 := Lib.hid hw5
            have HO5 := Lib.hid own5
            clear hs0 hl0 hs5 hw5 low5 own5 t7 t8 t9 cL fL
            go_quiet ((go_at_call 85; exact Calls.quiet_of_same (recordUse_any _ _ _ _)))
            all_goals
              obtain ⟨w6, hw6⟩ : ∃ w6, w6 = w5.drewN nq := ⟨_, rfl⟩
              rw [← hw6]
              have hs6 : LSt lo H0 C A M0 n up lst gd5 (rep + cntF l fs bs k) (labs ++ [l]) (keptF l fs k ++ fs.drop (keptF l fs k).length) bs w6 := by rw [hw6]; exact HS5.out.drewN nq
              have u1' : w6.cell? ⟨x.1, 2, none⟩ = some (.pointer (some ⟨ii, 0, none⟩)) := by rw [hw6]; exact u1
              have u2' : w6.cell? ⟨ii, 0, none⟩ = some (.int .i64 qq) := by rw [hw6]; exact u2
              have sz6 : w6.heap.size = w5.heap.size := by rw [hw6]; rfl
              have u3' : n + 8 < w6.heap.size := by have := hs6.lt; omega
              have u4' : w6.cell? ⟨n + 8, 0, none⟩ = _ := blk_cell hs6.fc.z8 0
              have own6 : Own w6 x.1 103 := by rw [hw6]; exact HO5.out
              have hlv6 := hs6.lv
              have hgb6 : ∀ b ∈ bs, Own w6 b 103 := fun b hb => (hs6.gb b hb).2
              have HS6 := Lib.hid hs6
              have HW6 := Lib.hid hw6
              have HLV6 := Lib.hid hlv6
              have HGB6 := Lib.hid hgb6
              have HO6 := Lib.hid own6
              clear hs6 hw6 hlv6 hgb6 own6 u1 u2 u4
              go_wp2_with fail
              refine (jumpsOver_any n _ bs x.1 w6 HLV6.out HGB6.out HO6.out HLV6.out.len).mono ?_
              rintro e w7 ⟨rfl, hw7⟩
              rw [hw7]
              clear hw7
              by_cases hb : hasN bs x.1 = true
              · rw [hb]
                have u7 : n < w6.heap.size := by omega
                have u8 : w6.cell? ⟨n, 0, none⟩ = _ := blk_cell HS6.out.fc.z0 0
                obtain ⟨p6, _, _, z4, _⟩ := HS6.out.lv
                have u9 : n + 4 < w6.heap.size := by omega
                have u10 : w6.cell? ⟨n + 4, 0, none⟩ = _ := blk_cell z4 0
                have lx6 : x.1 < w6.heap.size := by omega
                have lii6 : ii < w6.heap.size := by omega
                have Z4 := Lib.hid z4
                clear u4' u3' z4
                go_wp2_with fail
                have hcapk : rep + cntF l fs bs k ≤ 100000 := by have := cnt_len l fs bs k; omega
                have hH0 : H0 ≤ w6.heap.size := HS6.out.g.sz
                clear c0 c1 cC hpt hne i3 i4 i5 i6 c5 t1 t2 t3 t4 hnm2 hkI hk0 u5 u6 hCH lC hcf2 d0 f3 hlt1 sz1 m1 hlt2 sz2 m3 m0 la3 hcf1 m5 hlt4 t10 t11 hszr sz6 sz5
                go_region_held3 (fun w' => w'.cell? ⟨n, 0, none⟩ = some (.pointer (some ⟨C, 0, none⟩)) ∧ w'.cell? ⟨x.1, 2, none⟩ = some (.pointer (some ⟨ii, 0, none⟩)) ∧ w'.cell? ⟨ii, 0, none⟩ = some (.int .i64 qq) ∧ w'.cell? ⟨n + 4, 0, none⟩ = some (.int .i64 p6)) (first | go_keep | exact hcE)
                  (first
                    | (go_at_call 60; refine (identPos_any ii qq _ (by first | exact u2' | exact (World.cell?_alloc_past _ _ _ lii6).trans u2')).mono ?_; rintro e _ ⟨rfl, rfl⟩)
                    | (go_at_call 62; refine (softErrorf_any H0 C (rep + cntF l fs bs k) w6.heap.size 2 2 qq _ _ (nm l) _ (by first | exact HS6.out.g.chk.drew.alloc _ | exact (HS6.out.g.chk.alloc _).drew) (by simp; omega) (by simp) (by omega) hcapk).mono ?_; rintro e w8 ⟨rfl, r1, r2⟩; have hcE : w8.cell? ⟨n, 0, none⟩ = some (.pointer (some ⟨C, 0, none⟩)) ∧ w8.cell? ⟨x.1, 2, none⟩ = some (.pointer (some ⟨ii, 0, none⟩)) ∧ w8.cell? ⟨ii, 0, none⟩ = some (.int .i64 qq) ∧ w8.cell? ⟨n + 4, 0, none⟩ = some (.int .i64 p6) := (by have hgf : GF H0 M0 w6.heap.size _ w8 := r2.gf (by first | exact HS6.out.g.chk.drew.alloc _ | exact (HS6.out.g.chk.alloc _).drew) (by simp; omega) (by simp); have hn2 := r2.typ (by first | exact HS6.out.g.chk.drew.alloc _ | exact (HS6.out.g.chk.alloc _).drew) ((Below.heap_alloc _ _ _ u7).trans HS6.out.fc.z0) (by decide) (by decide); have hn4 := r2.typ (by first | exact HS6.out.g.chk.drew.alloc _ | exact (HS6.out.g.chk.alloc _).drew) ((Below.heap_alloc _ _ _ u9).trans Z4.out) (by decide) (by decide); exact ⟨blk_cell hn2 0, (World.cell?_of_block (hgf.low x.1 t5)).trans ((World.cell?_alloc_past _ _ _ lx6).trans u1'), (World.cell?_of_block (hgf.low ii t6)).trans ((World.cell?_alloc_past _ _ _ lii6).trans u2'), blk_cell hn4 0⟩)))
                all_goals
                  go_wp2_with fail
                  go_roundg (gk - 1)
                  case measure => omega
                  obtain ⟨m1, m2, m3⟩ := loop_hit (bs := bs) HX.out HXL.out.symm
                  exact ⟨k + 1, by omega, by simp, by rw [m1], by first | exact HI.out.marked2 hlt HX.out HXL.out.symm hb HW5.out HW6.out (.inl rfl) r1 r2 | exact HI.out.marked2 hlt HX.out HXL.out.symm hb HW5.out HW6.out (.inr rfl) r1 r2⟩
              · rw [Bool.eq_false_iff.2 hb]
                go_wp2_with fail
                go_roundg (gk - 1)
                case measure => omega
                obtain ⟨m1, m2, m3⟩ := loop_hit (bs := bs) HX.out HXL.out.symm
                exact ⟨k + 1, by omega, by simp, by rw [m1], by rw [HW6.out, HW5.out]; exact (HI.out.hit hlt HX.out HXL.out.symm (Bool.eq_false_iff.2 hb)).drewN nq⟩
          · rw [decide_eq_false hxl] at hnm2
            have HXL := Lib.hid hxl
            clear hxl
            have c5r : ∀ o, wr.cell? ⟨n + 5, o, none⟩ = _ := blk_cell HI.out.f5
            have m5r : n + 5 < wr.heap.size := by omega
            have hkl := kept_len l fs k (by omega)
            have hki : ((keptF l fs k).length : Int) < (fs.length : Int) := by omega
            have hki0 : (0 : Int) ≤ ((keptF l fs k).length : Int) := by omega
            go_wp2_with fail
            go_roundg (gk - 1)
            case measure => omega
            obtain ⟨m1, m2, m3⟩ := loop_miss (bs := bs) HX.out (fun e => HXL.out e.symm)
            exact ⟨k + 1, by omega, by simp, by rw [m1]; simp, HI.out.miss hlt HX.out (fun e => HXL.out e.symm) HT.out⟩
        · have hkI : ¬ (k : Int) < (fs.length : Int) := by omega
          obtain rfl : k = fs.length := by have := HI.out.le; omega
          have hszr : w4.heap.size ≤ wr.heap.size := HI.out.gf.size
          have c5r : ∀ o, wr.cell? ⟨n + 5, o, none⟩ = _ := blk_cell HI.out.f5
          have f5r : ∀ o, wr.frozen? ⟨n + 5, o, none⟩ = false := blk_frz HI.out.f5
          have m5r : n + 5 < wr.heap.size := by omega
          have hkl := kept_len l fs fs.length (Nat.le_refl _)
          have hki : ((keptF l fs fs.length).length : Int) ≤ (capf : Int) := by omega
          have hki0 : (0 : Int) ≤ ((keptF l fs fs.length).length : Int) := by omega
          obtain ⟨gd', rep', labs', fs', z1, z2, z3, z4, z5, z6⟩ := HI.out.done (gd := gd) (rep := rep) (labs := labs) rfl rfl rfl ⟨(fun h => by cases h), fun h => absurd h hkey⟩
          have Z1 := Lib.hid z1
          have Z2 := Lib.hid z2
          have Z3 := Lib.hid z3
          have Z4 := Lib.hid z4
          have Z5 := Lib.hid z5
          have Z6 := Lib.hid z6
          clear z1 z2 z3 z4 z5 z6
          go_wp2_with fail
          obtain ⟨w9, hw9⟩ : ∃ w9, w9 = wr.setCell ⟨n + 5, 0, none⟩ (.slice af (keptF l fs fs.length).length capf) := ⟨_, rfl⟩
          rw [← hw9]
          have h9 : LSt lo H0 C A M0 n up lst gd' rep' labs' fs' bs w9 := by rw [hw9]; exact Z1.out
          have gf9 : GF H0 M0 n w w9 := by rw [hw9]; exact GF4.out.trans Z2.out
          have lt9 := h9.lt
          have l10 : n + 10 < w9.heap.size := by omega
          have c10 : ∀ o, w9.cell? ⟨n + 10, o, none⟩ = _ := blk_cell h9.fc.z10
          have la9 : a < w9.heap.size := by have := h9.g.sz; omega
          have ca9 : w9.cell? ⟨a, 2, none⟩ = _ := (World.cell?_of_block (w := w) (gf9.low a g2)).trans i6
          have hcall := HIN.out gd' rep' labs' fs' w9.drew h9.drew' gf9.drew Z3.out Z4.out Z5.out Z6.out
          have HCALL := Lib.hid hcall
          have GF9 := Lib.hid gf9
          clear hw9 h9 gf9 hcall
          go_region_law (first | (go_simp; go_at_call 76; refine (HCALL.out).mono ?_; rintro e wE ⟨rfl, gdE, repE, labsE, fsE, bsE, q1, q2, q3, q4, q5⟩))
          all_goals
            go_wp2_with fail
            go_end0
            refine ⟨rfl, gdE, repE, labsE, fsE, bsE, q1, GF9.out.drew.trans q2, fun k hk => q3 k (Z3.out k hk), fun y hy => ?_, by rw [q5, Z6.out]⟩
            rcases q4 y hy with h | h | h
            · obtain ⟨x, hx, rfl⟩ := List.mem_map.1 h
              exact .inl (List.mem_map_of_mem (Z5.out x hx))
            · exact .inr (.inl h)
            · exact .inr (.inr h)
end Go.Proofs.YtpodifbgfcclbaaGreatDoor
