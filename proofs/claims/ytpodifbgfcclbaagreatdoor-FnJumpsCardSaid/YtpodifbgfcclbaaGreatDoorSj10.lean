/- The rules for labels: collecting the labels of a list, the walk. -/
import Derived.Test.YtpodifbgfcclbaaGreatDoorSj8
import Derived.Deep.RegionHeld3
set_option linter.unusedVariables false
set_option linter.unusedSimpArgs false
namespace Go.Proofs.YtpodifbgfcclbaaGreatDoor
open Go.RowKit
attribute [local go_sem] Nat.lt_add_one_of_lt

set_option maxRecDepth 100000 in
set_option maxHeartbeats 16000000 in
theorem coll_any (H0 J M1 M2 M3 : Nat) (root : List Fl) : ∀ (fuel : Nat) (q : Pth) (xs : List Fl), getL root q = some xs → rkL xs < fuel → (∃ t, fiL xs t = true) → CollC H0 J M1 M2 M3 root q xs := by
  intro fuel
  induction fuel with
  | zero => intro q xs _ h; omega
  | succ fuel ih =>
    intro q xs hq hrk hfi adr dnf D w hnd hJ hW hD hF hDn
    obtain ⟨tf, hfi⟩ := hfi
    obtain ⟨ax, capx, hnode, hsl⟩ := hnd
    have hJl := hJ.lt
    obtain ⟨hh1, hh2, hh3, hh4, hh5⟩ := hF.h0
    obtain ⟨hl1, hl2, hl3, hl4, hl5⟩ := hF.lt
    obtain ⟨hn1, hn2, hn3, hn4, hn5, hn6, hn7, hn8, hn9, hn10⟩ := hF.ne
    have n2 : w.cell? ⟨adr q, 2, none⟩ = some (.slice ax xs.length capx) := blk_cell hnode 2
    have lq : adr q < w.heap.size := (Array.getElem?_eq_some_iff.1 hnode).1
    have hX : adr q ∉ [J, M1, M2, dnf q] := by
      have e1 : adr q ≠ J := by rintro e; unfold JC at hJ; rw [e, hJ] at hnode; simp at hnode
      have hmap : ∀ R, (∃ es clk, w.heap[R]? = some (.map es clk)) → adr q ≠ R := by
        rintro R ⟨es, clk, h1⟩ e
        rw [e, h1] at hnode
        cases hnode
      obtain ⟨k1, k2, ⟨s1, c1, g1, _⟩, ⟨s2, c2, g2, _⟩, _⟩ := hW
      obtain ⟨s3, c3, g3, _⟩ := hD
      have e2 := hmap M1 ⟨s1, c1, g1⟩
      have e3 := hmap M2 ⟨s2, c2, g2⟩
      have e4 := hmap (dnf q) ⟨s3, c3, g3⟩
      simp [e1, e2, e3, e4]
    have hlen : xs.length * 48 ≤ 140737488355328 := hsl.2.1
    obtain ⟨_, _, bx, ox, hsx, he⟩ := hsl
    have hst0 := CSt.start (H0 := H0) (M3 := M3) (root := root) (q := q) hJ hW hD hDn
    obtain ⟨CQ, hCQ⟩ : ∃ CQ, CQ = adr q := ⟨_, rfl⟩
    rw [← hCQ] at n2 lq ⊢
    have HS0 := Lib.hid hst0
    have HEL := Lib.hid he
    have HSX := Lib.hid hsx
    have HFI := Lib.hid hfi
    have HQ := Lib.hid hq
    have HCQ := Lib.hid hCQ
    have HXQ := Lib.hid hX
    have IH := Lib.hid ih
    have HNODE := Lib.hid hnode
    have HF := Lib.hid hF
    clear hst0 he hsx hfi hq hCQ ih hnode hJ hW hD hDn hF hX
    go_enter Tryz.func41, Tryz.ntmps41
    go_wp2_with fail
    clear n2
    go_loopg [15] xs.length (fun g vi wr => ∃ (i : Nat) (adr' dnf' : Pth → Nat) (kvs : List ((Nat × Nat) × Value)), i + g = xs.length ∧ vi = .int .i64 i ∧ CSt H0 J M1 M2 M3 root q adr dnf w i 0 (D ++ dpL q 0 (xs.take i)) wr adr' dnf' kvs)
    case atStart => exact ⟨0, adr, dnf, [], by omega, rfl, by simpa [dpL] using HS0.out⟩
    case round =>
      obtain ⟨i, adr', dnf', kvs, hi, rfl, hcs⟩ := hrel
      by_cases hlt : i < xs.length
      · obtain ⟨hbH, k, lb, d, bd, a', cap', _, hx, c0, c1, c2, c3, hslx⟩ := HEL.out.at i hlt
        obtain rfl := HSX.out (by rintro rfl; simp at hlt)
        have hlow := hcs.low HF.out
        have hszr := hcs.fx.size
        have d0 : wr.cell? ⟨bx, ox + i * 4, none⟩ = _ := (World.cell?_of_block (w := w) (a := ⟨bx, ox + i * 4, none⟩) (hlow bx hbH)).trans c0
        have d1 : wr.cell? ⟨bx, ox + i * 4 + 1, none⟩ = _ := (World.cell?_of_block (w := w) (a := ⟨bx, ox + i * 4 + 1, none⟩) (hlow bx hbH)).trans c1
        have d2 : wr.cell? ⟨bx, ox + i * 4 + 2, none⟩ = _ := (World.cell?_of_block (w := w) (a := ⟨bx, ox + i * 4 + 2, none⟩) (hlow bx hbH)).trans c2
        have d3 : wr.cell? ⟨bx, ox + i * 4 + 3, none⟩ = _ := (World.cell?_of_block (w := w) (a := ⟨bx, ox + i * 4 + 3, none⟩) (hlow bx hbH)).trans c3
        have hbr : bx < wr.heap.size := by omega
        have hiI : (i : Int) < (xs.length : Int) := by omega
        have hi0 : (0 : Int) ≤ (i : Int) := by omega
        obtain ⟨D0, hD0⟩ : ∃ D0, D0 = D ++ dpL q 0 (xs.take i) := ⟨_, rfl⟩
        rw [← hD0] at hcs
        have hslr : SLL wr H0 a' cap' bd := hslx.keep (fun r hr => hlow r hr) (Nat.le_refl _)
        obtain ⟨tst, hst⟩ := fiL_mem HFI.out _ (List.mem_of_getElem? hx)
        obtain ⟨B, hB⟩ : ∃ B, B = wr.heap.size := ⟨_, rfl⟩
        have hn1b := blk_new wr #[.int .i64 k, .int .i64 lb, .int .i64 d, .slice a' bd.length cap'] 27
        rw [← hB] at hn1b
        have hbs : Below B wr (wr.alloc (.cells #[.int .i64 k, .int .i64 lb, .int .i64 d, .slice a' bd.length cap'] 27)) := by rw [hB]; exact (Below.refl _ _).alloc (Nat.le_refl _) _
        have hJB : J < B := by omega
        have hM1B : M1 < B := by omega
        have hM2B : M2 < B := by omega
        have hH0B : H0 ≤ B := by omega
        have HCS := Lib.hid hcs
        have HD0 := Lib.hid hD0
        have HSLR := Lib.hid hslr
        have HST := Lib.hid hst
        have HBB := Lib.hid hB
        have HN1 := Lib.hid hn1b
        have HBS := Lib.hid hbs
        have HX := Lib.hid hx
        have HI := Lib.hid hi
        obtain ⟨g0, hg0⟩ : ∃ g0, g0 = gk := ⟨_, rfl⟩
        clear hcs hD0 hslr hst hB hn1b hbs hx hslx c0 c1 c2 c3 hi hlow
        go_wp2_with fail
        clear d0 d1 d2 d3
        rw [← HBB.out]
        go_loopg [6] (mea (.mk k lb d bd)) (fun g v6 wq => ∃ k2 l2 d2 bd2 a2 cap2 seen bq, mea (.mk k2 l2 d2 bd2) ≤ g ∧ inF (.mk k2 l2 d2 bd2) = inF (.mk k lb d bd) ∧ lbF (.mk k lb d bd) = seen ++ lbF (.mk k2 l2 d2 bd2) ∧ stF (.mk k2 l2 d2 bd2) tst = true ∧ wq.heap[B]? = some (.cells #[.int .i64 k2, .int .i64 l2, .int .i64 d2, .slice a2 bd2.length cap2] 27 (0, 0)) ∧ SLL wq H0 a2 cap2 bd2 ∧ bq = (!decide ((D0 ++ seen.map (fun n => (n, q, i))).map Prod.fst).Nodup) ∧ JC wq J M1 M2 M3 bq ∧ WM wq M1 M2 adr' (D0 ++ seen.map (fun n => (n, q, i))) ∧ Fx [J, M1, M2] B wr wq)
        case atStart => exact ⟨k, lb, d, bd, a', cap', [], _, Nat.le_refl _, rfl, rfl, HST.out, HN1.out, HSLR.out.keep (fun r hr => HBS.out.block r (by omega)) (Nat.le_refl _), rfl, by simpa using HCS.out.jc.keep (HBS.out.block J hJB), by simpa using HCS.out.wm.keep (HBS.out.block M1 hM1B) (HBS.out.block M2 hM2B) (fun _ _ => rfl), Fx.of HBS.out⟩
        case round =>
          obtain ⟨k2, l2, d2, bd2, a2, cap2, seen, bq, hme, hinf, hlbf, hstf, hB2, hsl2, hbq, hJq, hWq, hfq⟩ := hrel
          have hszq := hfq.size
          have e0 : ∀ o, wr.cell? ⟨B, o, none⟩ = _ := blk_cell hB2
          have lB : B < wr.heap.size := (Array.getElem?_eq_some_iff.1 hB2).1
          have E0 : wr.cell? ⟨B, 0, none⟩ = some (.int .i64 k2) := e0 0
          have E1 : wr.cell? ⟨B, 1, none⟩ = some (.int .i64 l2) := e0 1
          have E2 : wr.cell? ⟨B, 2, none⟩ = some (.int .i64 d2) := e0 2
          have E3 : wr.cell? ⟨B, 3, none⟩ = some (.slice a2 bd2.length cap2) := e0 3
          by_cases hk : k2 = 10
          · subst hk
            rw [inF_10] at hinf
            have hst3 := stF_10 hstf
            have hlw : wr.heap.size = wr.heap.size := rfl
            rcases st_l10 hstf with rfl | hpos
            · rw [lbF_10a] at hlbf
              have HB2T := Lib.hid hB2
              have HSLT := Lib.hid hsl2
              have HJT := Lib.hid hJq
              have HWT := Lib.hid hWq
              have HFT := Lib.hid hfq
              have HLB := Lib.hid hlbf
              have HBQT := Lib.hid hbq
              have lBT := lB
              have F0 := E0
              have F1 := E1
              have F2 := E2
              have F3 := E3
              have HINF := Lib.hid hinf
              have HME := Lib.hid hme
              have HST3 := Lib.hid hst3
              clear hB2 hsl2 hJq hWq hfq hlbf hbq hinf hme hst3 hstf lB e0 E0 E1 E2 E3
              have ci := inner_any 10 (-1) d2 bd2 a2 cap2 H0 wr HSLT.out (by have := HFT.out.size; omega)
              have CI := Lib.hid ci
              clear ci
              go_wp2_with fail
              refine (CI.out).mono ?_
              rintro e w1 ⟨k3, l3, d3, bd3, a3, cap3, hx3, rfl, hs3, hb3⟩
              have hB3 := (hb3.block B lBT).trans HB2T.out
              have g0' : ∀ o, w1.cell? ⟨B, o, none⟩ = _ := blk_cell hB3
              have f0' : ∀ o, w1.frozen? ⟨B, o, none⟩ = false := blk_frz hB3
              have G0 : w1.cell? ⟨B, 0, none⟩ = some (.int .i64 10) := g0' 0
              have G1 : w1.cell? ⟨B, 1, none⟩ = some (.int .i64 (-1)) := g0' 1
              have G2 : w1.cell? ⟨B, 2, none⟩ = some (.int .i64 d2) := g0' 2
              have G3 : w1.cell? ⟨B, 3, none⟩ = some (.slice a2 bd2.length cap2) := g0' 3
              have lB1 : B < w1.heap.size := by have := hb3.size; omega
              have hbw : Below B _ w1 := Below.mono hb3 (by omega)
              have HB3 := Lib.hid hB3
              have HX3 := Lib.hid hx3
              have HS3 := Lib.hid hs3
              have HBW := Lib.hid hbw
              clear hB3 hx3 hs3 hb3 hbw g0' F0 F1 F2 F3
              go_wp2_with fail
              have hset : Below B w1 ((((w1.setCell ⟨B, 0, none⟩ (.int .i64 k3)).setCell ⟨B, 1, none⟩ (.int .i64 l3)).setCell ⟨B, 2, none⟩ (.int .i64 d3)).setCell ⟨B, 3, none⟩ (.slice a3 bd3.length cap3)) := ((((Below.refl B w1).setCell (Nat.le_refl _) _).setCell (Nat.le_refl _) _).setCell (Nat.le_refl _) _).setCell (Nat.le_refl _) _
              have hall := HBW.out.trans hset
              go_roundg (mea (.mk k3 l3 d3 bd3))
              case measure => rw [← HX3.out]; have := mea_inner (-1) d2 bd2; have := HME.out; omega
              exact ⟨k3, l3, d3, bd3, a3, cap3, seen, _, Nat.le_refl _, by rw [← HX3.out]; exact HINF.out, by rw [← HX3.out]; exact HLB.out, by rw [← HX3.out]; exact HST3.out, by rw [blk_set (blk_set (blk_set (blk_set HB3.out _) _) _) _]; rfl, HS3.out.keep (fun r hr => hset.block r (by omega)) (Nat.le_refl _), HBQT.out, HJT.out.keep (hall.block J hJB), HWT.out.keep (hall.block M1 hM1B) (hall.block M2 hM2B) (fun _ _ => rfl), HFT.out.trans (Fx.of hall)⟩
            · rw [lbF_10b (by omega)] at hlbf
              have hlk0 : ∃ v, (Instr.lookup 57 (.map (some M1)) (.int .i64 l2) false).run Tryz.prog wr = .ok v wr ∧ ((v = .pointer none ∧ decide (l2 ∈ (D0 ++ seen.map (fun n => (n, q, i))).map Prod.fst) = false) ∨ ((∃ C, v = .pointer (some ⟨C, 0, none⟩)) ∧ decide (l2 ∈ (D0 ++ seen.map (fun n => (n, q, i))).map Prod.fst) = true)) := by
                obtain ⟨k1, _, h1, _, h3⟩ := hWq
                refine ⟨_, run_lookI 57 62 (.pointer none) und57 zero62 M1 l2 k1 wr h1, ?_⟩
                rw [(h3 l2).1, ← whr_isSome]
                cases whr (D0 ++ seen.map (fun n => (n, q, i))) l2 with
                | none => exact .inl ⟨rfl, rfl⟩
                | some e => exact .inr ⟨⟨adr' e.1, rfl⟩, rfl⟩
              have hDn : D0 ++ (seen ++ [l2]).map (fun n => (n, q, i)) = (D0 ++ seen.map (fun n => (n, q, i))) ++ [(l2, q, i)] := by
                rw [List.map_append, List.append_assoc]; rfl
              have hbn : (!decide ((D0 ++ (seen ++ [l2]).map (fun n => (n, q, i))).map Prod.fst).Nodup) = (bq || decide (l2 ∈ (D0 ++ seen.map (fun n => (n, q, i))).map Prod.fst)) := by
                rw [hbq, hDn, nodup_snoc]
              obtain ⟨v, hlk, hv⟩ := hlk0
              have hadq : adr' q = CQ := by rw [HCQ.out]; exact (HCS.out.agree q (ext_self q)).1
              have j0 : ∀ o, wr.cell? ⟨J, o, none⟩ = _ := blk_cell hJq
              have J0 : wr.cell? ⟨J, 0, none⟩ = some (.map (some M1)) := j0 0
              have lJ : J < wr.heap.size := by omega
              have nJM1 : J ∉ [M1, M2] := by simp; omega
              have nBM1 : B ∉ [M1, M2] := by simp; omega
              rcases hv with ⟨rfl, hdup⟩ | ⟨⟨C, rfl⟩, hdup⟩
              · have hJW := hJq
                have hWW := hWq
                have hfW := hfq
                have hB2W := hB2
                have hslW := hsl2
                have hWW' : WM (wr).drew M1 M2 adr' (D0 ++ seen.map (fun n => (n, q, i))) := hWW.keep rfl rfl (fun _ _ => rfl)
                obtain ⟨Wa, Wb, Wc, Wd, v1, v2, s1, s2, hE1, hE2, hE3, hE4, hWd, hfs⟩ := hWW'.ent hn1 l2 q i
                rw [hadq] at hE2
                rw [← hDn] at hWd
                obtain ⟨fa, fb, fc, fd⟩ := hfs ((wr).heap.size)
                have hlW : J < (wr).heap.size := by first | exact lJ | simpa using lJ
                have hlBW : B < (wr).heap.size := by first | exact lB | simpa using lB
                have hJ0' : JC (wr).drew J M1 M2 M3 bq := hJW
                have hJa := hJ0'.keep (fa.blk J hlW nJM1)
                have hJb := hJ0'.keep (fb.blk J hlW nJM1)
                have hJc := hJ0'.keep (fc.blk J hlW nJM1)
                have hJd := hJ0'.keep (fd.blk J hlW nJM1)
                have K0 : (wr).drew.cell? ⟨J, 0, none⟩ = some (.map (some M1)) := blk_cell hJ0' 0
                have K1 : (wr).drew.cell? ⟨J, 1, none⟩ = some (.map (some M2)) := blk_cell hJ0' 1
                have Ka0 : Wa.cell? ⟨J, 0, none⟩ = some (.map (some M1)) := blk_cell hJa 0
                have Ka1 : Wa.cell? ⟨J, 1, none⟩ = some (.map (some M2)) := blk_cell hJa 1
                have Kb0 : Wb.cell? ⟨J, 0, none⟩ = some (.map (some M1)) := blk_cell hJb 0
                have Kb1 : Wb.cell? ⟨J, 1, none⟩ = some (.map (some M2)) := blk_cell hJb 1
                have Kc0 : Wc.cell? ⟨J, 0, none⟩ = some (.map (some M1)) := blk_cell hJc 0
                have Kc1 : Wc.cell? ⟨J, 1, none⟩ = some (.map (some M2)) := blk_cell hJc 1
                have la : J < Wa.heap.size := hJa.lt
                have lb1 : J < Wb.heap.size := hJb.lt
                have lc : J < Wc.heap.size := hJc.lt
                have hBd : Wd.heap[B]? = _ := (fd.blk B hlBW nBM1).trans hB2W
                have lBT : B < Wd.heap.size := (Array.getElem?_eq_some_iff.1 hBd).1
                have e0d : ∀ o, Wd.cell? ⟨B, o, none⟩ = _ := blk_cell hBd
                have F0 : Wd.cell? ⟨B, 0, none⟩ = some (.int .i64 10) := e0d 0
                have F1 : Wd.cell? ⟨B, 1, none⟩ = some (.int .i64 l2) := e0d 1
                have F2 : Wd.cell? ⟨B, 2, none⟩ = some (.int .i64 d2) := e0d 2
                have F3 : Wd.cell? ⟨B, 3, none⟩ = some (.slice a2 bd2.length cap2) := e0d 3
                have hFd : Fx [J, M1, M2] B _ Wd := (hfW.drew).trans (Fx.mono fd (by omega) (fun b _ hb => by simp at hb ⊢; omega))
                have hSd : SLL Wd H0 a2 cap2 bd2 := (show SLL (wr).drew H0 a2 cap2 bd2 from SLL.keep (w := wr) (w' := (wr).drew) (fun _ _ => rfl) (Nat.le_refl _) hslW).keep (fun r hr => fd.blk r (by omega) (by simp; omega)) (Nat.le_refl _)
                have HB2T := Lib.hid hBd
                have HSLT := Lib.hid hSd
                have HJT := Lib.hid hJd
                have HWT := Lib.hid hWd
                have HFT := Lib.hid hFd
                have HLB := Lib.hid (show lbF (.mk k lb d bd) = (seen ++ [l2]) ++ lbF (innerB bd2) by rw [hlbf, List.append_assoc]; rfl)
                have HBQT := Lib.hid (show bq = (!decide ((D0 ++ (seen ++ [l2]).map (fun n => (n, q, i))).map Prod.fst).Nodup) by rw [hbn, hdup]; simp)
                have HINF := Lib.hid hinf
                have HME := Lib.hid hme
                have HST3 := Lib.hid hst3
                clear hJW hWW hfW hB2W hslW hWW' hWd hfs fa fb fc fd hJ0' hJa hJb hJc hJd hBd e0d hFd hSd hB2 hsl2 hJq hWq hfq hlbf hbq hbn hDn hinf hme hst3 hstf e0 j0 nJM1 nBM1 hadq hlW hlBW hdup
                go_wp2_with fail
                go_region
                clear hE1 hE2 hE3 hE4 K0 K1 Ka0 Ka1 Kb0 Kb1 Kc0 Kc1 la lb1 lc hlk J0 E0 E1 E2 E3 lB lJ
                have ci := inner_any 10 l2 d2 bd2 a2 cap2 H0 Wd HSLT.out (by have := HFT.out.size; omega)
                have CI := Lib.hid ci
                clear ci
                go_wp2_with fail
                refine (CI.out).mono ?_
                rintro e w1 ⟨k3, l3, d3, bd3, a3, cap3, hx3, rfl, hs3, hb3⟩
                have hB3 := (hb3.block B lBT).trans HB2T.out
                have g0' : ∀ o, w1.cell? ⟨B, o, none⟩ = _ := blk_cell hB3
                have f0' : ∀ o, w1.frozen? ⟨B, o, none⟩ = false := blk_frz hB3
                have G0 : w1.cell? ⟨B, 0, none⟩ = some (.int .i64 10) := g0' 0
                have G1 : w1.cell? ⟨B, 1, none⟩ = some (.int .i64 l2) := g0' 1
                have G2 : w1.cell? ⟨B, 2, none⟩ = some (.int .i64 d2) := g0' 2
                have G3 : w1.cell? ⟨B, 3, none⟩ = some (.slice a2 bd2.length cap2) := g0' 3
                have lB1 : B < w1.heap.size := by have := hb3.size; omega
                have hbw : Below B _ w1 := Below.mono hb3 (by omega)
                have HB3 := Lib.hid hB3
                have HX3 := Lib.hid hx3
                have HS3 := Lib.hid hs3
                have HBW := Lib.hid hbw
                clear hB3 hx3 hs3 hb3 hbw g0' F0 F1 F2 F3
                go_wp2_with fail
                have hset : Below B w1 ((((w1.setCell ⟨B, 0, none⟩ (.int .i64 k3)).setCell ⟨B, 1, none⟩ (.int .i64 l3)).setCell ⟨B, 2, none⟩ (.int .i64 d3)).setCell ⟨B, 3, none⟩ (.slice a3 bd3.length cap3)) := ((((Below.refl B w1).setCell (Nat.le_refl _) _).setCell (Nat.le_refl _) _).setCell (Nat.le_refl _) _).setCell (Nat.le_refl _) _
                have hall := HBW.out.trans hset
                go_roundg (mea (.mk k3 l3 d3 bd3))
                case measure => rw [← HX3.out]; have := mea_inner l2 d2 bd2; have := HME.out; omega
                exact ⟨k3, l3, d3, bd3, a3, cap3, seen ++ [l2], _, Nat.le_refl _, by rw [← HX3.out]; exact HINF.out, by rw [← HX3.out]; exact HLB.out, by rw [← HX3.out]; exact HST3.out, by rw [blk_set (blk_set (blk_set (blk_set HB3.out _) _) _) _]; rfl, HS3.out.keep (fun r hr => hset.block r (by omega)) (Nat.le_refl _), HBQT.out, HJT.out.keep (hall.block J hJB), HWT.out.keep (hall.block M1 hM1B) (hall.block M2 hM2B) (fun _ _ => rfl), HFT.out.trans (Fx.of hall)⟩
              · have hJW : JC (wr.setCell ⟨J, 3, none⟩ (.bool true)) J M1 M2 M3 true := hJq.bad true
                have hother : ∀ b, b ≠ J → (wr.setCell ⟨J, 3, none⟩ (.bool true)).heap[b]? = wr.heap[b]? := fun b hb => Below.heap_setCell _ _ _ _ hb
                have hWW : WM (wr.setCell ⟨J, 3, none⟩ (.bool true)) M1 M2 adr' (D0 ++ seen.map (fun n => (n, q, i))) := hWq.keep (hother M1 (by omega)) (hother M2 (by omega)) (fun _ _ => rfl)
                have hfW := hfq.setCell (p := ⟨J, 3, none⟩) (.inl (by simp)) (.bool true)
                have hB2W := (hother B (by omega)).trans hB2
                have hslW : SLL (wr.setCell ⟨J, 3, none⟩ (.bool true)) H0 a2 cap2 bd2 := hsl2.keep (fun r hr => hother r (by omega)) (Nat.le_refl _)
                have J3 : wr.cell? ⟨J, 3, none⟩ = some (.bool bq) := j0 3
                have fJ : ∀ o, wr.frozen? ⟨J, o, none⟩ = false := blk_frz hJq
                have hWW' : WM ((wr.setCell ⟨J, 3, none⟩ (.bool true))).drew M1 M2 adr' (D0 ++ seen.map (fun n => (n, q, i))) := hWW.keep rfl rfl (fun _ _ => rfl)
                obtain ⟨Wa, Wb, Wc, Wd, v1, v2, s1, s2, hE1, hE2, hE3, hE4, hWd, hfs⟩ := hWW'.ent hn1 l2 q i
                rw [hadq] at hE2
                rw [← hDn] at hWd
                obtain ⟨fa, fb, fc, fd⟩ := hfs (((wr.setCell ⟨J, 3, none⟩ (.bool true))).heap.size)
                have hlW : J < ((wr.setCell ⟨J, 3, none⟩ (.bool true))).heap.size := by first | exact lJ | simpa using lJ
                have hlBW : B < ((wr.setCell ⟨J, 3, none⟩ (.bool true))).heap.size := by first | exact lB | simpa using lB
                have hJ0' : JC ((wr.setCell ⟨J, 3, none⟩ (.bool true))).drew J M1 M2 M3 true := hJW
                have hJa := hJ0'.keep (fa.blk J hlW nJM1)
                have hJb := hJ0'.keep (fb.blk J hlW nJM1)
                have hJc := hJ0'.keep (fc.blk J hlW nJM1)
                have hJd := hJ0'.keep (fd.blk J hlW nJM1)
                have K0 : ((wr.setCell ⟨J, 3, none⟩ (.bool true))).drew.cell? ⟨J, 0, none⟩ = some (.map (some M1)) := blk_cell hJ0' 0
                have K1 : ((wr.setCell ⟨J, 3, none⟩ (.bool true))).drew.cell? ⟨J, 1, none⟩ = some (.map (some M2)) := blk_cell hJ0' 1
                have Ka0 : Wa.cell? ⟨J, 0, none⟩ = some (.map (some M1)) := blk_cell hJa 0
                have Ka1 : Wa.cell? ⟨J, 1, none⟩ = some (.map (some M2)) := blk_cell hJa 1
                have Kb0 : Wb.cell? ⟨J, 0, none⟩ = some (.map (some M1)) := blk_cell hJb 0
                have Kb1 : Wb.cell? ⟨J, 1, none⟩ = some (.map (some M2)) := blk_cell hJb 1
                have Kc0 : Wc.cell? ⟨J, 0, none⟩ = some (.map (some M1)) := blk_cell hJc 0
                have Kc1 : Wc.cell? ⟨J, 1, none⟩ = some (.map (some M2)) := blk_cell hJc 1
                have la : J < Wa.heap.size := hJa.lt
                have lb1 : J < Wb.heap.size := hJb.lt
                have lc : J < Wc.heap.size := hJc.lt
                have hBd : Wd.heap[B]? = _ := (fd.blk B hlBW nBM1).trans hB2W
                have lBT : B < Wd.heap.size := (Array.getElem?_eq_some_iff.1 hBd).1
                have e0d : ∀ o, Wd.cell? ⟨B, o, none⟩ = _ := blk_cell hBd
                have F0 : Wd.cell? ⟨B, 0, none⟩ = some (.int .i64 10) := e0d 0
                have F1 : Wd.cell? ⟨B, 1, none⟩ = some (.int .i64 l2) := e0d 1
                have F2 : Wd.cell? ⟨B, 2, none⟩ = some (.int .i64 d2) := e0d 2
                have F3 : Wd.cell? ⟨B, 3, none⟩ = some (.slice a2 bd2.length cap2) := e0d 3
                have hFd : Fx [J, M1, M2] B _ Wd := (hfW.drew).trans (Fx.mono fd (by omega) (fun b _ hb => by simp at hb ⊢; omega))
                have hSd : SLL Wd H0 a2 cap2 bd2 := (show SLL ((wr.setCell ⟨J, 3, none⟩ (.bool true))).drew H0 a2 cap2 bd2 from SLL.keep (w := (wr.setCell ⟨J, 3, none⟩ (.bool true))) (w' := ((wr.setCell ⟨J, 3, none⟩ (.bool true))).drew) (fun _ _ => rfl) (Nat.le_refl _) hslW).keep (fun r hr => fd.blk r (by omega) (by simp; omega)) (Nat.le_refl _)
                have HB2T := Lib.hid hBd
                have HSLT := Lib.hid hSd
                have HJT := Lib.hid hJd
                have HWT := Lib.hid hWd
                have HFT := Lib.hid hFd
                have HLB := Lib.hid (show lbF (.mk k lb d bd) = (seen ++ [l2]) ++ lbF (innerB bd2) by rw [hlbf, List.append_assoc]; rfl)
                have HBQT := Lib.hid (show true = (!decide ((D0 ++ (seen ++ [l2]).map (fun n => (n, q, i))).map Prod.fst).Nodup) by rw [hbn, hdup]; simp)
                have HINF := Lib.hid hinf
                have HME := Lib.hid hme
                have HST3 := Lib.hid hst3
                clear hJW hWW hfW hB2W hslW hother hWW' hWd hfs fa fb fc fd hJ0' hJa hJb hJc hJd hBd e0d hFd hSd hB2 hsl2 hJq hWq hfq hlbf hbq hbn hDn hinf hme hst3 hstf e0 j0 nJM1 nBM1 hadq hlBW hdup
                go_wp2_with fail
                go_region
                clear hE1 hE2 hE3 hE4 K0 K1 Ka0 Ka1 Kb0 Kb1 Kc0 Kc1 la lb1 lc hlk J0 J3 fJ E0 E1 E2 E3 lB lJ hlW
                have ci := inner_any 10 l2 d2 bd2 a2 cap2 H0 Wd HSLT.out (by have := HFT.out.size; omega)
                have CI := Lib.hid ci
                clear ci
                go_wp2_with fail
                refine (CI.out).mono ?_
                rintro e w1 ⟨k3, l3, d3, bd3, a3, cap3, hx3, rfl, hs3, hb3⟩
                have hB3 := (hb3.block B lBT).trans HB2T.out
                have g0' : ∀ o, w1.cell? ⟨B, o, none⟩ = _ := blk_cell hB3
                have f0' : ∀ o, w1.frozen? ⟨B, o, none⟩ = false := blk_frz hB3
                have G0 : w1.cell? ⟨B, 0, none⟩ = some (.int .i64 10) := g0' 0
                have G1 : w1.cell? ⟨B, 1, none⟩ = some (.int .i64 l2) := g0' 1
                have G2 : w1.cell? ⟨B, 2, none⟩ = some (.int .i64 d2) := g0' 2
                have G3 : w1.cell? ⟨B, 3, none⟩ = some (.slice a2 bd2.length cap2) := g0' 3
                have lB1 : B < w1.heap.size := by have := hb3.size; omega
                have hbw : Below B _ w1 := Below.mono hb3 (by omega)
                have HB3 := Lib.hid hB3
                have HX3 := Lib.hid hx3
                have HS3 := Lib.hid hs3
                have HBW := Lib.hid hbw
                clear hB3 hx3 hs3 hb3 hbw g0' F0 F1 F2 F3
                go_wp2_with fail
                have hset : Below B w1 ((((w1.setCell ⟨B, 0, none⟩ (.int .i64 k3)).setCell ⟨B, 1, none⟩ (.int .i64 l3)).setCell ⟨B, 2, none⟩ (.int .i64 d3)).setCell ⟨B, 3, none⟩ (.slice a3 bd3.length cap3)) := ((((Below.refl B w1).setCell (Nat.le_refl _) _).setCell (Nat.le_refl _) _).setCell (Nat.le_refl _) _).setCell (Nat.le_refl _) _
                have hall := HBW.out.trans hset
                go_roundg (mea (.mk k3 l3 d3 bd3))
                case measure => rw [← HX3.out]; have := mea_inner l2 d2 bd2; have := HME.out; omega
                exact ⟨k3, l3, d3, bd3, a3, cap3, seen ++ [l2], _, Nat.le_refl _, by rw [← HX3.out]; exact HINF.out, by rw [← HX3.out]; exact HLB.out, by rw [← HX3.out]; exact HST3.out, by rw [blk_set (blk_set (blk_set (blk_set HB3.out _) _) _) _]; rfl, HS3.out.keep (fun r hr => hset.block r (by omega)) (Nat.le_refl _), HBQT.out, HJT.out.keep (hall.block J hJB), HWT.out.keep (hall.block M1 hM1B) (hall.block M2 hM2B) (fun _ _ => rfl), HFT.out.trans (Fx.of hall)⟩
          · have q10 : (k2 == 10) = false := by simpa using hk
            rw [lbF_no hk, List.append_nil] at hlbf
            rw [← hlbf] at hbq hWq
            rw [hbq] at hJq
            rw [inF_of hk] at hinf
            obtain ⟨D1, hD1⟩ : ∃ D1, D1 = D0 ++ (lbF (.mk k lb d bd)).map (fun n => (n, q, i)) := ⟨_, rfl⟩
            rw [← hD1] at hJq hWq
            have hcq := HCS.out.lab HF.out (by rw [← HBB.out]; exact hfq) hJq hWq (by
              intro e he
              rw [hD1] at he
              rcases List.mem_append.1 he with he | he
              · exact HCS.out.dps e he
              · obtain ⟨n, _, rfl⟩ := List.mem_map.1 he
                exact .inl (ext_self q))
            obtain ⟨p1, p2, p3⟩ := st_bel hstf
            have cb := below_any k2 l2 d2 bd2 a2 cap2 H0 wr hsl2 (by omega) p1 p2
            have CB := Lib.hid cb
            have HCQS := Lib.hid hcq
            have HD1 := Lib.hid hD1
            have HP3 := Lib.hid p3
            have HINF := Lib.hid hinf
            have hg1 : gk = gk := rfl
            clear cb hcq hD1 p1 p2 p3 hinf hlbf hme hstf hB2 hsl2 hbq hJq hWq hfq e0
            go_wp2_with fail
            refine (CB.out).mono ?_
            rintro e w6 ⟨ab, capb, rfl, hs6, hb6⟩
            obtain ⟨bl, hbl⟩ : ∃ bl, bl = bel (.mk k2 l2 d2 bd2) := ⟨_, rfl⟩
            rw [← hbl] at hs6 ⊢
            have hc6 := HCQS.out.up HF.out hb6
            have hlow6 := hc6.low HF.out
            have hlen6 : bl.length * 24 ≤ 140737488355328 := hs6.2.1
            have hs6w : SLL w H0 ab capb bl := hs6.keep (fun r hr => (hlow6 r hr).symm) (Nat.le_refl _)
            obtain ⟨_, _, b6, o6, hsa6, he6⟩ := hs6w
            have hrx : rkB bl < rk (.mk k lb d bd) := by rw [hbl, show (.mk k2 l2 d2 bd2) = inF (.mk k lb d bd) from HINF.out]; exact bel_rk _
            have hgl : ∀ j, getL root ((i, j) :: q) = bl[j]? := by
              intro j
              rw [getL, HQ.out]
              simp only [Option.bind_some, HX.out]
              rw [← HINF.out, ← hbl]
            have hfy : ∀ y ∈ bl, ∃ t, fiL y t = true := by
              intro y hy
              rw [hbl, bel] at hy
              by_cases hin : (in1 k2 || in2 k2) = true
              · rw [if_pos hin] at hy
                obtain ⟨u, hu⟩ := HP3.out (by simpa using hin)
                exact liB_mem hu y hy
              · rw [if_neg hin] at hy; cases hy
            have hdpx : D ++ dpL q 0 (xs.take (i + 1)) = D1 ++ dpB q i 0 bl := by
              rw [dpL_take HX.out, dpF_eq, HD1.out, HD0.out, hbl, show (.mk k2 l2 d2 bd2) = inF (.mk k lb d bd) from HINF.out]
              simp only [List.append_assoc]
            have HC6 := Lib.hid hc6
            have HSA6 := Lib.hid hsa6
            have HEL6 := Lib.hid he6
            have HRX := Lib.hid hrx
            have HGL := Lib.hid hgl
            have HFY := Lib.hid hfy
            have HDPX := Lib.hid hdpx
            have hiL : i < 4611686018427387904 := by omega
            clear hc6 hlow6 hs6 hsa6 he6 hrx hgl hfy hdpx hbl hb6 E0 E1 E2 E3
            go_wp2_with fail
            go_loopg [58] bl.length (fun g vj wq => ∃ (j : Nat) (aj dj : Pth → Nat) (kj : List ((Nat × Nat) × Value)), j + g = bl.length ∧ vj = .int .i64 j ∧ CSt H0 J M1 M2 M3 root q adr dnf w i j (D1 ++ dpB q i 0 (bl.take j)) wq aj dj kj)
            case atStart => exact ⟨0, adr', dnf', kvs, by omega, rfl, by simpa [dpB] using HC6.out⟩
            case round =>
              obtain ⟨j, aj, dj, kj, hj, rfl, hcj⟩ := hrel
              by_cases hltj : j < bl.length
              · obtain ⟨hb6H, y, ay, capy, _, hy, hcy, hsy⟩ := HEL6.out.at j hltj
                obtain rfl := HSA6.out (by rintro rfl; simp at hltj)
                have hqy : getL root ((i, j) :: q) = some y := by rw [HGL.out]; exact hy
                have hlowj := hcj.low HF.out
                have d0 : wr.cell? ⟨b6, o6 + j, none⟩ = _ := (World.cell?_of_block (w := w) (a := ⟨b6, o6 + j, none⟩) (hlowj b6 hb6H)).trans hcy
                have hszj := hcj.fx.size
                have lb6 : b6 < wr.heap.size := by omega
                have hjI : (j : Int) < (bl.length : Int) := by omega
                have hj0 : (0 : Int) ≤ (j : Int) := by omega
                have hnq := (hcj.fx.blk CQ lq (by rw [HCQ.out]; exact HXQ.out)).trans ((congrArg (fun b => w.heap[b]?) HCQ.out).trans HNODE.out)
                have lCQ : CQ < wr.heap.size := by omega
                obtain ⟨DN, hDN⟩ : ∃ DN, DN = dnf q := ⟨_, rfl⟩
                have hlDN : DN < wr.heap.size := by omega
                obtain ⟨W1, hW1⟩ : ∃ W1, W1 = wr.alloc (.map #[] 0) := ⟨_, rfl⟩
                obtain ⟨W2, hW2⟩ : ∃ W2, W2 = W1.alloc (.cells #[.pointer (some ⟨CQ, 0, none⟩), .int .i64 i, .slice ay y.length capy, .map (some wr.heap.size)] 65) := ⟨_, rfl⟩
                have hz1 : W1.heap.size = wr.heap.size + 1 := by rw [hW1]; simp
                have hz2 : W2.heap.size = wr.heap.size + 2 := by rw [hW2]; simp [hz1]
                have hf1 : Fx [DN] wr.heap.size wr W1 := by rw [hW1]; exact (Fx.refl _ _ _).alloc (Nat.le_refl _) _
                have hf2 : Fx [DN] wr.heap.size wr W2 := by rw [hW2]; exact hf1.alloc (by omega) _
                have hdm2 : DM W2 DN kj := by
                  have h := hcj.dm
                  rw [← hDN] at h
                  refine h.keep ?_
                  rw [hW2, Below.heap_alloc _ _ _ (by omega), hW1, Below.heap_alloc _ _ _ (by omega)]
                obtain ⟨es, clk, hupd, hdm3⟩ := run_updD DN (i, j) (.pointer (some ⟨wr.heap.size + 1, 0, none⟩)) kj W2 hdm2 (hcj.dnone i j (by omega))
                have hupd' : (Instr.mapUpdate 63 (.map (some DN)) (.agg #[.int .i64 (i : Int), .int .i64 (j : Int)]) (.pointer (some ⟨wr.heap.size + 1, 0, none⟩))).run Tryz.prog W2 = .ok () (setObj W2 DN (.map es clk)) := hupd
                obtain ⟨W3, hW3⟩ : ∃ W3, W3 = setObj W2 DN (.map es clk) := ⟨_, rfl⟩
                rw [← hW3] at hdm3
                have hz3 : W3.heap.size = wr.heap.size + 2 := by rw [hW3, setObj_size, hz2]
                have hf3 : Fx [dnf q] wr.heap.size wr W3 := by rw [← hDN, hW3]; exact hf2.setObj (.inl (by simp)) _
                have hm3 : DM W3 wr.heap.size [] := by
                  have h1 : W1.heap[wr.heap.size]? = some (.map #[] 0) := by rw [hW1]; exact heap_alloc_new wr _
                  have h3 : W3.heap[wr.heap.size]? = some (.map #[] 0) := by
                    rw [hW3, setObj_heap _ _ _ _ (by omega), hW2, Below.heap_alloc _ _ _ (by omega)]; exact h1
                  exact ⟨_, _, h3, rfl⟩
                have hn3 : W3.heap[wr.heap.size + 1]? = some (.cells #[.pointer (some ⟨adr q, 0, none⟩), .int .i64 i, .slice ay y.length capy, .map (some wr.heap.size)] 65 (0, 0)) := by
                  rw [hW3, setObj_heap _ _ _ _ (by omega), hW2, ← HCQ.out, ← hz1]
                  exact blk_new W1 _ 65
                have hs3 : SL W3 H0 ay capy y := hsy.keep (fun r hr => (hf3.blk r (by omega) (by rw [← hDN]; simp; omega)).trans (hlowj r hr)) (Nat.le_refl _)
                rw [hDN] at hdm3
                obtain ⟨r1, r2, r3, r4, r5, r6⟩ := hcj.enter HF.out hf3 hz3 hm3 hn3 hs3
                have hcall := IH.out ((i, j) :: q) y hqy (by have h1 := rkB_at hy; have h2 := HRX.out; have h3 := rkL_at HX.out; omega) (HFY.out y (List.mem_of_getElem? hy)) _ _ _ W3 r3 r1 r2 r4 r5 r6
                rw [upA_same, hW3, hW2, hW1] at hcall
                rw [hW2, hW1] at hupd'
                have m3 : wr.cell? ⟨CQ, 3, none⟩ = some (.map (some DN)) := by rw [hDN]; exact blk_cell hnq 3
                obtain ⟨DC, hDC⟩ : ∃ DC, DC = D1 ++ dpB q i 0 (bl.take j) := ⟨_, rfl⟩
                have hlv : ∀ w9 a9 d9, CE H0 J M1 M2 M3 root ((i, j) :: q) (upA aj ((i, j) :: q) (wr.heap.size + 1)) (upA dj ((i, j) :: q) wr.heap.size) W3 ((D1 ++ dpB q i 0 (bl.take j)) ++ dpL ((i, j) :: q) 0 y) w9 a9 d9 → CSt H0 J M1 M2 M3 root q adr dnf w i (j + 1) (D1 ++ dpB q i 0 (bl.take (j + 1))) w9 a9 d9 (kj ++ [((i, j), .pointer (some ⟨wr.heap.size + 1, 0, none⟩))]) := by
                  intro w9 a9 d9 hce
                  rw [dpB_take hy, ← List.append_assoc]
                  exact hcj.leave (ay := ay) (capy := capy) HF.out hf3 hz3 hqy r3 hdm3 hce
                rw [hW3, hW2, hW1] at hlv
                have HC := Lib.hid hcall
                have HLV := Lib.hid hlv
                have hmm := @run_makeMap Tryz.prog
                clear hcall hlv hDC r1 r2 r3 r4 r5 r6 hs3 hn3 hm3 hf3 hz3 hdm3 hW3 hupd hdm2 hf2 hf1 hz2 hz1 hW2 hW1 hnq hcj hlowj hqy hcy hsy hy hDN
                go_wp2_with fail
                refine (HC.out).mono ?_
                rintro e w9 ⟨rfl, a9, d9, hce⟩
                have HCE := Lib.hid hce
                clear hce hupd' m3 d0 hmm
                go_wp2_with fail
                go_roundg (gk - 1)
                case measure => omega
                exact ⟨j + 1, a9, d9, _, by omega, by simp, HLV.out w9 a9 d9 HCE.out⟩
              · have hjI : ¬ (j : Int) < (bl.length : Int) := by omega
                obtain rfl : j = bl.length := by omega
                rw [List.take_length, ← HDPX.out] at hcj
                have HCJ := Lib.hid (hcj.next (fun k' zs hz => by rw [HGL.out] at hz; exact (List.getElem?_eq_some_iff.1 hz).1))
                clear hcj
                go_wp2_with fail
                go_roundg (g0 - 1)
                case measure => have := HI.out; omega
                have hi2 := HI.out
                exact ⟨i + 1, aj, dj, kj, by omega, by simp, HCJ.out⟩
      · have hiI : ¬ (i : Int) < (xs.length : Int) := by omega
        obtain rfl : i = xs.length := by omega
        rw [List.take_length] at hcs
        have HCS := Lib.hid hcs
        clear hcs
        go_wp2_with fail
        go_end0
        exact ⟨rfl, adr', dnf', HCS.out.finish HQ.out⟩
end Go.Proofs.YtpodifbgfcclbaaGreatDoor
