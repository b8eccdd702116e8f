/- The maker's clauses: the walk. -/
import Derived.Test.YtpodifbgfcclbaaGreatDoorMk5
set_option linter.unusedVariables false
set_option linter.unusedSimpArgs false
namespace Go.Proofs.YtpodifbgfcclbaaGreatDoor
open Go.RowKit
attribute [local go_sem] Nat.lt_add_one_of_lt

def RetCs (B lo M R : Nat) (p : Int) (ps : List Nat) (w : World) (sel : Bool) (d : Int) (bd : List (List Fl)) (e : Ending) (w' : World) : Prop :=
  ∃ a1 tb p' ps', e = .returned (.pointer (some ⟨a1, 0, none⟩)) ∧ erB tb = bd ∧ CS w' w.heap.size w'.heap.size ps' sel a1 d tb ∧ MkTo B lo M R p ps w (2 + 16 * rkB bd) p' ps' w' ∧ Fresh (gtsB tb) w.heap.size w'.heap.size
theorem CInv.start {B lo M R : Nat} {p p1 : Int} {ps : List Nat} {w1 : World} {bd : List (List Fl)} {d : Int} {sel : Bool} (q0 : Int) (h : MS B lo M R p1 ps w1) (hlo : lo ≤ w1.heap.size) (hp : p ≤ p1) (hp2 : p1 ≤ p + 1) :
    CInv B lo M R p ps (w1.alloc (.cells #[.int .i64 q0, .slice none 0 0, .int .i64 0] 76)) w1.heap.size q0 bd d sel 1 0 (.slice none 0 0) (w1.alloc (.cells #[.int .i64 q0, .slice none 0 0, .int .i64 0] 76)) :=
  ⟨⟨[], [], p1, ps, World.ownsRow_nil _ _ _ _, by rw [erB]; rfl, trivial, h.alloc _, .refl _ _ _ _, hp, by simp [rkB]; omega, ⟨[], by simp, by simp⟩, Fresh.nil _ _⟩, blk_new _ _ _, fun _ => rfl⟩

set_option maxRecDepth 100000 in
set_option maxHeartbeats 4000000 in
theorem cases_switch (bd : List (List Fl)) (hls : ∀ y ∈ bd, MkLsC y) (hfi : ∀ y ∈ bd, ∃ thr, fiL y thr = true) (B lo M R : Nat) (p : Int) (ps : List Nat) (w : World) (k l d : Int) (a : Option Addr) (cap : Nat) (hk8 : (k == 8) = false)
    (hs : SLL w B a cap bd) (hms : MS B lo M R p ps w) (hp : p + 16 * rkB bd + 4 < 4611686018427387904) :
    Calls Tryz.prog 68 #[.pointer (some ⟨M, 0, none⟩), .agg #[.int .i64 k, .int .i64 l, .int .i64 d, .slice a bd.length cap]] w (RetCs B lo M R p ps w false d bd) := by
  have HLS := Lib.hid hls
  have HFI := Lib.hid hfi
  clear hls hfi
  obtain ⟨hcl, hc2, b, o, h3, h4⟩ := hs
  have hlen : bd.length ≤ 5864062014806 := by omega
  obtain ⟨j, hj, hz0, hz1, hz2⟩ := info79
  have hB := hms.szB
  have hlo := hms.lsz
  have hlM := hms.lM
  have hlR := hms.lR
  clear hcl hc2
  go_enter Tryz.func68, Tryz.ntmps68
  go_wp2_with fail
  refine (at_any B lo M R p ps _ (hms.alloc _) (by omega)).mono ?_
  rintro e w1 ⟨rfl, hm1, hz1b⟩
  simp only [World.size_alloc] at hz1b
  have hcn : ∀ o, w1.cell? ⟨w.heap.size, o, none⟩ = _ := fun o => hm1.mf.cell (k := w.heap.size) (o := o) (by simp) (by omega) (by omega)
  go_wp2_with fail
  have hstart := CInv.start (bd := bd) (d := d) (sel := false) (p := p) (p + 1) hm1.ms (by omega) (by omega) (by omega)
  rw [hz1b] at hstart
  go_loopg [18] bd.length (fun g vi wr => ∃ (k : Nat) (vo : Value), k + g = bd.length ∧ vi = .int .i64 k ∧ CInv B lo M R p ps (w1.alloc (.cells #[.int .i64 (p + 1), .slice none 0 0, .int .i64 0] 76)) (w.heap.size + 1) (p + 1) bd d false 1 k vo wr)
  case atStart => exact ⟨0, _, by omega, rfl, hstart⟩
  case round =>
    obtain ⟨i, vo, hi, rfl, ⟨xs, ys, p2, ps2, q1, q2, q3, q4, q5, q6, q7, q8, q9⟩, hblk, hnil⟩ := hrel
    have hsz : w.heap.size + 1 + 1 ≤ wr.heap.size := by have := q5.size; simp at this; omega
    have hcw : ∀ o, wr.cell? ⟨w.heap.size, o, none⟩ = _ := fun o => (q5.cell (k := w.heap.size) (o := o) (by omega) (by omega) (by omega)).trans ((World.cell?_alloc_past _ _ _ (by omega)).trans (hcn o))
    by_cases hlt : i < bd.length
    · have hbw : Below B w wr := ((Below.refl _ _).alloc hB _).trans ((hm1.mf.below (by simp; omega) hms.bM hms.bR).trans (((Below.refl _ _).alloc (by omega) _).trans (q5.below (by omega) hms.bM hms.bR)))
      obtain ⟨g1, y, a', cap', g2, g3, g4, g5⟩ := (ELL.keep (H' := B) (fun q hq => hbw.block q hq) (Nat.le_refl _) h4).at i hlt
      obtain rfl := h3 (by rintro rfl; simp at hlt)
      have hmem : y ∈ bd := List.mem_of_getElem? g3
      obtain ⟨thr', hfi⟩ := HFI.out y hmem
      have hrt := rkB_take bd i _ g3
      have hle := rkB_take_le bd (i + 1)
      have hbr : b < wr.heap.size := by omega
      have hpk : p2 + 16 * rkL y + 10 < 4611686018427387904 := by omega
      have HG3 := Lib.hid g3
      have HG5 := Lib.hid g5
      have HBW := Lib.hid hbw
      have HF := Lib.hid hfi
      have HQ := Lib.hid (And.intro q1 (And.intro q2 (And.intro q3 (And.intro q5 (And.intro q6 (And.intro q7 (And.intro q8 (And.intro q9 hblk))))))))
      clear q1 q2 q3 q5 q6 q7 q8 q9 hblk hnil g2 g3 g5 hbw hfi hrt hle h3 hcn hstart
      have hcw' := hcw
      clear hcw
      go_wp2_with fail
      refine (at_any B lo M R p2 ps2 _ q4 (by omega)).mono ?_
      rintro e wA ⟨rfl, hmA, hzA⟩
      have hcA : ∀ o, wA.cell? ⟨w.heap.size, o, none⟩ = _ := fun o => (hmA.mf.cell (k := w.heap.size) (o := o) (by omega) (by omega) (by omega)).trans (hcw' o)
      have hn0 : w.heap.size < wr.heap.size := by omega
      have hn1 : w.heap.size + 1 < wr.heap.size := by omega
      clear hcw'
      have hmX := hmA.alloc (.cells #[.int .i64 (p2 + 1), .slice none 0 0, .int .i64 0, .slice none 0 0] 194)
      have hXc : (wA.alloc (.cells #[.int .i64 (p2 + 1), .slice none 0 0, .int .i64 0, .slice none 0 0] 194)).heap[wr.heap.size]? = some (.cells #[.int .i64 (p2 + 1), .slice none 0 0, .int .i64 0, .slice none 0 0] 194 (0, 0)) := by rw [← hzA]; exact blk_new _ _ _
      by_cases hd : (i : Int) = d
      · have hdn : ((i : Int) != d) = false := by rw [bne_eq_false_iff_eq]; exact hd
        have HD := Lib.hid hd
        clear hd
        go_wp2_with fail
        refine (at_any B lo M R (p2 + 1) ps2 _ hmX.ms (by omega)).mono ?_
        rintro e wC ⟨rfl, hmC, hzC⟩
        have hCC : wC.heap[wr.heap.size]? = some (.cells #[.int .i64 (p2 + 1), .slice none 0 0, .int .i64 0, .slice none 0 0] 194 (0, 0)) := (hmC.mf.block _ (by simp; omega) (by omega) (by omega)).trans hXc
        have hcC : wC.cell? ⟨wr.heap.size, 2, none⟩ = some (.int .i64 0) := by rw [blk_cell hCC]; rfl
        have hfC := blk_frz hCC
        have hszX := hmX.size
        have hszC : wr.heap.size < wC.heap.size := by have := hmC.size; simp at this; omega
        have hm4 := (hmX.trans hmC).setCell (a := ⟨wr.heap.size, 2, none⟩) (Nat.le_refl _) (by simp; omega) (.int .i64 ((p2 + 1) + 1))
        have HCC := Lib.hid (blk_set (o := 2) hCC (.int .i64 ((p2 + 1) + 1)))
        have HMC := Lib.hid hmC
        clear hmC hzC hcA hXc hmX hmA hCC
        go_wp2_with fail
        have hbL : Below B wr (wC.setCell ⟨wr.heap.size, 2, none⟩ (.int .i64 ((p2 + 1) + 1))) := hm4.mf.below (by omega) hms.bM hms.bR
        refine (HLS.out y hmem thr' B lo M R ((p2 + 1) + 1) ps2 _ a' cap' HF.out (HG5.out.below hbL (Nat.le_refl _)) hm4.ms (by omega)).mono ?_
        rintro e wL ⟨ts, sa, cap2, p6, ps6, rfl, ht, ⟨b2, r1, r2⟩, r3, hmL, hfL⟩
        have hLc : wL.heap[wr.heap.size]? = some (.cells #[.int .i64 (p2 + 1), .slice none 0 0, .int .i64 ((p2 + 1) + 1), .slice none 0 0] 194 (0, 0)) := (hmL.mf.block _ (by simp; omega) (by omega) (by omega)).trans HCC.out
        have hm5 := (hm4.trans hmL).setCell (a := ⟨wr.heap.size, 3, none⟩) (Nat.le_refl _) (by simp; omega) (.slice sa y.length cap2)
        have hszL := hmL.size
        simp only [World.size_setCell] at hszL
        have hLa : wL.heap[w.heap.size + 1]? = some (.cells #[.int .i64 (p + 1), vo, .int .i64 0] 76 (0, 0)) := ((hm4.trans hmL).mf.block _ (by omega) (by omega) (by omega)).trans HQ.out.2.2.2.2.2.2.2.2
        have hown2 : (wL.setCell ⟨wr.heap.size, 3, none⟩ (.slice sa y.length cap2)).ownsRow (w.heap.size + 1 + 1) 79 1 vo i xs := ownsRow_keep HQ.out.1 fun g e => by
          obtain ⟨t1, t2, _⟩ := ownsRow_row HQ.out.1 e
          rw [blk_far _ (by simp; omega)]
          exact (hm4.trans hmL).mf.block g t2 (by omega) (by omega)
        have hcL : wL.cell? ⟨wr.heap.size, 3, none⟩ = some (.slice none 0 0) := by rw [blk_cell hLc]; rfl
        have hfL2 := blk_frz hLc
        have hcLa : wL.cell? ⟨w.heap.size + 1, 1, none⟩ = some vo := by rw [blk_cell hLa]; rfl
        have hszL2 : wr.heap.size < wL.heap.size := by omega
        have hn1L : w.heap.size + 1 < wL.heap.size := by omega
        have hci : CIt (wL.setCell ⟨wr.heap.size, 3, none⟩ (.slice sa y.length cap2)) wr.heap.size (wL.setCell ⟨wr.heap.size, 3, none⟩ (.slice sa y.length cap2)).heap.size ps6 false i d (.iface 192 (.pointer (some ⟨wr.heap.size, 0, none⟩))) ts := by
          have hel := erL_length ts
          rw [ht] at hel
          have hcc := blk_cell (blk_set (o := 3) hLc (.slice sa y.length cap2))
          refine ⟨wr.heap.size, rfl, Nat.le_refl _, by simp; omega, fun hsel => ?_, sa, cap2, by rw [hcc, ← hel]; rfl, by have := HG5.out.1; have := HG5.out.2.1; omega, b2, 0, r1, ?_⟩
          · rw [if_pos HD.out, hcc]; rfl
          · have r4 := r2.setCell (a := ⟨wr.heap.size, 3, none⟩) (.slice sa y.length cap2) (.inl (by simp; omega))
            exact TL.keepG ⟨fun _ _ _ => rfl, fun _ _ _ => rfl⟩ (by simp; omega) (by simp) r4
        have HM5 := Lib.hid hm5
        have HT := Lib.hid ht
        have HCI := Lib.hid hci
        have HFL := Lib.hid (hfL.mono (lo' := wr.heap.size) (hi' := (wL.setCell ⟨wr.heap.size, 3, none⟩ (.slice sa y.length cap2)).heap.size) (by simp; omega) (by simp))
        have HLA := Lib.hid hLa
        clear hm5 ht hci hfL hLa hLc hmL r1 r2 r3 hm4 HCC hbL hcC hfC
        go_wp2_with (at_builtin; refine wpList_append_lies _ rfl _ _ 53 rfl (w.heap.size + 1 + 1) 79 j .nilIface 1 16 Tryz.underlying53 hj hz0 hz1 hz2 rfl (by decide) vo i xs (by rfl) (hown2.alloc _) ⟨wL.heap.size, 0, none⟩ 1 1 [.iface 192 (.pointer (some ⟨wr.heap.size, 0, none⟩))] (by rfl) rfl ?c1 ?c2 (by omega) ?c3 ?c4 ?c5 (wL.heap.size + 1) (by simp) ?_)
        case c1 => rw [show wL.heap.size = (wL.setCell ⟨wr.heap.size, 3, none⟩ (.slice sa y.length cap2)).heap.size from by simp]; exact World.news_of_block (heap_alloc_new _ _)
        case c2 => intro u hu; simp at hu; subst hu; rfl
        case c3 => unfold maxLen; omega
        case c4 => omega
        case c5 => simp; omega
        intro g cap3 w7 hown3 hg3 hat3 hlt3
        have h7a : w7.heap[w.heap.size + 1]? = some (.cells #[.int .i64 (p + 1), vo, .int .i64 0] 76 (0, 0)) := by
          rw [hg3.block _ (by simp; omega) (fun e => by have := (ownsRow_row HQ.out.1 e.symm).1; omega), Below.heap_alloc _ _ _ (by simp; omega), blk_far _ (by simp; omega)]
          exact HLA.out
        have hc7 : w7.cell? ⟨w.heap.size + 1, 1, none⟩ = some vo := by rw [blk_cell h7a]; rfl
        have hf7 := blk_frz h7a
        have hL := CInv.step (cc := 1 + 1 + 16 * rkL y) (by omega) HG3.out (by omega) (by omega) HQ.out.1 HQ.out.2.1 HQ.out.2.2.1 HQ.out.2.2.2.1 HQ.out.2.2.2.2.1 HQ.out.2.2.2.2.2.1 HQ.out.2.2.2.2.2.2.1 HQ.out.2.2.2.2.2.2.2.1 HQ.out.2.2.2.2.2.2.2.2 HM5.out HT.out HCI.out HFL.out hown3 hg3 (by simpa using hat3)
        have HL := Lib.hid hL
        clear hL hown3 hg3 hat3 hlt3 hown2 h7a
        go_wp2_with fail
        go_roundg (gk - 1)
        case measure => omega
        case rel => exact ⟨i + 1, _, by omega, by go_num, HL.out⟩
      · have hdn : ((i : Int) != d) = true := by rw [bne_iff_ne]; exact hd
        have HD := Lib.hid hd
        clear hd
        go_wp2_with fail
        refine (number_any B lo M R (p2 + 1) ps2 i _ hmX.ms (by omega) (by omega) (by omega)).mono ?_
        rintro e wN ⟨x, rfl, x1, x2, p3, hmN⟩
        have hNc : wN.heap[wr.heap.size]? = some (.cells #[.int .i64 (p2 + 1), .slice none 0 0, .int .i64 0, .slice none 0 0] 194 (0, 0)) := (hmN.mf.block _ (by simp; omega) (by omega) (by omega)).trans hXc
        have hcN : wN.cell? ⟨wr.heap.size, 1, none⟩ = some (.slice none 0 0) := by rw [blk_cell hNc]; rfl
        have hfN := blk_frz hNc
        have u3 := hmN.ub
        have hszN : wr.heap.size < wN.heap.size := by have := hmN.size; simp at this; omega
        have hmY := ((hmX.trans hmN).setCell (a := ⟨wr.heap.size, 1, none⟩) (Nat.le_refl _) (by simp; omega) (.slice (some ⟨wN.heap.size, 0, none⟩) 1 1)).alloc (.cells #[.iface 215 (.pointer (some ⟨x, 0, none⟩))] 123)
        have hYc : ((wN.setCell ⟨wr.heap.size, 1, none⟩ (.slice (some ⟨wN.heap.size, 0, none⟩) 1 1)).alloc (.cells #[.iface 215 (.pointer (some ⟨x, 0, none⟩))] 123)).heap[wr.heap.size]? = some (.cells #[.int .i64 (p2 + 1), .slice (some ⟨wN.heap.size, 0, none⟩) 1 1, .int .i64 0, .slice none 0 0] 194 (0, 0)) := by
          rw [Below.heap_alloc _ _ _ (by simp; omega)]; exact blk_set hNc _
        clear hcA hXc hmX hmA hmN hNc x1 x2
        go_wp2_with fail
        refine (at_any B lo M R p3 ps2 _ hmY.ms (by omega)).mono ?_
        rintro e wC ⟨rfl, hmC, hzC⟩
        have hCC : wC.heap[wr.heap.size]? = some (.cells #[.int .i64 (p2 + 1), .slice (some ⟨wN.heap.size, 0, none⟩) 1 1, .int .i64 0, .slice none 0 0] 194 (0, 0)) := (hmC.mf.block _ (by simp; omega) (by omega) (by omega)).trans hYc
        have hcC : wC.cell? ⟨wr.heap.size, 2, none⟩ = some (.int .i64 0) := by rw [blk_cell hCC]; rfl
        have hfC := blk_frz hCC
        have hszX := hmY.size
        have hszC : wr.heap.size < wC.heap.size := by have := hmC.size; simp at this; omega
        have hm4 := (hmY.trans hmC).setCell (a := ⟨wr.heap.size, 2, none⟩) (Nat.le_refl _) (by simp; omega) (.int .i64 (p3 + 1))
        have HCC := Lib.hid (blk_set (o := 2) hCC (.int .i64 (p3 + 1)))
        have HMC := Lib.hid hmC
        clear hmC hzC hYc hmY hcN hfN hCC
        go_wp2_with fail
        have hbL : Below B wr (wC.setCell ⟨wr.heap.size, 2, none⟩ (.int .i64 (p3 + 1))) := hm4.mf.below (by omega) hms.bM hms.bR
        refine (HLS.out y hmem thr' B lo M R (p3 + 1) ps2 _ a' cap' HF.out (HG5.out.below hbL (Nat.le_refl _)) hm4.ms (by omega)).mono ?_
        rintro e wL ⟨ts, sa, cap2, p6, ps6, rfl, ht, ⟨b2, r1, r2⟩, r3, hmL, hfL⟩
        have hLc : wL.heap[wr.heap.size]? = some (.cells #[.int .i64 (p2 + 1), .slice (some ⟨wN.heap.size, 0, none⟩) 1 1, .int .i64 (p3 + 1), .slice none 0 0] 194 (0, 0)) := (hmL.mf.block _ (by simp; omega) (by omega) (by omega)).trans HCC.out
        have hm5 := (hm4.trans hmL).setCell (a := ⟨wr.heap.size, 3, none⟩) (Nat.le_refl _) (by simp; omega) (.slice sa y.length cap2)
        have hszL := hmL.size
        simp only [World.size_setCell] at hszL
        have hLa : wL.heap[w.heap.size + 1]? = some (.cells #[.int .i64 (p + 1), vo, .int .i64 0] 76 (0, 0)) := ((hm4.trans hmL).mf.block _ (by omega) (by omega) (by omega)).trans HQ.out.2.2.2.2.2.2.2.2
        have hown2 : (wL.setCell ⟨wr.heap.size, 3, none⟩ (.slice sa y.length cap2)).ownsRow (w.heap.size + 1 + 1) 79 1 vo i xs := ownsRow_keep HQ.out.1 fun g e => by
          obtain ⟨t1, t2, _⟩ := ownsRow_row HQ.out.1 e
          rw [blk_far _ (by simp; omega)]
          exact (hm4.trans hmL).mf.block g t2 (by omega) (by omega)
        have hcL : wL.cell? ⟨wr.heap.size, 3, none⟩ = some (.slice none 0 0) := by rw [blk_cell hLc]; rfl
        have hfL2 := blk_frz hLc
        have hcLa : wL.cell? ⟨w.heap.size + 1, 1, none⟩ = some vo := by rw [blk_cell hLa]; rfl
        have hszL2 : wr.heap.size < wL.heap.size := by omega
        have hn1L : w.heap.size + 1 < wL.heap.size := by omega
        have hci : CIt (wL.setCell ⟨wr.heap.size, 3, none⟩ (.slice sa y.length cap2)) wr.heap.size (wL.setCell ⟨wr.heap.size, 3, none⟩ (.slice sa y.length cap2)).heap.size ps6 false i d (.iface 192 (.pointer (some ⟨wr.heap.size, 0, none⟩))) ts := by
          have hel := erL_length ts
          rw [ht] at hel
          have hcc := blk_cell (blk_set (o := 3) hLc (.slice sa y.length cap2))
          refine ⟨wr.heap.size, rfl, Nat.le_refl _, by simp; omega, fun hsel => ?_, sa, cap2, by rw [hcc, ← hel]; rfl, by have := HG5.out.1; have := HG5.out.2.1; omega, b2, 0, r1, ?_⟩
          · rw [if_neg HD.out, hcc]; exact ⟨_, rfl⟩
          · have r4 := r2.setCell (a := ⟨wr.heap.size, 3, none⟩) (.slice sa y.length cap2) (.inl (by simp; omega))
            exact TL.keepG ⟨fun _ _ _ => rfl, fun _ _ _ => rfl⟩ (by simp; omega) (by simp) r4
        have HM5 := Lib.hid hm5
        have HT := Lib.hid ht
        have HCI := Lib.hid hci
        have HFL := Lib.hid (hfL.mono (lo' := wr.heap.size) (hi' := (wL.setCell ⟨wr.heap.size, 3, none⟩ (.slice sa y.length cap2)).heap.size) (by simp; omega) (by simp))
        have HLA := Lib.hid hLa
        clear hm5 ht hci hfL hLa hLc hmL r1 r2 r3 hm4 HCC hbL hcC hfC
        go_wp2_with (at_builtin; refine wpList_append_lies _ rfl _ _ 53 rfl (w.heap.size + 1 + 1) 79 j .nilIface 1 16 Tryz.underlying53 hj hz0 hz1 hz2 rfl (by decide) vo i xs (by rfl) (hown2.alloc _) ⟨wL.heap.size, 0, none⟩ 1 1 [.iface 192 (.pointer (some ⟨wr.heap.size, 0, none⟩))] (by rfl) rfl ?c1 ?c2 (by omega) ?c3 ?c4 ?c5 (wL.heap.size + 1) (by simp) ?_)
        case c1 => rw [show wL.heap.size = (wL.setCell ⟨wr.heap.size, 3, none⟩ (.slice sa y.length cap2)).heap.size from by simp]; exact World.news_of_block (heap_alloc_new _ _)
        case c2 => intro u hu; simp at hu; subst hu; rfl
        case c3 => unfold maxLen; omega
        case c4 => omega
        case c5 => simp; omega
        intro g cap3 w7 hown3 hg3 hat3 hlt3
        have h7a : w7.heap[w.heap.size + 1]? = some (.cells #[.int .i64 (p + 1), vo, .int .i64 0] 76 (0, 0)) := by
          rw [hg3.block _ (by simp; omega) (fun e => by have := (ownsRow_row HQ.out.1 e.symm).1; omega), Below.heap_alloc _ _ _ (by simp; omega), blk_far _ (by simp; omega)]
          exact HLA.out
        have hc7 : w7.cell? ⟨w.heap.size + 1, 1, none⟩ = some vo := by rw [blk_cell h7a]; rfl
        have hf7 := blk_frz h7a
        have hL := CInv.step (cc := 1 + 2 + 1 + 16 * rkL y) (by omega) HG3.out (by omega) (by omega) HQ.out.1 HQ.out.2.1 HQ.out.2.2.1 HQ.out.2.2.2.1 HQ.out.2.2.2.2.1 HQ.out.2.2.2.2.2.1 HQ.out.2.2.2.2.2.2.1 HQ.out.2.2.2.2.2.2.2.1 HQ.out.2.2.2.2.2.2.2.2 HM5.out HT.out HCI.out HFL.out hown3 hg3 (by simpa using hat3)
        have HL := Lib.hid hL
        clear hL hown3 hg3 hat3 hlt3 hown2 h7a
        go_wp2_with fail
        go_roundg (gk - 1)
        case measure => omega
        case rel => exact ⟨i + 1, _, by omega, by go_num, HL.out⟩
    · obtain rfl : i = bd.length := by omega
      have HQ := Lib.hid (And.intro q1 (And.intro q2 (And.intro q3 (And.intro q5 (And.intro q6 (And.intro q7 (And.intro q8 (And.intro q9 hblk))))))))
      have HN := Lib.hid hnil
      have hm0 := hm1
      have hbb := q7
      rw [List.take_length] at hbb
      clear q1 q2 q3 q5 q6 q7 q8 q9 hblk hnil hcw hcn hstart
      go_wp2_with fail
      refine (at_any B lo M R p2 ps2 _ q4 (by omega)).mono ?_
      rintro e wE ⟨rfl, hmE, hzE⟩
      have hEa : wE.heap[w.heap.size + 1]? = some (.cells #[.int .i64 (p + 1), vo, .int .i64 0] 76 (0, 0)) := (hmE.mf.block _ (by omega) (by omega) (by omega)).trans HQ.out.2.2.2.2.2.2.2.2
      have hcE : wE.cell? ⟨w.heap.size + 1, 2, none⟩ = some (.int .i64 0) := by rw [blk_cell hEa]; rfl
      have hfE := blk_frz hEa
      go_wp2_with fail
      go_ret
      obtain ⟨q1, q2, q3, q5, q6, q7, q8, q9, q10⟩ := HQ.out
      rw [List.take_length] at q2 q7
      have hxl := q1.1
      have hll := q3.length
      have hel := erB_length ys
      rw [q2] at hel
      have hms7 := hmE.ms.setCell (a := ⟨w.heap.size + 1, 2, none⟩) (by simp; omega) (.int .i64 (p2 + 1))
      have hmf : MF w.heap.size M R w (wE.setCell ⟨w.heap.size + 1, 2, none⟩ (.int .i64 (p2 + 1))) :=
        ((((MF.refl _ _ _ _).alloc (Nat.le_refl _) _).trans (hm1.mf.mono (by simp))).trans ((((MF.refl _ _ _ _).alloc (by omega) _).trans (q5.mono (by omega))).trans (hmE.mf.mono (by omega)))).setCell (by simp) _
      have hnew : ∃ ns, ps2 = ps ++ ns ∧ ∀ q ∈ ns, w.heap.size ≤ q := by
        obtain ⟨ns, e1, e2⟩ := q8
        exact ⟨ns, e1, fun q hq => by have := e2 q hq; omega⟩
      have hkeep : Kept (w.heap.size + 1 + 1) wr.heap.size ps2 ps2 wr (wE.setCell ⟨w.heap.size + 1, 2, none⟩ (.int .i64 (p2 + 1))) :=
        ⟨fun q h1 h2 => by rw [blk_far _ (by simp; omega)]; exact hmE.mf.block q h2 (by omega) (by omega), fun _ _ _ => rfl⟩
      have hGC := q3.keep (w' := wE.setCell ⟨w.heap.size + 1, 2, none⟩ (.int .i64 (p2 + 1))) (Nat.le_refl _) (fun q h1 h2 _ => hkeep.heap q h1 h2) (fun _ _ => rfl)
      have hcc := blk_cell (blk_set (o := 2) hEa (.int .i64 (p2 + 1)))
      have hlast := fun (H : CS (wE.setCell ⟨w.heap.size + 1, 2, none⟩ (.int .i64 (p2 + 1))) w.heap.size (wE.setCell ⟨w.heap.size + 1, 2, none⟩ (.int .i64 (p2 + 1))).heap.size ps2 false (w.heap.size + 1) d ys) => (show RetCs B lo M R p ps w false d bd _ _ from
        ⟨w.heap.size + 1, ys, p2 + 1, ps2, rfl, q2, H, ⟨hms7, hmf, by omega, by omega, hnew⟩, q9.mono (by omega) (by simp; omega)⟩)
      refine hlast ?_
      by_cases h0 : bd.length = 0
      · have hv := HN.out h0
        obtain rfl : ys = [] := List.length_eq_zero_iff.1 (by omega)
        exact ⟨by omega, by simp; omega, none, 0, by rw [hcc, hv]; rfl, by simp, 0, 0, fun h => absurd rfl h, by rw [CL]; trivial⟩
      · obtain ⟨g, cap5, hv, r1, r2, r3⟩ := ownsRow_cell q1 (by omega)
        refine ⟨by omega, by simp; omega, some ⟨g, 0, none⟩, cap5, by rw [hcc, hv, ← hel]; rfl, by omega, g, 0, fun _ => rfl, hGC.toCL (by omega) (by simp; omega) (by omega) (by simp; omega) fun j u hu => ?_⟩
        exact hkeep.cell r1 r2 (r3 j u hu)
set_option maxRecDepth 100000 in
set_option maxHeartbeats 4000000 in
theorem cases_select (bd : List (List Fl)) (hls : ∀ y ∈ bd, MkLsC y) (hfi : ∀ y ∈ bd, ∃ thr, fiL y thr = true) (B lo M R : Nat) (p : Int) (ps : List Nat) (w : World) (k l d : Int) (a : Option Addr) (cap : Nat) (hk8 : (k == 8) = true)
    (hs : SLL w B a cap bd) (hms : MS B lo M R p ps w) (hp : p + 16 * rkB bd + 4 < 4611686018427387904) :
    Calls Tryz.prog 68 #[.pointer (some ⟨M, 0, none⟩), .agg #[.int .i64 k, .int .i64 l, .int .i64 d, .slice a bd.length cap]] w (RetCs B lo M R p ps w true d bd) := by
  have HLS := Lib.hid hls
  have HFI := Lib.hid hfi
  clear hls hfi
  obtain ⟨hcl, hc2, b, o, h3, h4⟩ := hs
  have hlen : bd.length ≤ 5864062014806 := by omega
  obtain ⟨j, hj, hz0, hz1, hz2⟩ := info79
  have hB := hms.szB
  have hlo := hms.lsz
  have hlM := hms.lM
  have hlR := hms.lR
  clear hcl hc2
  go_enter Tryz.func68, Tryz.ntmps68
  go_wp2_with fail
  refine (at_any B lo M R p ps _ (hms.alloc _) (by omega)).mono ?_
  rintro e w1 ⟨rfl, hm1, hz1b⟩
  simp only [World.size_alloc] at hz1b
  have hcn : ∀ o, w1.cell? ⟨w.heap.size, o, none⟩ = _ := fun o => hm1.mf.cell (k := w.heap.size) (o := o) (by simp) (by omega) (by omega)
  go_wp2_with fail
  have hstart := CInv.start (bd := bd) (d := d) (sel := true) (p := p) (p + 1) hm1.ms (by omega) (by omega) (by omega)
  rw [hz1b] at hstart
  go_loopg [18] bd.length (fun g vi wr => ∃ (k : Nat) (vo : Value), k + g = bd.length ∧ vi = .int .i64 k ∧ CInv B lo M R p ps (w1.alloc (.cells #[.int .i64 (p + 1), .slice none 0 0, .int .i64 0] 76)) (w.heap.size + 1) (p + 1) bd d true 1 k vo wr)
  case atStart => exact ⟨0, _, by omega, rfl, hstart⟩
  case round =>
    obtain ⟨i, vo, hi, rfl, ⟨xs, ys, p2, ps2, q1, q2, q3, q4, q5, q6, q7, q8, q9⟩, hblk, hnil⟩ := hrel
    have hsz : w.heap.size + 1 + 1 ≤ wr.heap.size := by have := q5.size; simp at this; omega
    have hcw : ∀ o, wr.cell? ⟨w.heap.size, o, none⟩ = _ := fun o => (q5.cell (k := w.heap.size) (o := o) (by omega) (by omega) (by omega)).trans ((World.cell?_alloc_past _ _ _ (by omega)).trans (hcn o))
    by_cases hlt : i < bd.length
    · have hbw : Below B w wr := ((Below.refl _ _).alloc hB _).trans ((hm1.mf.below (by simp; omega) hms.bM hms.bR).trans (((Below.refl _ _).alloc (by omega) _).trans (q5.below (by omega) hms.bM hms.bR)))
      obtain ⟨g1, y, a', cap', g2, g3, g4, g5⟩ := (ELL.keep (H' := B) (fun q hq => hbw.block q hq) (Nat.le_refl _) h4).at i hlt
      obtain rfl := h3 (by rintro rfl; simp at hlt)
      have hmem : y ∈ bd := List.mem_of_getElem? g3
      obtain ⟨thr', hfi⟩ := HFI.out y hmem
      have hrt := rkB_take bd i _ g3
      have hle := rkB_take_le bd (i + 1)
      have hbr : b < wr.heap.size := by omega
      have hpk : p2 + 16 * rkL y + 10 < 4611686018427387904 := by omega
      have HG3 := Lib.hid g3
      have HG5 := Lib.hid g5
      have HBW := Lib.hid hbw
      have HF := Lib.hid hfi
      have HQ := Lib.hid (And.intro q1 (And.intro q2 (And.intro q3 (And.intro q5 (And.intro q6 (And.intro q7 (And.intro q8 (And.intro q9 hblk))))))))
      clear q1 q2 q3 q5 q6 q7 q8 q9 hblk hnil g2 g3 g5 hbw hfi hrt hle h3 hcn hstart
      have hcw' := hcw
      clear hcw
      go_wp2_with fail
      refine (at_any B lo M R p2 ps2 _ q4 (by omega)).mono ?_
      rintro e wA ⟨rfl, hmA, hzA⟩
      have hcA : ∀ o, wA.cell? ⟨w.heap.size, o, none⟩ = _ := fun o => (hmA.mf.cell (k := w.heap.size) (o := o) (by omega) (by omega) (by omega)).trans (hcw' o)
      have hn0 : w.heap.size < wr.heap.size := by omega
      have hn1 : w.heap.size + 1 < wr.heap.size := by omega
      clear hcw'
      have hmX := hmA.alloc (.cells #[.int .i64 (p2 + 1), .nilIface, .int .i64 0, .slice none 0 0] 197)
      have hXc : (wA.alloc (.cells #[.int .i64 (p2 + 1), .nilIface, .int .i64 0, .slice none 0 0] 197)).heap[wr.heap.size]? = some (.cells #[.int .i64 (p2 + 1), .nilIface, .int .i64 0, .slice none 0 0] 197 (0, 0)) := by rw [← hzA]; exact blk_new _ _ _
      by_cases hd : (i : Int) = d
      · have hdn : ((i : Int) != d) = false := by rw [bne_eq_false_iff_eq]; exact hd
        have HD := Lib.hid hd
        clear hd
        go_wp2_with fail
        refine (at_any B lo M R (p2 + 1) ps2 _ hmX.ms (by omega)).mono ?_
        rintro e wC ⟨rfl, hmC, hzC⟩
        have hCC : wC.heap[wr.heap.size]? = some (.cells #[.int .i64 (p2 + 1), .nilIface, .int .i64 0, .slice none 0 0] 197 (0, 0)) := (hmC.mf.block _ (by simp; omega) (by omega) (by omega)).trans hXc
        have hcC : wC.cell? ⟨wr.heap.size, 2, none⟩ = some (.int .i64 0) := by rw [blk_cell hCC]; rfl
        have hfC := blk_frz hCC
        have hszX := hmX.size
        have hszC : wr.heap.size < wC.heap.size := by have := hmC.size; simp at this; omega
        have hm4 := (hmX.trans hmC).setCell (a := ⟨wr.heap.size, 2, none⟩) (Nat.le_refl _) (by simp; omega) (.int .i64 ((p2 + 1) + 1))
        have HCC := Lib.hid (blk_set (o := 2) hCC (.int .i64 ((p2 + 1) + 1)))
        have HMC := Lib.hid hmC
        clear hmC hzC hcA hXc hmX hmA hCC
        go_wp2_with fail
        have hbL : Below B wr (wC.setCell ⟨wr.heap.size, 2, none⟩ (.int .i64 ((p2 + 1) + 1))) := hm4.mf.below (by omega) hms.bM hms.bR
        refine (HLS.out y hmem thr' B lo M R ((p2 + 1) + 1) ps2 _ a' cap' HF.out (HG5.out.below hbL (Nat.le_refl _)) hm4.ms (by omega)).mono ?_
        rintro e wL ⟨ts, sa, cap2, p6, ps6, rfl, ht, ⟨b2, r1, r2⟩, r3, hmL, hfL⟩
        have hLc : wL.heap[wr.heap.size]? = some (.cells #[.int .i64 (p2 + 1), .nilIface, .int .i64 ((p2 + 1) + 1), .slice none 0 0] 197 (0, 0)) := (hmL.mf.block _ (by simp; omega) (by omega) (by omega)).trans HCC.out
        have hm5 := (hm4.trans hmL).setCell (a := ⟨wr.heap.size, 3, none⟩) (Nat.le_refl _) (by simp; omega) (.slice sa y.length cap2)
        have hszL := hmL.size
        simp only [World.size_setCell] at hszL
        have hLa : wL.heap[w.heap.size + 1]? = some (.cells #[.int .i64 (p + 1), vo, .int .i64 0] 76 (0, 0)) := ((hm4.trans hmL).mf.block _ (by omega) (by omega) (by omega)).trans HQ.out.2.2.2.2.2.2.2.2
        have hown2 : (wL.setCell ⟨wr.heap.size, 3, none⟩ (.slice sa y.length cap2)).ownsRow (w.heap.size + 1 + 1) 79 1 vo i xs := ownsRow_keep HQ.out.1 fun g e => by
          obtain ⟨t1, t2, _⟩ := ownsRow_row HQ.out.1 e
          rw [blk_far _ (by simp; omega)]
          exact (hm4.trans hmL).mf.block g t2 (by omega) (by omega)
        have hcL : wL.cell? ⟨wr.heap.size, 3, none⟩ = some (.slice none 0 0) := by rw [blk_cell hLc]; rfl
        have hfL2 := blk_frz hLc
        have hcLa : wL.cell? ⟨w.heap.size + 1, 1, none⟩ = some vo := by rw [blk_cell hLa]; rfl
        have hszL2 : wr.heap.size < wL.heap.size := by omega
        have hn1L : w.heap.size + 1 < wL.heap.size := by omega
        have hci : CIt (wL.setCell ⟨wr.heap.size, 3, none⟩ (.slice sa y.length cap2)) wr.heap.size (wL.setCell ⟨wr.heap.size, 3, none⟩ (.slice sa y.length cap2)).heap.size ps6 true i d (.iface 195 (.pointer (some ⟨wr.heap.size, 0, none⟩))) ts := by
          have hel := erL_length ts
          rw [ht] at hel
          have hcc := blk_cell (blk_set (o := 3) hLc (.slice sa y.length cap2))
          refine ⟨wr.heap.size, rfl, Nat.le_refl _, by simp; omega, fun hsel => ?_, sa, cap2, by rw [hcc, ← hel]; rfl, by have := HG5.out.1; have := HG5.out.2.1; omega, b2, 0, r1, ?_⟩
          · cases hsel
          · have r4 := r2.setCell (a := ⟨wr.heap.size, 3, none⟩) (.slice sa y.length cap2) (.inl (by simp; omega))
            exact TL.keepG ⟨fun _ _ _ => rfl, fun _ _ _ => rfl⟩ (by simp; omega) (by simp) r4
        have HM5 := Lib.hid hm5
        have HT := Lib.hid ht
        have HCI := Lib.hid hci
        have HFL := Lib.hid (hfL.mono (lo' := wr.heap.size) (hi' := (wL.setCell ⟨wr.heap.size, 3, none⟩ (.slice sa y.length cap2)).heap.size) (by simp; omega) (by simp))
        have HLA := Lib.hid hLa
        clear hm5 ht hci hfL hLa hLc hmL r1 r2 r3 hm4 HCC hbL hcC hfC
        go_wp2_with (at_builtin; refine wpList_append_lies _ rfl _ _ 53 rfl (w.heap.size + 1 + 1) 79 j .nilIface 1 16 Tryz.underlying53 hj hz0 hz1 hz2 rfl (by decide) vo i xs (by rfl) (hown2.alloc _) ⟨wL.heap.size, 0, none⟩ 1 1 [.iface 195 (.pointer (some ⟨wr.heap.size, 0, none⟩))] (by rfl) rfl ?c1 ?c2 (by omega) ?c3 ?c4 ?c5 (wL.heap.size + 1) (by simp) ?_)
        case c1 => rw [show wL.heap.size = (wL.setCell ⟨wr.heap.size, 3, none⟩ (.slice sa y.length cap2)).heap.size from by simp]; exact World.news_of_block (heap_alloc_new _ _)
        case c2 => intro u hu; simp at hu; subst hu; rfl
        case c3 => unfold maxLen; omega
        case c4 => omega
        case c5 => simp; omega
        intro g cap3 w7 hown3 hg3 hat3 hlt3
        have h7a : w7.heap[w.heap.size + 1]? = some (.cells #[.int .i64 (p + 1), vo, .int .i64 0] 76 (0, 0)) := by
          rw [hg3.block _ (by simp; omega) (fun e => by have := (ownsRow_row HQ.out.1 e.symm).1; omega), Below.heap_alloc _ _ _ (by simp; omega), blk_far _ (by simp; omega)]
          exact HLA.out
        have hc7 : w7.cell? ⟨w.heap.size + 1, 1, none⟩ = some vo := by rw [blk_cell h7a]; rfl
        have hf7 := blk_frz h7a
        have hL := CInv.step (cc := 1 + 1 + 16 * rkL y) (by omega) HG3.out (by omega) (by omega) HQ.out.1 HQ.out.2.1 HQ.out.2.2.1 HQ.out.2.2.2.1 HQ.out.2.2.2.2.1 HQ.out.2.2.2.2.2.1 HQ.out.2.2.2.2.2.2.1 HQ.out.2.2.2.2.2.2.2.1 HQ.out.2.2.2.2.2.2.2.2 HM5.out HT.out HCI.out HFL.out hown3 hg3 (by simpa using hat3)
        have HL := Lib.hid hL
        clear hL hown3 hg3 hat3 hlt3 hown2 h7a
        go_wp2_with fail
        go_roundg (gk - 1)
        case measure => omega
        case rel => exact ⟨i + 1, _, by omega, by go_num, HL.out⟩
      · have hdn : ((i : Int) != d) = true := by rw [bne_iff_ne]; exact hd
        have HD := Lib.hid hd
        clear hd
        go_wp2_with fail
        refine (at_any B lo M R (p2 + 1) ps2 _ hmX.ms (by omega)).mono ?_
        rintro e wN ⟨rfl, hmN, hzN⟩
        have hmN' := hmX.trans hmN
        have hNc0 := (hmN.mf.block wr.heap.size (by simp; omega) (by omega) (by omega)).trans hXc
        clear hcA hXc hmX hmA hmN
        go_wp2_with fail
        refine (name_any B lo M R (p2 + 1 + 1) ps2 _ _ hmN'.ms (by omega)).mono ?_
        rintro e wO ⟨ix, qx, rfl, x1, x2, x3, x4, p3, hmO⟩
        have hNc := (hmO.mf.block wr.heap.size (by have := hmN'.size; simp at hzN; omega) (by omega) (by omega)).trans hNc0
        have hcN : wO.cell? ⟨wr.heap.size, 1, none⟩ = some .nilIface := by rw [blk_cell hNc]; rfl
        have hfN := blk_frz hNc
        have u3 := hmO.ub
        have hszN : wr.heap.size < wO.heap.size := by have := hmO.size; simp at hzN; omega
        have hmY := (((hmN'.trans hmO).setCell (a := ⟨wr.heap.size, 1, none⟩) (Nat.le_refl _) (by simp; omega) (.iface 121 (.pointer (some ⟨wO.heap.size + 1, 0, none⟩)))).alloc (.cells #[.int .i64 (p2 + 1 + 1), .int .i64 36, .iface 101 (.pointer (some ⟨ix, 0, none⟩))] 221)).alloc (.cells #[.iface 219 (.pointer (some ⟨wO.heap.size, 0, none⟩))] 125)
        have hYc : (((wO.setCell ⟨wr.heap.size, 1, none⟩ (.iface 121 (.pointer (some ⟨wO.heap.size + 1, 0, none⟩)))).alloc (.cells #[.int .i64 (p2 + 1 + 1), .int .i64 36, .iface 101 (.pointer (some ⟨ix, 0, none⟩))] 221)).alloc (.cells #[.iface 219 (.pointer (some ⟨wO.heap.size, 0, none⟩))] 125)).heap[wr.heap.size]? = some (.cells #[.int .i64 (p2 + 1), .iface 121 (.pointer (some ⟨wO.heap.size + 1, 0, none⟩)), .int .i64 0, .slice none 0 0] 197 (0, 0)) := by
          rw [Below.heap_alloc _ _ _ (by simp; omega), Below.heap_alloc _ _ _ (by simp; omega)]; exact blk_set hNc _
        clear x3 x4 hNc0 hmN' hmO hNc x1 x2 hzN
        go_wp2_with fail
        refine (at_any B lo M R p3 ps2 _ hmY.ms (by omega)).mono ?_
        rintro e wC ⟨rfl, hmC, hzC⟩
        have hCC : wC.heap[wr.heap.size]? = some (.cells #[.int .i64 (p2 + 1), .iface 121 (.pointer (some ⟨wO.heap.size + 1, 0, none⟩)), .int .i64 0, .slice none 0 0] 197 (0, 0)) := (hmC.mf.block _ (by simp; omega) (by omega) (by omega)).trans hYc
        have hcC : wC.cell? ⟨wr.heap.size, 2, none⟩ = some (.int .i64 0) := by rw [blk_cell hCC]; rfl
        have hfC := blk_frz hCC
        have hszX := hmY.size
        have hszC : wr.heap.size < wC.heap.size := by have := hmC.size; simp at this; omega
        have hm4 := (hmY.trans hmC).setCell (a := ⟨wr.heap.size, 2, none⟩) (Nat.le_refl _) (by simp; omega) (.int .i64 (p3 + 1))
        have HCC := Lib.hid (blk_set (o := 2) hCC (.int .i64 (p3 + 1)))
        have HMC := Lib.hid hmC
        clear hmC hzC hYc hmY hcN hfN hCC
        go_wp2_with fail
        have hbL : Below B wr (wC.setCell ⟨wr.heap.size, 2, none⟩ (.int .i64 (p3 + 1))) := hm4.mf.below (by omega) hms.bM hms.bR
        refine (HLS.out y hmem thr' B lo M R (p3 + 1) ps2 _ a' cap' HF.out (HG5.out.below hbL (Nat.le_refl _)) hm4.ms (by omega)).mono ?_
        rintro e wL ⟨ts, sa, cap2, p6, ps6, rfl, ht, ⟨b2, r1, r2⟩, r3, hmL, hfL⟩
        have hLc : wL.heap[wr.heap.size]? = some (.cells #[.int .i64 (p2 + 1), .iface 121 (.pointer (some ⟨wO.heap.size + 1, 0, none⟩)), .int .i64 (p3 + 1), .slice none 0 0] 197 (0, 0)) := (hmL.mf.block _ (by simp; omega) (by omega) (by omega)).trans HCC.out
        have hm5 := (hm4.trans hmL).setCell (a := ⟨wr.heap.size, 3, none⟩) (Nat.le_refl _) (by simp; omega) (.slice sa y.length cap2)
        have hszL := hmL.size
        simp only [World.size_setCell] at hszL
        have hLa : wL.heap[w.heap.size + 1]? = some (.cells #[.int .i64 (p + 1), vo, .int .i64 0] 76 (0, 0)) := ((hm4.trans hmL).mf.block _ (by omega) (by omega) (by omega)).trans HQ.out.2.2.2.2.2.2.2.2
        have hown2 : (wL.setCell ⟨wr.heap.size, 3, none⟩ (.slice sa y.length cap2)).ownsRow (w.heap.size + 1 + 1) 79 1 vo i xs := ownsRow_keep HQ.out.1 fun g e => by
          obtain ⟨t1, t2, _⟩ := ownsRow_row HQ.out.1 e
          rw [blk_far _ (by simp; omega)]
          exact (hm4.trans hmL).mf.block g t2 (by omega) (by omega)
        have hcL : wL.cell? ⟨wr.heap.size, 3, none⟩ = some (.slice none 0 0) := by rw [blk_cell hLc]; rfl
        have hfL2 := blk_frz hLc
        have hcLa : wL.cell? ⟨w.heap.size + 1, 1, none⟩ = some vo := by rw [blk_cell hLa]; rfl
        have hszL2 : wr.heap.size < wL.heap.size := by omega
        have hn1L : w.heap.size + 1 < wL.heap.size := by omega
        have hci : CIt (wL.setCell ⟨wr.heap.size, 3, none⟩ (.slice sa y.length cap2)) wr.heap.size (wL.setCell ⟨wr.heap.size, 3, none⟩ (.slice sa y.length cap2)).heap.size ps6 true i d (.iface 195 (.pointer (some ⟨wr.heap.size, 0, none⟩))) ts := by
          have hel := erL_length ts
          rw [ht] at hel
          have hcc := blk_cell (blk_set (o := 3) hLc (.slice sa y.length cap2))
          refine ⟨wr.heap.size, rfl, Nat.le_refl _, by simp; omega, fun hsel => ?_, sa, cap2, by rw [hcc, ← hel]; rfl, by have := HG5.out.1; have := HG5.out.2.1; omega, b2, 0, r1, ?_⟩
          · cases hsel
          · have r4 := r2.setCell (a := ⟨wr.heap.size, 3, none⟩) (.slice sa y.length cap2) (.inl (by simp; omega))
            exact TL.keepG ⟨fun _ _ _ => rfl, fun _ _ _ => rfl⟩ (by simp; omega) (by simp) r4
        have HM5 := Lib.hid hm5
        have HT := Lib.hid ht
        have HCI := Lib.hid hci
        have HFL := Lib.hid (hfL.mono (lo' := wr.heap.size) (hi' := (wL.setCell ⟨wr.heap.size, 3, none⟩ (.slice sa y.length cap2)).heap.size) (by simp; omega) (by simp))
        have HLA := Lib.hid hLa
        clear hm5 ht hci hfL hLa hLc hmL r1 r2 r3 hm4 HCC hbL hcC hfC
        go_wp2_with (at_builtin; refine wpList_append_lies _ rfl _ _ 53 rfl (w.heap.size + 1 + 1) 79 j .nilIface 1 16 Tryz.underlying53 hj hz0 hz1 hz2 rfl (by decide) vo i xs (by rfl) (hown2.alloc _) ⟨wL.heap.size, 0, none⟩ 1 1 [.iface 195 (.pointer (some ⟨wr.heap.size, 0, none⟩))] (by rfl) rfl ?c1 ?c2 (by omega) ?c3 ?c4 ?c5 (wL.heap.size + 1) (by simp) ?_)
        case c1 => rw [show wL.heap.size = (wL.setCell ⟨wr.heap.size, 3, none⟩ (.slice sa y.length cap2)).heap.size from by simp]; exact World.news_of_block (heap_alloc_new _ _)
        case c2 => intro u hu; simp at hu; subst hu; rfl
        case c3 => unfold maxLen; omega
        case c4 => omega
        case c5 => simp; omega
        intro g cap3 w7 hown3 hg3 hat3 hlt3
        have h7a : w7.heap[w.heap.size + 1]? = some (.cells #[.int .i64 (p + 1), vo, .int .i64 0] 76 (0, 0)) := by
          rw [hg3.block _ (by simp; omega) (fun e => by have := (ownsRow_row HQ.out.1 e.symm).1; omega), Below.heap_alloc _ _ _ (by simp; omega), blk_far _ (by simp; omega)]
          exact HLA.out
        have hc7 : w7.cell? ⟨w.heap.size + 1, 1, none⟩ = some vo := by rw [blk_cell h7a]; rfl
        have hf7 := blk_frz h7a
        have hL := CInv.step (cc := 1 + 1 + 1 + 1 + 16 * rkL y) (by omega) HG3.out (by omega) (by omega) HQ.out.1 HQ.out.2.1 HQ.out.2.2.1 HQ.out.2.2.2.1 HQ.out.2.2.2.2.1 HQ.out.2.2.2.2.2.1 HQ.out.2.2.2.2.2.2.1 HQ.out.2.2.2.2.2.2.2.1 HQ.out.2.2.2.2.2.2.2.2 HM5.out HT.out HCI.out HFL.out hown3 hg3 (by simpa using hat3)
        have HL := Lib.hid hL
        clear hL hown3 hg3 hat3 hlt3 hown2 h7a
        go_wp2_with fail
        go_roundg (gk - 1)
        case measure => omega
        case rel => exact ⟨i + 1, _, by omega, by go_num, HL.out⟩
    · obtain rfl : i = bd.length := by omega
      have HQ := Lib.hid (And.intro q1 (And.intro q2 (And.intro q3 (And.intro q5 (And.intro q6 (And.intro q7 (And.intro q8 (And.intro q9 hblk))))))))
      have HN := Lib.hid hnil
      have hm0 := hm1
      have hbb := q7
      rw [List.take_length] at hbb
      clear q1 q2 q3 q5 q6 q7 q8 q9 hblk hnil hcw hcn hstart
      go_wp2_with fail
      refine (at_any B lo M R p2 ps2 _ q4 (by omega)).mono ?_
      rintro e wE ⟨rfl, hmE, hzE⟩
      have hEa : wE.heap[w.heap.size + 1]? = some (.cells #[.int .i64 (p + 1), vo, .int .i64 0] 76 (0, 0)) := (hmE.mf.block _ (by omega) (by omega) (by omega)).trans HQ.out.2.2.2.2.2.2.2.2
      have hcE : wE.cell? ⟨w.heap.size + 1, 2, none⟩ = some (.int .i64 0) := by rw [blk_cell hEa]; rfl
      have hfE := blk_frz hEa
      go_wp2_with fail
      go_ret
      obtain ⟨q1, q2, q3, q5, q6, q7, q8, q9, q10⟩ := HQ.out
      rw [List.take_length] at q2 q7
      have hxl := q1.1
      have hll := q3.length
      have hel := erB_length ys
      rw [q2] at hel
      have hms7 := hmE.ms.setCell (a := ⟨w.heap.size + 1, 2, none⟩) (by simp; omega) (.int .i64 (p2 + 1))
      have hmf : MF w.heap.size M R w (wE.setCell ⟨w.heap.size + 1, 2, none⟩ (.int .i64 (p2 + 1))) :=
        ((((MF.refl _ _ _ _).alloc (Nat.le_refl _) _).trans (hm1.mf.mono (by simp))).trans ((((MF.refl _ _ _ _).alloc (by omega) _).trans (q5.mono (by omega))).trans (hmE.mf.mono (by omega)))).setCell (by simp) _
      have hnew : ∃ ns, ps2 = ps ++ ns ∧ ∀ q ∈ ns, w.heap.size ≤ q := by
        obtain ⟨ns, e1, e2⟩ := q8
        exact ⟨ns, e1, fun q hq => by have := e2 q hq; omega⟩
      have hkeep : Kept (w.heap.size + 1 + 1) wr.heap.size ps2 ps2 wr (wE.setCell ⟨w.heap.size + 1, 2, none⟩ (.int .i64 (p2 + 1))) :=
        ⟨fun q h1 h2 => by rw [blk_far _ (by simp; omega)]; exact hmE.mf.block q h2 (by omega) (by omega), fun _ _ _ => rfl⟩
      have hGC := q3.keep (w' := wE.setCell ⟨w.heap.size + 1, 2, none⟩ (.int .i64 (p2 + 1))) (Nat.le_refl _) (fun q h1 h2 _ => hkeep.heap q h1 h2) (fun _ _ => rfl)
      have hcc := blk_cell (blk_set (o := 2) hEa (.int .i64 (p2 + 1)))
      have hlast := fun (H : CS (wE.setCell ⟨w.heap.size + 1, 2, none⟩ (.int .i64 (p2 + 1))) w.heap.size (wE.setCell ⟨w.heap.size + 1, 2, none⟩ (.int .i64 (p2 + 1))).heap.size ps2 true (w.heap.size + 1) d ys) => (show RetCs B lo M R p ps w true d bd _ _ from
        ⟨w.heap.size + 1, ys, p2 + 1, ps2, rfl, q2, H, ⟨hms7, hmf, by omega, by omega, hnew⟩, q9.mono (by omega) (by simp; omega)⟩)
      refine hlast ?_
      by_cases h0 : bd.length = 0
      · have hv := HN.out h0
        obtain rfl : ys = [] := List.length_eq_zero_iff.1 (by omega)
        exact ⟨by omega, by simp; omega, none, 0, by rw [hcc, hv]; rfl, by simp, 0, 0, fun h => absurd rfl h, by rw [CL]; trivial⟩
      · obtain ⟨g, cap5, hv, r1, r2, r3⟩ := ownsRow_cell q1 (by omega)
        refine ⟨by omega, by simp; omega, some ⟨g, 0, none⟩, cap5, by rw [hcc, hv, ← hel]; rfl, by omega, g, 0, fun _ => rfl, hGC.toCL (by omega) (by simp; omega) (by omega) (by simp; omega) fun j u hu => ?_⟩
        exact hkeep.cell r1 r2 (r3 j u hu)
end Go.Proofs.YtpodifbgfcclbaaGreatDoor
