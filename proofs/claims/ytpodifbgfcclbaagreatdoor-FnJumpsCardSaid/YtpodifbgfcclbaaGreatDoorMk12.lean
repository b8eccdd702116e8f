/- The maker's label and its function literal. -/
import Derived.Test.YtpodifbgfcclbaaGreatDoorMk11
set_option linter.unusedVariables false
set_option linter.unusedSimpArgs false
namespace Go.Proofs.YtpodifbgfcclbaaGreatDoor
open Go.RowKit
attribute [local go_sem] Nat.lt_add_one_of_lt

set_option maxRecDepth 100000 in
set_option maxHeartbeats 4000000 in
theorem mk_19 (B lo M R : Nat) (p : Int) (ps : List Nat) (w : World) (l d : Int) (bd : List (List Fl)) (a : Option Addr) (cap : Nat) (hl2 : bd.length < 2) (hbd : BodyC bd)
    (hs : SLL w B a cap bd) (hms : MS B lo M R p ps w) (hp : p + 16 * rk (.mk 19 l d bd) < 4611686018427387904) :
    Calls Tryz.prog 69 #[.pointer (some ⟨M, 0, none⟩), .agg #[.int .i64 19, .int .i64 l, .int .i64 d, .slice a bd.length cap]] w (RetSt B lo M R p ps w (.mk 19 l d bd)) := by
  have hrp := rkL_part bd 0
  have hrp1 := rkL_part bd 1
  rw [rk_mk] at hp
  have hlM := hms.lM
  have hlR := hms.lR
  have hlo := hms.lsz
  have hB := hms.szB
  have hbM := hms.bM
  have hbR := hms.bR
  have hp0 : p + 16 * rkB bd + 16 < 4611686018427387904 := by omega
  have HS := Lib.hid hs
  have HMS := Lib.hid hms
  clear hs hms hp
  have HBD := Lib.hid hbd
  clear hbd
  go_enter Tryz.func69, Tryz.ntmps69
  go_wp2_with fail
  go_region_held3 (fun w' => w'.cell? ⟨w.heap.size, 0, none⟩ = some (.int .i64 19) ∧ w'.cell? ⟨w.heap.size, 1, none⟩ = some (.int .i64 l) ∧ w'.cell? ⟨w.heap.size, 2, none⟩ = some (.int .i64 d) ∧ w'.cell? ⟨w.heap.size, 3, none⟩ = some (.slice a bd.length cap)) (go_keep)
    (first | (go_at_call 45; refine (at_any B lo M R p ps _ (by exact (HMS.out.alloc _).drew) (by omega)).mono ?_; rintro e w1 ⟨rfl, hm1, hz1⟩; have hT1 := MkTo.trans (((MkTo.refl HMS.out).alloc _).drew) hm1; have hy1 : w.heap.size < w1.heap.size := (by have := hm1.size; simp at this; omega); have hcn1 : ∀ o, w1.cell? ⟨w.heap.size, o, none⟩ = _ := fun o => hm1.mf.cell (k := w.heap.size) (o := o) (by simp) (by omega) (by omega)) | (go_at_call 45; refine (at_any B lo M R (p + 1) ps _ (by exact hT1.ms) (by omega)).mono ?_; rintro e w2 ⟨rfl, hm2, hz2⟩; have hT2 := MkTo.trans hT1 hm2; have hy2 : w.heap.size < w2.heap.size := (by omega); have hcn2 : ∀ o, w2.cell? ⟨w.heap.size, o, none⟩ = _ := fun o => (hm2.mf.cell (k := w.heap.size) (o := o) (by omega) (by omega) (by omega)).trans (hcn1 o)) | (go_at_call 45; refine (at_any B lo M R (p + 1 + 1) ps _ (by exact hT2.ms) (by omega)).mono ?_; rintro e w3 ⟨rfl, hm3, hz3⟩; have hT3 := MkTo.trans hT2 hm3; have hy3 : w.heap.size < w3.heap.size := (by omega); have hcn3 : ∀ o, w3.cell? ⟨w.heap.size, o, none⟩ = _ := fun o => (hm3.mf.cell (k := w.heap.size) (o := o) (by omega) (by omega) (by omega)).trans (hcn2 o)) | (go_at_call 37; refine (HBD.out 0 B lo M R (p + 1 + 1 + 1) ps _ 19 l d a cap (by omega) (by exact HS.out.below (hT3.mf.below hB hbM hbR) (Nat.le_refl _)) (by exact hT3.ms) (by omega)).mono ?_; rintro e w4 ⟨a4, ts4, sa4, cap4, b4, p4, ps4, rfl, e14, e24, e34, e44, e54, e64, e74, hm4, e94⟩; have hT4 := MkTo.trans (by exact hT3) hm4; have hu4 := hm4.ub; have hn4 := hm4.le; have hy4 : w.heap.size < w4.heap.size := (by have := hm4.size; omega); have hcn4 : ∀ o, w4.cell? ⟨w.heap.size, o, none⟩ = _ := fun o => (hm4.mf.cell (k := w.heap.size) (o := o) (by omega) (by omega) (by omega)).trans (hcn3 o); clear hm4 e34 e44 e54 e64 e74 e94) | (go_at_call 37; refine (HBD.out 0 B lo M R (p + 1 + 1 + 1) ps _ 19 l d a cap (by omega) (by exact HS.out.below ((hT3.alloc _).mf.below hB hbM hbR) (Nat.le_refl _)) (by exact (hT3.alloc _).ms) (by omega)).mono ?_; rintro e w4 ⟨a4, ts4, sa4, cap4, b4, p4, ps4, rfl, e14, e24, e34, e44, e54, e64, e74, hm4, e94⟩; have hT4 := MkTo.trans (by exact (hT3.alloc _)) hm4; have hu4 := hm4.ub; have hn4 := hm4.le; have hy4 : w.heap.size < w4.heap.size := (by have := hm4.size; simp only [World.size_alloc] at this; omega); have hcn4 : ∀ o, w4.cell? ⟨w.heap.size, o, none⟩ = _ := fun o => (hm4.mf.cell (k := w.heap.size) (o := o) (by simp; omega) (by omega) (by omega)).trans ((World.cell?_alloc_past _ _ _ (by omega)).trans (hcn3 o)); clear hm4 e34 e44 e54 e64 e74 e94) | (go_at_call 37; refine (HBD.out 0 B lo M R (p + 1 + 1 + 1) ps _ 19 l d a cap (by omega) (by exact HS.out.below (((hT3.alloc _).alloc _).mf.below hB hbM hbR) (Nat.le_refl _)) (by exact ((hT3.alloc _).alloc _).ms) (by omega)).mono ?_; rintro e w4 ⟨a4, ts4, sa4, cap4, b4, p4, ps4, rfl, e14, e24, e34, e44, e54, e64, e74, hm4, e94⟩; have hT4 := MkTo.trans (by exact ((hT3.alloc _).alloc _)) hm4; have hu4 := hm4.ub; have hn4 := hm4.le; have hy4 : w.heap.size < w4.heap.size := (by have := hm4.size; simp only [World.size_alloc] at this; omega); have hcn4 : ∀ o, w4.cell? ⟨w.heap.size, o, none⟩ = _ := fun o => (hm4.mf.cell (k := w.heap.size) (o := o) (by simp; omega) (by omega) (by omega)).trans ((World.cell?_alloc_past _ _ _ (by simp; omega)).trans ((World.cell?_alloc_past _ _ _ (by omega)).trans (hcn3 o))); clear hm4 e34 e44 e54 e64 e74 e94))
  all_goals
    have hps := HMS.out
    clear hm1 hm2 hm3 hT1 hT2 hT3 hcn1 hcn2 hcn3 hcn4
    go_wp2_with fail
    refine (at_any B lo M R p4 ps4 _ (by first | exact (hT4.alloc _).ms | exact ((hT4.alloc _).alloc _).ms | exact (((hT4.alloc _).alloc _).alloc _).ms) (by omega)).mono ?_
    rintro e w5 ⟨rfl, hm5, hz5⟩
    have hs5 := hm5.size
    simp only [World.size_alloc] at hs5
    have hT5 := MkTo.trans (by first | exact (hT4.alloc _) | exact ((hT4.alloc _).alloc _) | exact (((hT4.alloc _).alloc _).alloc _)) hm5
    clear hm5 hz5 hT4
    go_wp2_with fail
    refine (at_any B lo M R (p4 + 1) ps4 _ hT5.ms (by omega)).mono ?_
    rintro e w6 ⟨rfl, hm6, hz6⟩
    have hT6 := Lib.hid (MkTo.trans hT5 hm6)
    have hs6 := hm6.size
    clear hm6 hT5 hz6
    go_wp2_with fail
    go_ret
    refine ⟨121, _, .mk (w6.heap.size + 1) 19 l d (liftB bd), p4 + 1 + 1, ps4, rfl, by rw [er_mk, erB_lift], ST_19.2 ⟨by omega, by simp, rfl, ⟨w6.heap.size, by omega, by simp; omega, cell_top (by simp) rfl, hT6.out.ms.notin (Nat.le_refl _), (own_alloc _ _ _).imp fun cs e => (Below.heap_alloc _ _ _ (by simp)).trans e⟩⟩, ((hT6.out.alloc _).alloc _).more (by rw [rk_mk]; omega), by rw [gts]; simp; exact Fresh.nil _ _⟩

set_option maxRecDepth 100000 in
set_option maxHeartbeats 4000000 in
theorem mk_10a (B lo M R : Nat) (p : Int) (ps : List Nat) (w : World) (l d : Int) (bd : List (List Fl)) (a : Option Addr) (cap : Nat) (hl1 : -1 ≤ l) (hl2 : l ≤ 9) (hl0 : l ≠ 0) (hbd : bd = [])
    (hs : SLL w B a cap bd) (hms : MS B lo M R p ps w) (hp : p + 16 * rk (.mk 10 l d bd) < 4611686018427387904) :
    Calls Tryz.prog 69 #[.pointer (some ⟨M, 0, none⟩), .agg #[.int .i64 10, .int .i64 l, .int .i64 d, .slice a bd.length cap]] w (RetSt B lo M R p ps w (.mk 10 l d bd)) := by
  have hrp := rkL_part bd 0
  have hrp1 := rkL_part bd 1
  rw [rk_mk] at hp
  have hlM := hms.lM
  have hlR := hms.lR
  have hlo := hms.lsz
  have hB := hms.szB
  have hbM := hms.bM
  have hbR := hms.bR
  have hp0 : p + 16 * rkB bd + 16 < 4611686018427387904 := by omega
  have HS := Lib.hid hs
  have HMS := Lib.hid hms
  clear hs hms hp
  subst hbd
  go_enter Tryz.func69, Tryz.ntmps69
  go_wp2_with fail
  refine (label_any B lo M R p ps l _ (HMS.out.alloc _) (by omega) hl1 hl2).mono ?_
  rintro e w1 ⟨ix1, rfl, x11, p1, hm1⟩
  have hT1 := MkTo.trans (((MkTo.refl HMS.out).alloc _)) hm1
  have hs1 := hm1.size
  have hu1 := hm1.ub
  have hcn1 : ∀ o, w1.cell? ⟨w.heap.size, o, none⟩ = _ := fun o => hm1.mf.cell (k := w.heap.size) (o := o) (by simp) (by omega) (by omega)
  simp only [World.size_alloc] at hs1 x11
  have hs1' : w.heap.size < w1.heap.size := by omega
  clear hm1
  go_wp2_with fail
  refine (at_any B lo M R p1 ps _ hT1.ms (by omega)).mono ?_
  rintro e w2 ⟨rfl, hm2, hz2⟩
  have hT2 := MkTo.trans hT1 hm2
  have hk2 : ∀ i o, w.heap.size < i → i < w1.heap.size → w2.cell? ⟨i, o, none⟩ = w1.cell? ⟨i, o, none⟩ := fun i o h1 h2 => hm2.mf.cell h2 (by omega) (by omega)
  have hcn2 : ∀ o, w2.cell? ⟨w.heap.size, o, none⟩ = _ := fun o => (hm2.mf.cell (k := w.heap.size) (o := o) (by omega) (by omega) (by omega)).trans (hcn1 o)
  have hs2' : w.heap.size < w2.heap.size := by omega
  have HK2 := Lib.hid hk2
  have HX := Lib.hid x11
  have hT2b := Lib.hid (hT2.alloc (.cells #[.pointer ix1, .int .i64 (p1 + 1), .nilIface] 177))
  clear hm2 hT1 hcn1 hk2 x11 hT2
  go_wp2_with fail
  refine (at_any B lo M R (p1 + 1) ps _ hT2b.out.ms (by omega)).mono ?_
  rintro e w3 ⟨rfl, hm3, hz3⟩
  have hs3 := hm3.size
  simp only [World.size_alloc] at hs3 hz3
  have hcn3 : ∀ o, w3.cell? ⟨w1.heap.size, o, none⟩ = _ := fun o => hm3.mf.cell (k := w1.heap.size) (o := o) (by simp [hz2]) (by omega) (by omega)
  have hfz3 : ∀ o, w3.frozen? ⟨w1.heap.size, o, none⟩ = _ := fun o => hm3.mf.frozen (k := w1.heap.size) (o := o) (by simp [hz2]) (by omega) (by omega)
  have hcn3b : ∀ o, w3.cell? ⟨w1.heap.size, o, none⟩ = (w2.alloc (.cells #[.pointer ix1, .int .i64 (p1 + 1), .nilIface] 177)).cell? ⟨w2.heap.size, o, none⟩ := fun o => (hcn3 o).trans (by rw [hz2])
  have hfz3b : ∀ o, w3.frozen? ⟨w1.heap.size, o, none⟩ = (w2.alloc (.cells #[.pointer ix1, .int .i64 (p1 + 1), .nilIface] 177)).frozen? ⟨w2.heap.size, o, none⟩ := fun o => (hfz3 o).trans (by rw [hz2])
  have hk3 : ∀ i o, w.heap.size < i → i < w1.heap.size → w3.cell? ⟨i, o, none⟩ = w1.cell? ⟨i, o, none⟩ := fun i o h1 h2 => (hm3.mf.cell (k := i) (o := o) (by simp; omega) (by omega) (by omega)).trans ((World.cell?_alloc_past _ _ _ (by omega)).trans (HK2.out i o h1 h2))
  have HK3 := Lib.hid hk3
  have hy3 : w1.heap.size < w3.heap.size := by omega
  have hT4 := Lib.hid (((MkTo.trans hT2b.out hm3).setCell (a := ⟨w1.heap.size, 2, none⟩) (by simp; omega) (by simp; omega) (.iface 112 (.pointer (some ⟨w1.heap.size + 1, 0, none⟩)))).alloc (.cells #[.int .i64 (p1 + 1 + 1), .bool false] 224))
  clear hm3 hcn3 hfz3 hcn2 hk3
  go_wp2_with fail
  go_ret
  refine ⟨156, _, .mk w1.heap.size 10 l d [], p1 + 1 + 1, ps, rfl, by rw [er_mk, erB_nil], ST_10.2 ⟨by omega, by simp; omega, rfl, by simp, ?_, hl0, .iface 112 (.pointer (some ⟨w1.heap.size + 1, 0, none⟩)), ?_, by rw [SI]; exact ⟨_, rfl⟩⟩, hT4.out.more (by rw [rk_mk]; omega), by rw [gts]; simp [gtsB, gtsL]; exact Fresh.nil _ _⟩
  · refine nl_of (w := w1) (x := ix1) (lo := w.heap.size + 1) (H := w1.heap.size) hl1 hl2 ?_ (by omega) HX.out (fun i o h1 h2 => ?_) (by omega) (by simp; omega)
    · rw [World.cell?_alloc_past _ _ _ (by simp; omega), sc_other (by simp), hcn3b]; simp
    · rw [World.cell?_alloc_past _ _ _ (by simp; omega), sc_other (by simp; omega)]; exact HK3.out i o (by omega) h2
  · rw [World.cell?_alloc_past _ _ _ (by simp; omega)]
    exact sc_same (u := .nilIface) (by rw [hcn3b]; simp)

set_option maxRecDepth 100000 in
set_option maxHeartbeats 4000000 in
theorem mk_10b (B lo M R : Nat) (p : Int) (ps : List Nat) (w : World) (l d : Int) (bd : List (List Fl)) (a : Option Addr) (cap : Nat) (hl1 : -1 ≤ l) (hl2 : l ≤ 9) (hl0 : l ≠ 0) (hbd : bd = [[]])
    (hs : SLL w B a cap bd) (hms : MS B lo M R p ps w) (hp : p + 16 * rk (.mk 10 l d bd) < 4611686018427387904) :
    Calls Tryz.prog 69 #[.pointer (some ⟨M, 0, none⟩), .agg #[.int .i64 10, .int .i64 l, .int .i64 d, .slice a bd.length cap]] w (RetSt B lo M R p ps w (.mk 10 l d bd)) := by
  have hrp := rkL_part bd 0
  have hrp1 := rkL_part bd 1
  rw [rk_mk] at hp
  have hlM := hms.lM
  have hlR := hms.lR
  have hlo := hms.lsz
  have hB := hms.szB
  have hbM := hms.bM
  have hbR := hms.bR
  have hp0 : p + 16 * rkB bd + 16 < 4611686018427387904 := by omega
  have HS := Lib.hid hs
  have HMS := Lib.hid hms
  clear hs hms hp
  subst hbd
  obtain ⟨hcl, hc2, b, o, h3, h4⟩ := HS.out
  obtain ⟨g1, y, a', cap', g2, g3, g4, g5⟩ := h4.at 0 (by simp)
  obtain rfl := h3 (by simp)
  simp only [List.getElem?_cons_zero, Option.some.injEq] at g3
  subst g3
  simp only [Nat.add_zero, List.length_nil, List.length_cons] at g4
  have hbw : b < w.heap.size := by omega
  have hbm : b < M := by omega
  have hbr : b < R := by omega
  clear h3 g2
  go_enter Tryz.func69, Tryz.ntmps69
  go_wp2_with fail
  refine (label_any B lo M R p ps l _ (HMS.out.alloc _) (by omega) hl1 hl2).mono ?_
  rintro e w1 ⟨ix1, rfl, x11, p1, hm1⟩
  have hT1 := MkTo.trans (((MkTo.refl HMS.out).alloc _)) hm1
  have hs1 := hm1.size
  have hu1 := hm1.ub
  have hcn1 : ∀ o, w1.cell? ⟨w.heap.size, o, none⟩ = _ := fun o => hm1.mf.cell (k := w.heap.size) (o := o) (by simp) (by omega) (by omega)
  have hcb1 : ∀ o, w1.cell? ⟨b, o, none⟩ = w.cell? ⟨b, o, none⟩ := fun o => (hm1.mf.cell (k := b) (o := o) (by simp; omega) (by omega) (by omega)).trans (World.cell?_alloc_past _ _ _ (by omega))
  simp only [World.size_alloc] at hs1 x11
  have hs1' : w.heap.size < w1.heap.size := by omega
  clear hm1
  go_wp2_with fail
  refine (at_any B lo M R p1 ps _ hT1.ms (by omega)).mono ?_
  rintro e w2 ⟨rfl, hm2, hz2⟩
  have hT2 := MkTo.trans hT1 hm2
  have hk2 : ∀ i o, w.heap.size < i → i < w1.heap.size → w2.cell? ⟨i, o, none⟩ = w1.cell? ⟨i, o, none⟩ := fun i o h1 h2 => hm2.mf.cell h2 (by omega) (by omega)
  have hcn2 : ∀ o, w2.cell? ⟨w.heap.size, o, none⟩ = _ := fun o => (hm2.mf.cell (k := w.heap.size) (o := o) (by omega) (by omega) (by omega)).trans (hcn1 o)
  have hcb2 : ∀ o, w2.cell? ⟨b, o, none⟩ = w.cell? ⟨b, o, none⟩ := fun o => (hm2.mf.cell (k := b) (o := o) (by omega) (by omega) (by omega)).trans (hcb1 o)
  have hdum : True := trivial
  have hbw2 : b < w2.heap.size := by omega
  have hbw1 : b < w1.heap.size := by omega
  have hs2' : w.heap.size < w2.heap.size := by omega
  have HK2 := Lib.hid hk2
  have HX := Lib.hid x11
  have hT2b := Lib.hid (hT2.alloc (.cells #[.pointer ix1, .int .i64 (p1 + 1), .nilIface] 177))
  clear hm2 hT1 hcn1 hk2 x11 hT2 hcb1
  go_wp2_with fail
  refine (at_any B lo M R (p1 + 1) ps _ hT2b.out.ms (by omega)).mono ?_
  rintro e w3 ⟨rfl, hm3, hz3⟩
  have hs3 := hm3.size
  simp only [World.size_alloc] at hs3 hz3
  have hcn3 : ∀ o, w3.cell? ⟨w1.heap.size, o, none⟩ = _ := fun o => hm3.mf.cell (k := w1.heap.size) (o := o) (by simp [hz2]) (by omega) (by omega)
  have hfz3 : ∀ o, w3.frozen? ⟨w1.heap.size, o, none⟩ = _ := fun o => hm3.mf.frozen (k := w1.heap.size) (o := o) (by simp [hz2]) (by omega) (by omega)
  have hcn3b : ∀ o, w3.cell? ⟨w1.heap.size, o, none⟩ = (w2.alloc (.cells #[.pointer ix1, .int .i64 (p1 + 1), .nilIface] 177)).cell? ⟨w2.heap.size, o, none⟩ := fun o => (hcn3 o).trans (by rw [hz2])
  have hfz3b : ∀ o, w3.frozen? ⟨w1.heap.size, o, none⟩ = (w2.alloc (.cells #[.pointer ix1, .int .i64 (p1 + 1), .nilIface] 177)).frozen? ⟨w2.heap.size, o, none⟩ := fun o => (hfz3 o).trans (by rw [hz2])
  have hk3 : ∀ i o, w.heap.size < i → i < w1.heap.size → w3.cell? ⟨i, o, none⟩ = w1.cell? ⟨i, o, none⟩ := fun i o h1 h2 => (hm3.mf.cell (k := i) (o := o) (by simp; omega) (by omega) (by omega)).trans ((World.cell?_alloc_past _ _ _ (by omega)).trans (HK2.out i o h1 h2))
  have HK3 := Lib.hid hk3
  have hy3 : w1.heap.size < w3.heap.size := by omega
  have hT4 := Lib.hid (((MkTo.trans hT2b.out hm3).setCell (a := ⟨w1.heap.size, 2, none⟩) (by simp; omega) (by simp; omega) (.iface 112 (.pointer (some ⟨w1.heap.size + 1, 0, none⟩)))).alloc (.cells #[.int .i64 (p1 + 1 + 1), .bool false] 224))
  clear hcb2 hm3 hcn3 hfz3 hcn2 hk3
  go_wp2_with fail
  go_ret
  refine ⟨156, _, .mk w1.heap.size 10 l d [[]], p1 + 1 + 1, ps, rfl, by rw [er_mk, erB, erL_nil, erB_nil], ST_10.2 ⟨by omega, by simp; omega, rfl, by simp, ?_, hl0, .iface 112 (.pointer (some ⟨w1.heap.size + 1, 0, none⟩)), ?_, by rw [SI]; exact ⟨_, rfl⟩⟩, hT4.out.more (by rw [rk_mk]; omega), by rw [gts]; simp [gtsB, gtsL]; exact Fresh.nil _ _⟩
  · refine nl_of (w := w1) (x := ix1) (lo := w.heap.size + 1) (H := w1.heap.size) hl1 hl2 ?_ (by omega) HX.out (fun i o h1 h2 => ?_) (by omega) (by simp; omega)
    · rw [World.cell?_alloc_past _ _ _ (by simp; omega), sc_other (by simp), hcn3b]; simp
    · rw [World.cell?_alloc_past _ _ _ (by simp; omega), sc_other (by simp; omega)]; exact HK3.out i o (by omega) h2
  · rw [World.cell?_alloc_past _ _ _ (by simp; omega)]
    exact sc_same (u := .nilIface) (by rw [hcn3b]; simp)

theorem rkB_one (y : Fl) : rkB [[y]] = rk y + 1 := by simp [rkB, rkL]
set_option maxRecDepth 100000 in
set_option maxHeartbeats 4000000 in
theorem mk_10c (B lo M R : Nat) (p : Int) (ps : List Nat) (w : World) (l d : Int) (bd : List (List Fl)) (a : Option Addr) (cap : Nat) (hl1 : -1 ≤ l) (hl2 : l ≤ 9) (hl0 : l ≠ 0) (k2 l2 d2 : Int) (bd2 : List (List Fl)) (thr : Bool) (hst1 : stF (.mk k2 l2 d2 bd2) thr = true) (hst : MkStC (.mk k2 l2 d2 bd2)) (hbd : bd = [[.mk k2 l2 d2 bd2]])
    (hs : SLL w B a cap bd) (hms : MS B lo M R p ps w) (hp : p + 16 * rk (.mk 10 l d bd) < 4611686018427387904) :
    Calls Tryz.prog 69 #[.pointer (some ⟨M, 0, none⟩), .agg #[.int .i64 10, .int .i64 l, .int .i64 d, .slice a bd.length cap]] w (RetSt B lo M R p ps w (.mk 10 l d bd)) := by
  have hrp := rkL_part bd 0
  have hrp1 := rkL_part bd 1
  rw [rk_mk] at hp
  have hlM := hms.lM
  have hlR := hms.lR
  have hlo := hms.lsz
  have hB := hms.szB
  have hbM := hms.bM
  have hbR := hms.bR
  have hp0 : p + 16 * rkB bd + 16 < 4611686018427387904 := by omega
  have HS := Lib.hid hs
  have HMS := Lib.hid hms
  clear hs hms hp
  subst hbd
  have HST := Lib.hid hst
  clear hst
  rw [rkB_one] at hp0
  obtain ⟨hcl, hc2, b, o, h3, h4⟩ := HS.out
  obtain ⟨g1, y, a', cap', g2, g3, g4, g5⟩ := h4.at 0 (by simp)
  obtain rfl := h3 (by simp)
  simp only [List.getElem?_cons_zero, Option.some.injEq] at g3
  subst g3
  simp only [Nat.add_zero, List.length_nil, List.length_cons] at g4
  have hbw : b < w.heap.size := by omega
  have hbm : b < M := by omega
  have hbr : b < R := by omega
  obtain ⟨gcl, gc2, b2, o2, g6, g7⟩ := g5
  obtain ⟨q1, q2, q3, q4, ⟨a2, cap2, q5, q6⟩, _⟩ := EL_cons.1 g7
  obtain rfl := g6 (by simp)
  have hbw2' : b2 < w.heap.size := by omega
  have hbm2 : b2 < M := by omega
  have hbr2 : b2 < R := by omega
  have HQ6 := Lib.hid q6
  clear h3 g2 g6 g7 q6
  go_enter Tryz.func69, Tryz.ntmps69
  go_wp2_with fail
  refine (label_any B lo M R p ps l _ (HMS.out.alloc _) (by omega) hl1 hl2).mono ?_
  rintro e w1 ⟨ix1, rfl, x11, p1, hm1⟩
  have hT1 := MkTo.trans (((MkTo.refl HMS.out).alloc _)) hm1
  have hs1 := hm1.size
  have hu1 := hm1.ub
  have hcn1 : ∀ o, w1.cell? ⟨w.heap.size, o, none⟩ = _ := fun o => hm1.mf.cell (k := w.heap.size) (o := o) (by simp) (by omega) (by omega)
  have hcb1 : ∀ o, w1.cell? ⟨b, o, none⟩ = w.cell? ⟨b, o, none⟩ := fun o => (hm1.mf.cell (k := b) (o := o) (by simp; omega) (by omega) (by omega)).trans (World.cell?_alloc_past _ _ _ (by omega))
  have hcb1b : ∀ o, w1.cell? ⟨b2, o, none⟩ = w.cell? ⟨b2, o, none⟩ := fun o => (hm1.mf.cell (k := b2) (o := o) (by simp; omega) (by omega) (by omega)).trans (World.cell?_alloc_past _ _ _ (by omega))
  simp only [World.size_alloc] at hs1 x11
  have hs1' : w.heap.size < w1.heap.size := by omega
  clear hm1
  go_wp2_with fail
  refine (at_any B lo M R p1 ps _ hT1.ms (by omega)).mono ?_
  rintro e w2 ⟨rfl, hm2, hz2⟩
  have hT2 := MkTo.trans hT1 hm2
  have hk2 : ∀ i o, w.heap.size < i → i < w1.heap.size → w2.cell? ⟨i, o, none⟩ = w1.cell? ⟨i, o, none⟩ := fun i o h1 h2 => hm2.mf.cell h2 (by omega) (by omega)
  have hcn2 : ∀ o, w2.cell? ⟨w.heap.size, o, none⟩ = _ := fun o => (hm2.mf.cell (k := w.heap.size) (o := o) (by omega) (by omega) (by omega)).trans (hcn1 o)
  have hcb2 : ∀ o, w2.cell? ⟨b, o, none⟩ = w.cell? ⟨b, o, none⟩ := fun o => (hm2.mf.cell (k := b) (o := o) (by omega) (by omega) (by omega)).trans (hcb1 o)
  have hcb2b : ∀ o, w2.cell? ⟨b2, o, none⟩ = w.cell? ⟨b2, o, none⟩ := fun o => (hm2.mf.cell (k := b2) (o := o) (by omega) (by omega) (by omega)).trans (hcb1b o)
  have hbw2b : b2 < w2.heap.size := by omega
  have hbw1b : b2 < w1.heap.size := by omega
  have hbw2 : b < w2.heap.size := by omega
  have hbw1 : b < w1.heap.size := by omega
  have hs2' : w.heap.size < w2.heap.size := by omega
  have HK2 := Lib.hid hk2
  have HX := Lib.hid x11
  have hT2b := Lib.hid (hT2.alloc (.cells #[.pointer ix1, .int .i64 (p1 + 1), .nilIface] 177))
  clear hm2 hT1 hcn1 hk2 x11 hT2 hcb1 hcb1b
  go_wp2_with fail
  refine (HST.out thr B lo M R (p1 + 1) ps _ k2 l2 d2 bd2 a2 cap2 hst1 rfl (by exact HQ6.out.below (hT2b.out.mf.below hB hbM hbR) (Nat.le_refl _)) hT2b.out.ms (by omega)).mono ?_
  rintro e w3 ⟨T, a3, t, p3, ps3, rfl, e13, e23, hm3, e43⟩
  have hs3 := hm3.size
  simp only [World.size_alloc] at hs3 e23 e43
  have hcn3 : ∀ o, w3.cell? ⟨w1.heap.size, o, none⟩ = _ := fun o => hm3.mf.cell (k := w1.heap.size) (o := o) (by simp [hz2]) (by omega) (by omega)
  have hfz3 : ∀ o, w3.frozen? ⟨w1.heap.size, o, none⟩ = _ := fun o => hm3.mf.frozen (k := w1.heap.size) (o := o) (by simp [hz2]) (by omega) (by omega)
  have hcn3b : ∀ o, w3.cell? ⟨w1.heap.size, o, none⟩ = (w2.alloc (.cells #[.pointer ix1, .int .i64 (p1 + 1), .nilIface] 177)).cell? ⟨w2.heap.size, o, none⟩ := fun o => (hcn3 o).trans (by rw [hz2])
  have hfz3b : ∀ o, w3.frozen? ⟨w1.heap.size, o, none⟩ = (w2.alloc (.cells #[.pointer ix1, .int .i64 (p1 + 1), .nilIface] 177)).frozen? ⟨w2.heap.size, o, none⟩ := fun o => (hfz3 o).trans (by rw [hz2])
  have hk3 : ∀ i o, w.heap.size < i → i < w1.heap.size → w3.cell? ⟨i, o, none⟩ = w1.cell? ⟨i, o, none⟩ := fun i o h1 h2 => (hm3.mf.cell (k := i) (o := o) (by simp; omega) (by omega) (by omega)).trans ((World.cell?_alloc_past _ _ _ (by omega)).trans (HK2.out i o h1 h2))
  have HK3 := Lib.hid hk3
  have hy3 : w1.heap.size < w3.heap.size := by omega
  have hT4 := Lib.hid ((MkTo.trans hT2b.out hm3).setCell (a := ⟨w1.heap.size, 2, none⟩) (by simp; omega) (by simp; omega) (.iface T (.pointer (some ⟨a3, 0, none⟩))))
  have HST3 := Lib.hid (ST.keepG (lo' := w.heap.size) (H' := w3.heap.size) (ps' := ps3) (w' := w3.setCell ⟨w1.heap.size, 2, none⟩ (.iface T (.pointer (some ⟨a3, 0, none⟩)))) (Kept.setCell _ _ _ (Or.inl (by simp; omega))) (by omega) (Nat.le_refl _) e23)
  clear hm3 hcn3 hfz3 hcn2 hk3 hcb2 hcb2b e23
  go_wp2_with fail
  go_ret
  refine ⟨156, _, .mk w1.heap.size 10 l d [[t]], p3, ps3, rfl, by rw [er_mk, erB, erB_nil, erL, erL_nil, e13], ST_10.2 ⟨by omega, by simp; omega, rfl, by simp, ?_, hl0, .iface T (.pointer (some ⟨a3, 0, none⟩)), ?_, by rw [SI]; exact ⟨rfl, by simpa using HST3.out⟩⟩, hT4.out.more (by simp only [rk_mk, rkB_one]; omega), by rw [gts]; simp [gtsB, gtsL]; exact e43.mono (by omega) (by omega)⟩
  · refine nl_of (w := w1) (x := ix1) (lo := w.heap.size + 1) (H := w1.heap.size) hl1 hl2 ?_ (by omega) HX.out (fun i o h1 h2 => ?_) (by omega) (by simp; omega)
    · rw [sc_other (by simp), hcn3b]; simp
    · rw [sc_other (by simp; omega)]; exact HK3.out i o (by omega) h2
  · exact sc_same (u := .nilIface) (by rw [hcn3b]; simp)

end Go.Proofs.YtpodifbgfcclbaaGreatDoor

/- The maker makes each statement that is in order. -/
set_option linter.unusedVariables false
set_option linter.unusedSimpArgs false
namespace Go.Proofs.YtpodifbgfcclbaaGreatDoor
open Go.RowKit

set_option maxHeartbeats 1000000 in
theorem mkst_of (k l d : Int) (bd : List (List Fl)) (hall : ∀ y ∈ bd, ∀ x ∈ y, MkStC x) : MkStC (.mk k l d bd) := by
  intro thr B lo M R p ps w k' l' d' bd' a cap hst he hs hms hp
  cases he
  have hls : ∀ y ∈ bd, MkLsC y := fun y hy => mkls_of y (hall y hy)
  rw [stF] at hst
  by_cases h0 : k < 0
  · rw [if_pos h0] at hst; cases hst
  rw [if_neg h0] at hst
  by_cases h20 : k > 20
  · rw [if_pos h20] at hst; cases hst
  rw [if_neg h20] at hst
  by_cases hl1 : l < -1
  · rw [if_pos hl1] at hst; cases hst
  rw [if_neg hl1] at hst
  by_cases hl2 : l > 9
  · rw [if_pos hl2] at hst; cases hst
  rw [if_neg hl2] at hst
  have hk : k = 0 ∨ k = 1 ∨ k = 2 ∨ k = 3 ∨ k = 4 ∨ k = 5 ∨ k = 6 ∨ k = 7 ∨ k = 8 ∨ k = 9 ∨ k = 10 ∨ k = 11 ∨ k = 12 ∨ k = 13 ∨ k = 14 ∨ k = 15 ∨ k = 16 ∨ k = 17 ∨ k = 18 ∨ k = 19 ∨ k = 20 := by omega
  have nil : bd.length = 0 → bd = [] := List.length_eq_zero_iff.1
  rcases hk with rfl | rfl | rfl | rfl | rfl | rfl | rfl | rfl | rfl | rfl | rfl | rfl | rfl | rfl | rfl | rfl | rfl | rfl | rfl | rfl | rfl <;>
    simp only [Int.reduceEq, reduceIte, Bool.and_eq_true, beq_iff_eq, decide_eq_true_eq, Bool.not_eq_true', beq_eq_false_iff_ne] at hst
  · exact mk_0 B lo M R p ps w l d bd a cap (nil hst.2) hs hms hp
  · exact mk_1 B lo M R p ps w l d bd a cap (nil hst.2) hs hms hp
  · exact mk_2 B lo M R p ps w l d bd a cap hst.1.2 (bodyC_of bd hls (liB_fi bd _ hst.2)) hs hms hp
  · exact mk_3 B lo M R p ps w l d bd a cap hst.1.2 (bodyC_of bd hls (liB_fi bd _ hst.2)) hs hms hp
  · exact mk_4 B lo M R p ps w l d bd a cap hst.1.2 (bodyC_of bd hls (liB_fi bd _ hst.2)) hs hms hp
  · exact mk_5 B lo M R p ps w l d bd a cap hst.1.2 (bodyC_of bd hls (liB_fi bd _ hst.2)) hs hms hp
  · exact mk_6 B lo M R p ps w l d bd a cap hls (liB_fi bd _ hst.2) hs hms hp
  · exact mk_7 B lo M R p ps w l d bd a cap hls (liB_fi bd _ hst.2) hs hms hp
  · exact mk_8 B lo M R p ps w l d bd a cap hls (liB_fi bd _ hst.2) hs hms hp
  · exact mk_9 B lo M R p ps w l d bd a cap hst.1.2 (bodyC_of bd hls (liB_fi bd _ hst.2)) hs hms hp
  · refine mk_through B lo M R p ps w 10 l d bd a cap (by decide) (fun w' hb hz hms' hs' => ?_) hs hms
    obtain ⟨⟨⟨g1, g2⟩, g3⟩, g4⟩ := hst
    rcases bd with _ | ⟨y, _ | ⟨z, zs⟩⟩
    · exact mk_10a B lo M R p ps w' l d [] a cap (by omega) (by omega) g1 rfl hs' hms' hp
    · rcases y with _ | ⟨⟨k2, l2, d2, b2⟩, _ | ⟨z, zs⟩⟩
      · exact mk_10b B lo M R p ps w' l d _ a cap (by omega) (by omega) g1 rfl hs' hms' hp
      · exact mk_10c B lo M R p ps w' l d _ a cap (by omega) (by omega) g1 k2 l2 d2 b2 thr (by rw [stI] at g3; exact g3) (hall [.mk k2 l2 d2 b2] (by simp) (.mk k2 l2 d2 b2) (by simp)) rfl hs' hms' hp
      · simp [partB] at g4; omega
    · simp at g2; omega
  · exact mk_through B lo M R p ps w 11 l d bd a cap (by decide) (fun w' hb hz hms' hs' => mk_11 B lo M R p ps w' l d bd a cap (nil hst.2) (by omega) (by omega) hst.1 hs' hms' hp) hs hms
  · exact mk_through B lo M R p ps w 12 l d bd a cap (by decide) (fun w' hb hz hms' hs' => mk_12 B lo M R p ps w' l d bd a cap (nil hst) (by omega) (by omega) hs' hms' hp) hs hms
  · exact mk_through B lo M R p ps w 13 l d bd a cap (by decide) (fun w' hb hz hms' hs' => mk_13 B lo M R p ps w' l d bd a cap (nil hst) (by omega) (by omega) hs' hms' hp) hs hms
  · exact mk_through B lo M R p ps w 14 l d bd a cap (by decide) (fun w' hb hz hms' hs' => mk_14 B lo M R p ps w' l d bd a cap (nil hst.2) hs' hms' hp) hs hms
  · exact mk_through B lo M R p ps w 15 l d bd a cap (by decide) (fun w' hb hz hms' hs' => mk_15 B lo M R p ps w' l d bd a cap (nil hst.2) hs' hms' hp) hs hms
  · exact mk_through B lo M R p ps w 16 l d bd a cap (by decide) (fun w' hb hz hms' hs' => mk_16 B lo M R p ps w' l d bd a cap (nil hst.2) hs' hms' hp) hs hms
  · exact mk_through B lo M R p ps w 17 l d bd a cap (by decide) (fun w' hb hz hms' hs' => mk_17 B lo M R p ps w' l d bd a cap (nil hst.2) hs' hms' hp) hs hms
  · exact mk_through B lo M R p ps w 18 l d bd a cap (by decide) (fun w' hb hz hms' hs' => mk_18 B lo M R p ps w' l d bd a cap (nil hst.2) hs' hms' hp) hs hms
  · exact mk_through B lo M R p ps w 19 l d bd a cap (by decide) (fun w' hb hz hms' hs' => mk_19 B lo M R p ps w' l d bd a cap hst.1.2 (bodyC_of bd hls (liB_fi bd _ hst.2)) hs' hms' hp) hs hms
  · exact mk_through B lo M R p ps w 20 l d bd a cap (by decide) (fun w' hb hz hms' hs' => mk_20 B lo M R p ps w' l d bd a cap (nil hst.2) hs' hms' hp) hs hms
mutual
theorem mkst_all : ∀ x : Fl, MkStC x
  | .mk k l d b => mkst_of k l d b (mkB_all b)
theorem mkL_all : ∀ (l : List Fl), ∀ x ∈ l, MkStC x
  | [], x, h => by cases h
  | y :: ys, x, h => (List.mem_cons.1 h).elim (fun e => e ▸ mkst_all y) (fun h => mkL_all ys x h)
theorem mkB_all : ∀ (b : List (List Fl)), ∀ y ∈ b, ∀ x ∈ y, MkStC x
  | [], y, h, _, _ => by cases h
  | z :: zs, y, h, x, hx => (List.mem_cons.1 h).elim (fun e => mkL_all z x (e ▸ hx)) (fun h => mkB_all zs y h x hx)
end
theorem mkls_all (l : List Fl) : MkLsC l := mkls_of l (mkL_all l)
end Go.Proofs.YtpodifbgfcclbaaGreatDoor
