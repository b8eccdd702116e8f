/- The maker's statements, kind by kind. -/
import Derived.Test.YtpodifbgfcclbaaGreatDoorMk8
set_option linter.unusedVariables false
set_option linter.unusedSimpArgs false
namespace Go.Proofs.YtpodifbgfcclbaaGreatDoor
open Go.RowKit
attribute [local go_sem] Nat.lt_add_one_of_lt

set_option maxRecDepth 100000 in
set_option maxHeartbeats 4000000 in
theorem mk_0 (B lo M R : Nat) (p : Int) (ps : List Nat) (w : World) (l d : Int) (bd : List (List Fl)) (a : Option Addr) (cap : Nat) (hbd : bd = [])
    (hs : SLL w B a cap bd) (hms : MS B lo M R p ps w) (hp : p + 16 * rk (.mk 0 l d bd) < 4611686018427387904) :
    Calls Tryz.prog 47 #[.pointer (some ⟨M, 0, none⟩), .agg #[.int .i64 0, .int .i64 l, .int .i64 d, .slice a bd.length cap]] w (RetSt B lo M R p ps w (.mk 0 l d bd)) := by
  have hrp := rkL_part bd 0
  have hrp1 := rkL_part bd 1
  rw [rk_mk] at hp
  have hlM := hms.lM
  have hlR := hms.lR
  have hlo := hms.lsz
  have hB := hms.szB
  have hbM := hms.bM
  have hbR := hms.bR
  have hp0 : p + 16 * rkB bd + 16 < 4611686018427387904 := by omega
  have HS := Lib.hid hs
  have HMS := Lib.hid hms
  clear hs hms hp
  subst hbd
  go_enter Tryz.func47, Tryz.ntmps47
  go_wp2_with fail
  refine (at_any B lo M R p ps _ (HMS.out.alloc _) (by omega)).mono ?_
  rintro e w1 ⟨rfl, hm1, hz1⟩
  simp only [World.size_alloc] at hz1
  have hT := (((MkTo.refl HMS.out).alloc _).trans hm1).alloc (.cells #[.int .i64 (p + 1), .slice none 0 0] 118)
  clear hm1
  go_wp2_with fail
  go_ret
  exact ⟨115, _, .mk (w.heap.size + 1) 0 l d [], p + 1, ps, rfl, by rw [er_mk, erB_nil], ST_0.2 ⟨by omega, by simp; omega, rfl, rfl⟩, hT.more (by rw [rk_mk]; omega), by rw [gts]; simp [gtsB]; exact Fresh.nil _ _⟩

set_option maxRecDepth 100000 in
set_option maxHeartbeats 4000000 in
theorem mk_1 (B lo M R : Nat) (p : Int) (ps : List Nat) (w : World) (l d : Int) (bd : List (List Fl)) (a : Option Addr) (cap : Nat) (hbd : bd = [])
    (hs : SLL w B a cap bd) (hms : MS B lo M R p ps w) (hp : p + 16 * rk (.mk 1 l d bd) < 4611686018427387904) :
    Calls Tryz.prog 47 #[.pointer (some ⟨M, 0, none⟩), .agg #[.int .i64 1, .int .i64 l, .int .i64 d, .slice a bd.length cap]] w (RetSt B lo M R p ps w (.mk 1 l d bd)) := by
  have hrp := rkL_part bd 0
  have hrp1 := rkL_part bd 1
  rw [rk_mk] at hp
  have hlM := hms.lM
  have hlR := hms.lR
  have hlo := hms.lsz
  have hB := hms.szB
  have hbM := hms.bM
  have hbR := hms.bR
  have hp0 : p + 16 * rkB bd + 16 < 4611686018427387904 := by omega
  have HS := Lib.hid hs
  have HMS := Lib.hid hms
  clear hs hms hp
  subst hbd
  go_enter Tryz.func47, Tryz.ntmps47
  go_wp2_with fail
  refine (call_any B lo M R p ps _ _ (HMS.out.alloc _) (by omega)).mono ?_
  rintro e w1 ⟨c, rfl, c1, c2, c3, p1, hm1⟩
  simp only [World.size_alloc] at c1
  have hmap := hm1.ms.map1
  have hRz := hm1.ms.szR
  obtain ⟨o, hup, hpm⟩ := run_update_pan R c ps w1 c3 hm1.ms.pan (HMS.out.notin (by omega)) (by omega) (fun q hq => by have := (HMS.out.psn q hq).1; omega)
  have hT1 := ((MkTo.refl HMS.out).alloc _).trans hm1
  have hT : MkTo B lo M R p ps w 5 p1 (ps ++ [c]) (setObj w1 R o) := ⟨hm1.ms.setObj o c (by omega) c2 hpm, hT1.mf.setObj o, hT1.le, by have := hT1.ub; omega, [c], rfl, fun q hq => by simp at hq; omega⟩
  have hc4 : Own (setObj w1 R o) c 214 := c3.imp fun cs e => (setObj_heap _ _ _ _ (by omega)).trans e
  have HT := Lib.hid hT
  have HC4 := Lib.hid hc4
  have hzs : (setObj w1 R o).heap.size = w1.heap.size := setObj_size _ _ _
  clear hm1 hT1 hT hc4 c3 hpm
  go_wp2_with fail
  go_ret
  have hT2 := HT.out.alloc (.cells #[.iface 119 (.pointer (some ⟨c, 0, none⟩))] 125)
  refine ⟨121, _, .mk w1.heap.size 1 l d [], p1, ps ++ [c], rfl, by rw [er_mk, erB_nil], ST_1.2 ⟨by omega, by simp; omega, rfl, ⟨c, by omega, by simp; omega, ?_, by simp, ?_⟩, rfl⟩, hT2.more (by rw [rk_mk]; omega), by rw [gts]; simp [gtsB]; exact Fresh.nil _ _⟩
  · rw [← hzs]; simp
  · exact HC4.out.imp fun cs e => (Below.heap_alloc _ _ _ (by rw [hzs]; omega)).trans e

set_option maxRecDepth 100000 in
set_option maxHeartbeats 4000000 in
theorem mk_3 (B lo M R : Nat) (p : Int) (ps : List Nat) (w : World) (l d : Int) (bd : List (List Fl)) (a : Option Addr) (cap : Nat) (hl2 : bd.length < 2) (hbd : BodyC bd)
    (hs : SLL w B a cap bd) (hms : MS B lo M R p ps w) (hp : p + 16 * rk (.mk 3 l d bd) < 4611686018427387904) :
    Calls Tryz.prog 47 #[.pointer (some ⟨M, 0, none⟩), .agg #[.int .i64 3, .int .i64 l, .int .i64 d, .slice a bd.length cap]] w (RetSt B lo M R p ps w (.mk 3 l d bd)) := by
  have hrp := rkL_part bd 0
  have hrp1 := rkL_part bd 1
  rw [rk_mk] at hp
  have hlM := hms.lM
  have hlR := hms.lR
  have hlo := hms.lsz
  have hB := hms.szB
  have hbM := hms.bM
  have hbR := hms.bR
  have hp0 : p + 16 * rkB bd + 16 < 4611686018427387904 := by omega
  have HS := Lib.hid hs
  have HMS := Lib.hid hms
  clear hs hms hp
  have HBD := Lib.hid hbd
  clear hbd
  go_enter Tryz.func47, Tryz.ntmps47
  go_wp2_with fail
  go_region_held3 (fun w' => w'.cell? ⟨w.heap.size, 0, none⟩ = some (.int .i64 3) ∧ w'.cell? ⟨w.heap.size, 1, none⟩ = some (.int .i64 l) ∧ w'.cell? ⟨w.heap.size, 2, none⟩ = some (.int .i64 d) ∧ w'.cell? ⟨w.heap.size, 3, none⟩ = some (.slice a bd.length cap)) (go_keep)
    (first | (go_at_call 45; refine (at_any B lo M R p ps _ (by exact (HMS.out.alloc _).drew) (by omega)).mono ?_; rintro e w1 ⟨rfl, hm1, hz1⟩; have hT1 := MkTo.trans (((MkTo.refl HMS.out).alloc _).drew) hm1; have hy1 : w.heap.size < w1.heap.size := (by have := hm1.size; simp at this; omega); have hcn1 : ∀ o, w1.cell? ⟨w.heap.size, o, none⟩ = _ := fun o => hm1.mf.cell (k := w.heap.size) (o := o) (by simp) (by omega) (by omega)) | (go_at_call 37; refine (HBD.out 0 B lo M R (p + 1) ps _ 3 l d a cap (by omega) (by exact HS.out.below (hT1.mf.below hB hbM hbR) (Nat.le_refl _)) (by exact hT1.ms) (by omega)).mono ?_; rintro e w2 ⟨a2, ts2, sa2, cap2, b2, p2, ps2, rfl, e12, e22, e32, e42, e52, e62, e72, hm2, e92⟩; have hT2 := MkTo.trans hT1 hm2; have hy2 : w.heap.size < w2.heap.size := (by have := hm2.size; omega); have hcn2 : ∀ o, w2.cell? ⟨w.heap.size, o, none⟩ = _ := fun o => (hm2.mf.cell (k := w.heap.size) (o := o) (by omega) (by omega) (by omega)).trans (hcn1 o)))
  have hlen := part_len HS.out 0
  obtain ⟨tb, t1, t2, t3, t4⟩ := bs0_of hl2 e12 e22 e32 e42 e52 e62 e72 e92 hlen
  have HT := Lib.hid (hT2.alloc (.cells #[.int .i64 (p + 1), .nilIface, .nilIface, .nilIface, .pointer (some ⟨a2, 0, none⟩)] 132))
  have HT2 := Lib.hid (BS0.widen (lo' := w.heap.size) (H' := (w2.alloc (.cells #[.int .i64 (p + 1), .nilIface, .nilIface, .nilIface, .pointer (some ⟨a2, 0, none⟩)] 132)).heap.size) (Kept.alloc w2 (.cells #[.int .i64 (p + 1), .nilIface, .nilIface, .nilIface, .pointer (some ⟨a2, 0, none⟩)] 132) (Nat.le_refl _)) (by omega) (by simp) t2)
  clear hm1 hm2 hT1 hT2 hcn1 hcn2 e32 e42 e52 e62 e72
  go_wp2_with fail
  go_ret
  exact ⟨130, _, .mk w2.heap.size 3 l d tb, p2, ps2, rfl, by rw [er_mk, t1], ST_3.2 ⟨by omega, by simp, rfl, by omega, by simp, a2, by simp, HT2.out⟩, HT.out.more (by rw [rk_mk]; omega), by rw [gts]; simp; exact t3.mono (by omega) (by omega)⟩

set_option maxRecDepth 100000 in
set_option maxHeartbeats 4000000 in
theorem mk_4 (B lo M R : Nat) (p : Int) (ps : List Nat) (w : World) (l d : Int) (bd : List (List Fl)) (a : Option Addr) (cap : Nat) (hl2 : bd.length < 2) (hbd : BodyC bd)
    (hs : SLL w B a cap bd) (hms : MS B lo M R p ps w) (hp : p + 16 * rk (.mk 4 l d bd) < 4611686018427387904) :
    Calls Tryz.prog 47 #[.pointer (some ⟨M, 0, none⟩), .agg #[.int .i64 4, .int .i64 l, .int .i64 d, .slice a bd.length cap]] w (RetSt B lo M R p ps w (.mk 4 l d bd)) := by
  have hrp := rkL_part bd 0
  have hrp1 := rkL_part bd 1
  rw [rk_mk] at hp
  have hlM := hms.lM
  have hlR := hms.lR
  have hlo := hms.lsz
  have hB := hms.szB
  have hbM := hms.bM
  have hbR := hms.bR
  have hp0 : p + 16 * rkB bd + 16 < 4611686018427387904 := by omega
  have HS := Lib.hid hs
  have HMS := Lib.hid hms
  clear hs hms hp
  have HBD := Lib.hid hbd
  clear hbd
  go_enter Tryz.func47, Tryz.ntmps47
  go_wp2_with fail
  go_region_held3 (fun w' => w'.cell? ⟨w.heap.size, 0, none⟩ = some (.int .i64 4) ∧ w'.cell? ⟨w.heap.size, 1, none⟩ = some (.int .i64 l) ∧ w'.cell? ⟨w.heap.size, 2, none⟩ = some (.int .i64 d) ∧ w'.cell? ⟨w.heap.size, 3, none⟩ = some (.slice a bd.length cap)) (go_keep)
    (first | (go_at_call 45; refine (at_any B lo M R p ps _ (by exact (HMS.out.alloc _).drew) (by omega)).mono ?_; rintro e w1 ⟨rfl, hm1, hz1⟩; have hT1 := MkTo.trans (((MkTo.refl HMS.out).alloc _).drew) hm1; have hy1 : w.heap.size < w1.heap.size := (by have := hm1.size; simp at this; omega); have hcn1 : ∀ o, w1.cell? ⟨w.heap.size, o, none⟩ = _ := fun o => hm1.mf.cell (k := w.heap.size) (o := o) (by simp) (by omega) (by omega)) | (go_at_call 66; refine (name_any B lo M R (p + 1) ps _ _ (by exact hT1.ms) (by omega)).mono ?_; rintro e w2 ⟨ix2, qx2, rfl, x12, x22, x32, x42, p2, hm2⟩; have hu2 := hm2.ub; have hT2 := MkTo.trans hT1 hm2; have hy2 : w.heap.size < w2.heap.size := (by have := hm2.size; omega); have hcn2 : ∀ o, w2.cell? ⟨w.heap.size, o, none⟩ = _ := fun o => (hm2.mf.cell (k := w.heap.size) (o := o) (by omega) (by omega) (by omega)).trans (hcn1 o)) | (go_at_call 37; refine (HBD.out 0 B lo M R (p2) ps _ 4 l d a cap (by omega) (by exact HS.out.below (hT2.mf.below hB hbM hbR) (Nat.le_refl _)) (by exact hT2.ms) (by omega)).mono ?_; rintro e w3 ⟨a3, ts3, sa3, cap3, b3, p3, ps3, rfl, e13, e23, e33, e43, e53, e63, e73, hm3, e93⟩; have hT3 := MkTo.trans hT2 hm3; have hy3 : w.heap.size < w3.heap.size := (by have := hm3.size; omega); have hcn3 : ∀ o, w3.cell? ⟨w.heap.size, o, none⟩ = _ := fun o => (hm3.mf.cell (k := w.heap.size) (o := o) (by omega) (by omega) (by omega)).trans (hcn2 o)))
  have hlen := part_len HS.out 0
  obtain ⟨tb, t1, t2, t3, t4⟩ := bs0_of hl2 e13 e23 e33 e43 e53 e63 e73 e93 hlen
  have HT := Lib.hid (hT3.alloc (.cells #[.int .i64 (p + 1), .nilIface, .iface 101 (.pointer (some ⟨ix2, 0, none⟩)), .nilIface, .pointer (some ⟨a3, 0, none⟩)] 132))
  have HT2 := Lib.hid (BS0.widen (lo' := w.heap.size) (H' := (w3.alloc (.cells #[.int .i64 (p + 1), .nilIface, .iface 101 (.pointer (some ⟨ix2, 0, none⟩)), .nilIface, .pointer (some ⟨a3, 0, none⟩)] 132)).heap.size) (Kept.alloc w3 (.cells #[.int .i64 (p + 1), .nilIface, .iface 101 (.pointer (some ⟨ix2, 0, none⟩)), .nilIface, .pointer (some ⟨a3, 0, none⟩)] 132) (Nat.le_refl _)) (by omega) (by simp) t2)
  clear hm1 hm2 hm3 hT1 hT2 hT3 hcn1 hcn2 hcn3 e33 e43 e53 e63 e73 x32 x42
  go_wp2_with fail
  go_ret
  exact ⟨130, _, .mk w3.heap.size 4 l d tb, p3, ps3, rfl, by rw [er_mk, t1], ST_4.2 ⟨by omega, by simp, rfl, by omega, ⟨ix2, by simp⟩, a3, by simp, HT2.out⟩, HT.out.more (by rw [rk_mk]; omega), by rw [gts]; simp; exact t3.mono (by omega) (by omega)⟩

set_option maxRecDepth 100000 in
set_option maxHeartbeats 4000000 in
theorem mk_5 (B lo M R : Nat) (p : Int) (ps : List Nat) (w : World) (l d : Int) (bd : List (List Fl)) (a : Option Addr) (cap : Nat) (hl2 : bd.length < 2) (hbd : BodyC bd)
    (hs : SLL w B a cap bd) (hms : MS B lo M R p ps w) (hp : p + 16 * rk (.mk 5 l d bd) < 4611686018427387904) :
    Calls Tryz.prog 47 #[.pointer (some ⟨M, 0, none⟩), .agg #[.int .i64 5, .int .i64 l, .int .i64 d, .slice a bd.length cap]] w (RetSt B lo M R p ps w (.mk 5 l d bd)) := by
  have hrp := rkL_part bd 0
  have hrp1 := rkL_part bd 1
  rw [rk_mk] at hp
  have hlM := hms.lM
  have hlR := hms.lR
  have hlo := hms.lsz
  have hB := hms.szB
  have hbM := hms.bM
  have hbR := hms.bR
  have hp0 : p + 16 * rkB bd + 16 < 4611686018427387904 := by omega
  have HS := Lib.hid hs
  have HMS := Lib.hid hms
  clear hs hms hp
  have HBD := Lib.hid hbd
  clear hbd
  go_enter Tryz.func47, Tryz.ntmps47
  go_wp2_with fail
  go_region_held3 (fun w' => w'.cell? ⟨w.heap.size, 0, none⟩ = some (.int .i64 5) ∧ w'.cell? ⟨w.heap.size, 1, none⟩ = some (.int .i64 l) ∧ w'.cell? ⟨w.heap.size, 2, none⟩ = some (.int .i64 d) ∧ w'.cell? ⟨w.heap.size, 3, none⟩ = some (.slice a bd.length cap)) (go_keep)
    (first | (go_at_call 45; refine (at_any B lo M R p ps _ (by exact (HMS.out.alloc _).drew) (by omega)).mono ?_; rintro e w1 ⟨rfl, hm1, hz1⟩; have hT1 := MkTo.trans (((MkTo.refl HMS.out).alloc _).drew) hm1; have hy1 : w.heap.size < w1.heap.size := (by have := hm1.size; simp at this; omega); have hcn1 : ∀ o, w1.cell? ⟨w.heap.size, o, none⟩ = _ := fun o => hm1.mf.cell (k := w.heap.size) (o := o) (by simp) (by omega) (by omega)) | (go_at_call 45; refine (at_any B lo M R (p + 1) ps _ (by exact hT1.ms) (by omega)).mono ?_; rintro e w2 ⟨rfl, hm2, hz2⟩; have hT2 := MkTo.trans hT1 hm2; have hy2 : w.heap.size < w2.heap.size := (by omega); have hcn2 : ∀ o, w2.cell? ⟨w.heap.size, o, none⟩ = _ := fun o => (hm2.mf.cell (k := w.heap.size) (o := o) (by omega) (by omega) (by omega)).trans (hcn1 o)) | (go_at_call 67; refine (number_any B lo M R (p + 1 + 1) ps 3 _ (by exact hT2.ms) (by omega) (by omega) (by omega)).mono ?_; rintro e w3 ⟨ix3, rfl, x13, x23, p3, hm3⟩; have hu3 := hm3.ub; have hT3 := MkTo.trans hT2 hm3; have hy3 : w.heap.size < w3.heap.size := (by have := hm3.size; omega); have hcn3 : ∀ o, w3.cell? ⟨w.heap.size, o, none⟩ = _ := fun o => (hm3.mf.cell (k := w.heap.size) (o := o) (by omega) (by omega) (by omega)).trans (hcn2 o)) | (go_at_call 37; refine (HBD.out 0 B lo M R (p3) ps _ 5 l d a cap (by omega) (by exact HS.out.below (hT3.mf.below hB hbM hbR) (Nat.le_refl _)) (by exact hT3.ms) (by omega)).mono ?_; rintro e w4 ⟨a4, ts4, sa4, cap4, b4, p4, ps4, rfl, e14, e24, e34, e44, e54, e64, e74, hm4, e94⟩; have hT4 := MkTo.trans hT3 hm4; have hy4 : w.heap.size < w4.heap.size := (by have := hm4.size; omega); have hcn4 : ∀ o, w4.cell? ⟨w.heap.size, o, none⟩ = _ := fun o => (hm4.mf.cell (k := w.heap.size) (o := o) (by omega) (by omega) (by omega)).trans (hcn3 o)))
  have hlen := part_len HS.out 0
  obtain ⟨tb, t1, t2, t3, t4⟩ := bs0_of hl2 e14 e24 e34 e44 e54 e64 e74 e94 hlen
  have HT := Lib.hid (hT4.alloc (.cells #[.int .i64 (p + 1), .nilIface, .nilIface, .int .i64 0, .int .i64 0, .int .i64 (p + 1 + 1), .iface 215 (.pointer (some ⟨ix3, 0, none⟩)), .pointer (some ⟨a4, 0, none⟩)] 136))
  have HT2 := Lib.hid (BS0.widen (lo' := w.heap.size) (H' := (w4.alloc (.cells #[.int .i64 (p + 1), .nilIface, .nilIface, .int .i64 0, .int .i64 0, .int .i64 (p + 1 + 1), .iface 215 (.pointer (some ⟨ix3, 0, none⟩)), .pointer (some ⟨a4, 0, none⟩)] 136)).heap.size) (Kept.alloc w4 (.cells #[.int .i64 (p + 1), .nilIface, .nilIface, .int .i64 0, .int .i64 0, .int .i64 (p + 1 + 1), .iface 215 (.pointer (some ⟨ix3, 0, none⟩)), .pointer (some ⟨a4, 0, none⟩)] 136) (Nat.le_refl _)) (by omega) (by simp) t2)
  clear hm1 hm2 hm3 hm4 hT1 hT2 hT3 hT4 hcn1 hcn2 hcn3 hcn4 e34 e44 e54 e64 e74
  go_wp2_with fail
  go_ret
  exact ⟨133, _, .mk w4.heap.size 5 l d tb, p4, ps4, rfl, by rw [er_mk, t1], ST_5.2 ⟨by omega, by simp, rfl, by omega, a4, by simp, HT2.out⟩, HT.out.more (by rw [rk_mk]; omega), by rw [gts]; simp; exact t3.mono (by omega) (by omega)⟩

set_option maxRecDepth 100000 in
set_option maxHeartbeats 4000000 in
theorem mk_6 (B lo M R : Nat) (p : Int) (ps : List Nat) (w : World) (l d : Int) (bd : List (List Fl)) (a : Option Addr) (cap : Nat) (hls : ∀ y ∈ bd, MkLsC y) (hfi : ∀ y ∈ bd, ∃ thr, fiL y thr = true)
    (hs : SLL w B a cap bd) (hms : MS B lo M R p ps w) (hp : p + 16 * rk (.mk 6 l d bd) < 4611686018427387904) :
    Calls Tryz.prog 47 #[.pointer (some ⟨M, 0, none⟩), .agg #[.int .i64 6, .int .i64 l, .int .i64 d, .slice a bd.length cap]] w (RetSt B lo M R p ps w (.mk 6 l d bd)) := by
  have hrp := rkL_part bd 0
  have hrp1 := rkL_part bd 1
  rw [rk_mk] at hp
  have hlM := hms.lM
  have hlR := hms.lR
  have hlo := hms.lsz
  have hB := hms.szB
  have hbM := hms.bM
  have hbR := hms.bR
  have hp0 : p + 16 * rkB bd + 16 < 4611686018427387904 := by omega
  have HS := Lib.hid hs
  have HMS := Lib.hid hms
  clear hs hms hp
  have HLS := Lib.hid hls
  have HFI := Lib.hid hfi
  clear hls hfi
  go_enter Tryz.func47, Tryz.ntmps47
  go_wp2_with fail
  go_region_held3 (fun w' => w'.cell? ⟨w.heap.size, 0, none⟩ = some (.int .i64 6) ∧ w'.cell? ⟨w.heap.size, 1, none⟩ = some (.int .i64 l) ∧ w'.cell? ⟨w.heap.size, 2, none⟩ = some (.int .i64 d) ∧ w'.cell? ⟨w.heap.size, 3, none⟩ = some (.slice a bd.length cap)) (go_keep)
    (first | (go_at_call 45; refine (at_any B lo M R p ps _ (by exact (HMS.out.alloc _).drew) (by omega)).mono ?_; rintro e w1 ⟨rfl, hm1, hz1⟩; have hT1 := MkTo.trans (((MkTo.refl HMS.out).alloc _).drew) hm1; have hy1 : w.heap.size < w1.heap.size := (by have := hm1.size; simp at this; omega); have hcn1 : ∀ o, w1.cell? ⟨w.heap.size, o, none⟩ = _ := fun o => hm1.mf.cell (k := w.heap.size) (o := o) (by simp) (by omega) (by omega)) | (go_at_call 67; refine (number_any B lo M R (p + 1) ps 1 _ (by exact hT1.ms) (by omega) (by omega) (by omega)).mono ?_; rintro e w2 ⟨ix2, rfl, x12, x22, p2, hm2⟩; have hu2 := hm2.ub; have hT2 := MkTo.trans hT1 hm2; have hy2 : w.heap.size < w2.heap.size := (by have := hm2.size; omega); have hcn2 : ∀ o, w2.cell? ⟨w.heap.size, o, none⟩ = _ := fun o => (hm2.mf.cell (k := w.heap.size) (o := o) (by omega) (by omega) (by omega)).trans (hcn1 o)) | (go_at_call 68; refine (cases_switch bd HLS.out HFI.out B lo M R (p2) ps _ 6 l d a cap (by decide) (by exact HS.out.below (hT2.mf.below hB hbM hbR) (Nat.le_refl _)) (by exact hT2.ms) (by omega)).mono ?_; rintro e w3 ⟨a3, tb3, p3, ps3, rfl, e13, e23, hm3, e43⟩; have hT3 := MkTo.trans hT2 hm3; have hy3 : w.heap.size < w3.heap.size := (by have := hm3.size; omega); have hcn3 : ∀ o, w3.cell? ⟨w.heap.size, o, none⟩ = _ := fun o => (hm3.mf.cell (k := w.heap.size) (o := o) (by omega) (by omega) (by omega)).trans (hcn2 o)))
  have HT := Lib.hid (hT3.alloc (.cells #[.int .i64 (p + 1), .nilIface, .iface 215 (.pointer (some ⟨ix2, 0, none⟩)), .pointer (some ⟨a3, 0, none⟩)] 140))
  have HT2 := Lib.hid (CS.widen (lo' := w.heap.size) (H' := (w3.alloc (.cells #[.int .i64 (p + 1), .nilIface, .iface 215 (.pointer (some ⟨ix2, 0, none⟩)), .pointer (some ⟨a3, 0, none⟩)] 140)).heap.size) (Kept.alloc w3 (.cells #[.int .i64 (p + 1), .nilIface, .iface 215 (.pointer (some ⟨ix2, 0, none⟩)), .pointer (some ⟨a3, 0, none⟩)] 140) (Nat.le_refl _)) (by omega) (by simp) e23)
  clear hm1 hm2 hm3 hT1 hT2 hT3 hcn1 hcn2 hcn3 e23
  go_wp2_with fail
  go_ret
  exact ⟨137, _, .mk w3.heap.size 6 l d tb3, p3, ps3, rfl, by rw [er_mk, e13], ST_6.2 ⟨by omega, by simp, rfl, a3, by simp, HT2.out⟩, HT.out.more (by rw [rk_mk]; omega), by rw [gts]; simp; exact e43.mono (by omega) (by omega)⟩

set_option maxRecDepth 100000 in
set_option maxHeartbeats 4000000 in
theorem mk_8 (B lo M R : Nat) (p : Int) (ps : List Nat) (w : World) (l d : Int) (bd : List (List Fl)) (a : Option Addr) (cap : Nat) (hls : ∀ y ∈ bd, MkLsC y) (hfi : ∀ y ∈ bd, ∃ thr, fiL y thr = true)
    (hs : SLL w B a cap bd) (hms : MS B lo M R p ps w) (hp : p + 16 * rk (.mk 8 l d bd) < 4611686018427387904) :
    Calls Tryz.prog 47 #[.pointer (some ⟨M, 0, none⟩), .agg #[.int .i64 8, .int .i64 l, .int .i64 d, .slice a bd.length cap]] w (RetSt B lo M R p ps w (.mk 8 l d bd)) := by
  have hrp := rkL_part bd 0
  have hrp1 := rkL_part bd 1
  rw [rk_mk] at hp
  have hlM := hms.lM
  have hlR := hms.lR
  have hlo := hms.lsz
  have hB := hms.szB
  have hbM := hms.bM
  have hbR := hms.bR
  have hp0 : p + 16 * rkB bd + 16 < 4611686018427387904 := by omega
  have HS := Lib.hid hs
  have HMS := Lib.hid hms
  clear hs hms hp
  have HLS := Lib.hid hls
  have HFI := Lib.hid hfi
  clear hls hfi
  go_enter Tryz.func47, Tryz.ntmps47
  go_wp2_with fail
  go_region_held3 (fun w' => w'.cell? ⟨w.heap.size, 0, none⟩ = some (.int .i64 8) ∧ w'.cell? ⟨w.heap.size, 1, none⟩ = some (.int .i64 l) ∧ w'.cell? ⟨w.heap.size, 2, none⟩ = some (.int .i64 d) ∧ w'.cell? ⟨w.heap.size, 3, none⟩ = some (.slice a bd.length cap)) (go_keep)
    (first | (go_at_call 45; refine (at_any B lo M R p ps _ (by exact (HMS.out.alloc _).drew) (by omega)).mono ?_; rintro e w1 ⟨rfl, hm1, hz1⟩; have hT1 := MkTo.trans (((MkTo.refl HMS.out).alloc _).drew) hm1; have hy1 : w.heap.size < w1.heap.size := (by have := hm1.size; simp at this; omega); have hcn1 : ∀ o, w1.cell? ⟨w.heap.size, o, none⟩ = _ := fun o => hm1.mf.cell (k := w.heap.size) (o := o) (by simp) (by omega) (by omega)) | (go_at_call 68; refine (cases_select bd HLS.out HFI.out B lo M R (p + 1) ps _ 8 l d a cap (by decide) (by exact HS.out.below (hT1.mf.below hB hbM hbR) (Nat.le_refl _)) (by exact hT1.ms) (by omega)).mono ?_; rintro e w2 ⟨a2, tb2, p2, ps2, rfl, e12, e22, hm2, e42⟩; have hT2 := MkTo.trans hT1 hm2; have hy2 : w.heap.size < w2.heap.size := (by have := hm2.size; omega); have hcn2 : ∀ o, w2.cell? ⟨w.heap.size, o, none⟩ = _ := fun o => (hm2.mf.cell (k := w.heap.size) (o := o) (by omega) (by omega) (by omega)).trans (hcn1 o)))
  have HT := Lib.hid (hT2.alloc (.cells #[.int .i64 (p + 1), .pointer (some ⟨a2, 0, none⟩)] 149))
  have HT2 := Lib.hid (CS.widen (lo' := w.heap.size) (H' := (w2.alloc (.cells #[.int .i64 (p + 1), .pointer (some ⟨a2, 0, none⟩)] 149)).heap.size) (Kept.alloc w2 (.cells #[.int .i64 (p + 1), .pointer (some ⟨a2, 0, none⟩)] 149) (Nat.le_refl _)) (by omega) (by simp) e22)
  clear hm1 hm2 hT1 hT2 hcn1 hcn2 e22
  go_wp2_with fail
  go_ret
  exact ⟨147, _, .mk w2.heap.size 8 l d tb2, p2, ps2, rfl, by rw [er_mk, e12], ST_8.2 ⟨by omega, by simp, rfl, a2, by simp, HT2.out⟩, HT.out.more (by rw [rk_mk]; omega), by rw [gts]; simp; exact e42.mono (by omega) (by omega)⟩

set_option maxRecDepth 100000 in
set_option maxHeartbeats 4000000 in
theorem mk_9 (B lo M R : Nat) (p : Int) (ps : List Nat) (w : World) (l d : Int) (bd : List (List Fl)) (a : Option Addr) (cap : Nat) (hl2 : bd.length < 2) (hbd : BodyC bd)
    (hs : SLL w B a cap bd) (hms : MS B lo M R p ps w) (hp : p + 16 * rk (.mk 9 l d bd) < 4611686018427387904) :
    Calls Tryz.prog 47 #[.pointer (some ⟨M, 0, none⟩), .agg #[.int .i64 9, .int .i64 l, .int .i64 d, .slice a bd.length cap]] w (RetSt B lo M R p ps w (.mk 9 l d bd)) := by
  have hrp := rkL_part bd 0
  have hrp1 := rkL_part bd 1
  rw [rk_mk] at hp
  have hlM := hms.lM
  have hlR := hms.lR
  have hlo := hms.lsz
  have hB := hms.szB
  have hbM := hms.bM
  have hbR := hms.bR
  have hp0 : p + 16 * rkB bd + 16 < 4611686018427387904 := by omega
  have HS := Lib.hid hs
  have HMS := Lib.hid hms
  clear hs hms hp
  have HBD := Lib.hid hbd
  clear hbd
  go_enter Tryz.func47, Tryz.ntmps47
  go_wp2_with fail
  refine (HBD.out 0 B lo M R p ps _ 9 l d a cap (by omega) (by exact HS.out.below ((Below.refl B _).alloc hB _) (Nat.le_refl _)) (HMS.out.alloc _) (by omega)).mono ?_
  rintro e w2 ⟨a2, ts2, sa2, cap2, b2, p2, ps2, rfl, e12, e22, e32, e42, e52, e62, e72, hm2, e92⟩
  simp only [World.size_alloc] at e12 e72 e92
  have hlen := part_len HS.out 0
  obtain ⟨tb, t1, t2, t3, t4⟩ := bs0_of hl2 e12 e22 e32 e42 e52 e62 e72 e92 hlen
  have HT := Lib.hid (((MkTo.refl HMS.out).alloc _).trans hm2)
  have HT2 := Lib.hid (BS0.widen (lo' := w.heap.size) (H' := w2.heap.size) (ps' := ps2) (w' := w2) ⟨fun _ _ _ => rfl, fun _ _ _ => rfl⟩ (by omega) (Nat.le_refl _) t2)
  clear hm2 e32 e42 e52 e62 e72 t2
  go_wp2_with fail
  go_ret
  exact ⟨50, _, .mk a2 9 l d tb, p2, ps2, rfl, by rw [er_mk, t1], ST_9.2 ⟨by omega, e22, rfl, by omega, HT2.out⟩, HT.out.more (by rw [rk_mk]; omega), by rw [gts]; simp; exact t3.mono (by omega) (by omega)⟩

end Go.Proofs.YtpodifbgfcclbaaGreatDoor
