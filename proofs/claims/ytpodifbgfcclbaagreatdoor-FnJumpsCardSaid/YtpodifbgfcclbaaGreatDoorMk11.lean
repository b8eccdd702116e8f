/- The maker's simple statements. -/
import Derived.Test.YtpodifbgfcclbaaGreatDoorMk10
set_option linter.unusedVariables false
set_option linter.unusedSimpArgs false
namespace Go.Proofs.YtpodifbgfcclbaaGreatDoor
open Go.RowKit
attribute [local go_sem] Nat.lt_add_one_of_lt

theorem own_alloc (w : World) (cs : Array Value) (T : Nat) : Own (w.alloc (.cells cs T)) w.heap.size T := ⟨cs, by show (w.heap.push _)[w.heap.size]? = _; simp⟩
theorem cell_top {w : World} {cs : Array Value} {T k o : Nat} {v : Value} (h : k = w.heap.size) (hv : cs[o]? = some v) : (w.alloc (.cells cs T)).cell? ⟨k, o, none⟩ = some v := by
  subst h
  have : (w.alloc (.cells cs T)).heap[w.heap.size]? = some (.cells cs T) := by show (w.heap.push _)[w.heap.size]? = _; simp
  unfold World.cell?; simp only [this]; exact hv
theorem nl_of {w w' : World} {lo H a o : Nat} {n : Int} {x : Option Addr} (h1 : -1 ≤ n) (h2 : n ≤ 9) (hc : w'.cell? ⟨a, o, none⟩ = some (.pointer x)) (hlo : lo ≤ H) 
    (h : if n = 0 then x = none else ∃ i q, x = some ⟨i, 0, none⟩ ∧ lo ≤ i ∧ i < H ∧ w.cell? ⟨i, 0, none⟩ = some (.int .i64 q) ∧ w.cell? ⟨i, 1, none⟩ = some (.string (nm n)))
    (hk : ∀ i o, lo ≤ i → i < H → w'.cell? ⟨i, o, none⟩ = w.cell? ⟨i, o, none⟩) {lo' H' : Nat} (hl : lo' ≤ lo) (hh : H ≤ H') : NL w' lo' H' a o n := by
  refine ⟨h1, h2, ?_⟩
  by_cases h0 : n = 0
  · rw [if_pos h0] at h ⊢
    rw [hc, h]
  · rw [if_neg h0] at h ⊢
    obtain ⟨i, q, rfl, g1, g2, g3, g4⟩ := h
    exact ⟨i, q, by omega, by omega, hc, (hk i 0 g1 g2).trans g3, (hk i 1 g1 g2).trans g4⟩

set_option maxRecDepth 100000 in
set_option maxHeartbeats 4000000 in
theorem mk_11 (B lo M R : Nat) (p : Int) (ps : List Nat) (w : World) (l d : Int) (bd : List (List Fl)) (a : Option Addr) (cap : Nat) (hbd : bd = []) (hl1 : -1 ≤ l) (hl2 : l ≤ 9) (hl0 : l ≠ 0)
    (hs : SLL w B a cap bd) (hms : MS B lo M R p ps w) (hp : p + 16 * rk (.mk 11 l d bd) < 4611686018427387904) :
    Calls Tryz.prog 69 #[.pointer (some ⟨M, 0, none⟩), .agg #[.int .i64 11, .int .i64 l, .int .i64 d, .slice a bd.length cap]] w (RetSt B lo M R p ps w (.mk 11 l d bd)) := by
  have hrp := rkL_part bd 0
  have hrp1 := rkL_part bd 1
  rw [rk_mk] at hp
  have hlM := hms.lM
  have hlR := hms.lR
  have hlo := hms.lsz
  have hB := hms.szB
  have hbM := hms.bM
  have hbR := hms.bR
  have hp0 : p + 16 * rkB bd + 16 < 4611686018427387904 := by omega
  have HS := Lib.hid hs
  have HMS := Lib.hid hms
  clear hs hms hp
  subst hbd
  go_enter Tryz.func69, Tryz.ntmps69
  go_wp2_with fail
  go_region_held3 (fun w' => w'.cell? ⟨w.heap.size, 0, none⟩ = some (.int .i64 11) ∧ w'.cell? ⟨w.heap.size, 1, none⟩ = some (.int .i64 l) ∧ w'.cell? ⟨w.heap.size, 2, none⟩ = some (.int .i64 d) ∧ w'.cell? ⟨w.heap.size, 3, none⟩ = some (.slice a 0 cap)) (go_keep)
    (first | (go_at_call 45; refine (at_any B lo M R p ps _ (by exact (HMS.out.alloc _).drew) (by omega)).mono ?_; rintro e w1 ⟨rfl, hm1, hz1⟩; have hT1 := MkTo.trans (((MkTo.refl HMS.out).alloc _).drew) hm1; have hy1 : w.heap.size < w1.heap.size := (by have := hm1.size; simp at this; omega); have hcn1 : ∀ o, w1.cell? ⟨w.heap.size, o, none⟩ = _ := fun o => hm1.mf.cell (k := w.heap.size) (o := o) (by simp) (by omega) (by omega)) | (go_at_call 94; refine (label_any B lo M R (p + 1) ps l _ (by exact hT1.ms) (by omega) hl1 hl2).mono ?_; rintro e w2 ⟨ix2, rfl, x12, p2, hm2⟩; have hu2 := hm2.ub; have hT2 := MkTo.trans hT1 hm2; have hy2 : w.heap.size < w2.heap.size := (by have := hm2.size; omega); have hcn2 : ∀ o, w2.cell? ⟨w.heap.size, o, none⟩ = _ := fun o => (hm2.mf.cell (k := w.heap.size) (o := o) (by omega) (by omega) (by omega)).trans (hcn1 o)))
  have HT := Lib.hid (hT2.alloc (.cells #[.int .i64 (p + 1), .int .i64 73, .pointer ix2] 103))
  have HX := Lib.hid x12
  have hs2 := hm2.size
  clear hm1 hm2 hT1 hT2 hcn1 hcn2 x12
  go_wp2_with fail
  go_ret
  refine ⟨95, _, .mk w2.heap.size 11 l d [], p2, ps, rfl, by rw [er_mk, erB_nil], ST_11.2 ⟨by omega, by simp, rfl, rfl, by simp, ?_, hl0, own_alloc _ _ _⟩, HT.out.more (by rw [rk_mk]; omega), by rw [gts]; simp [Fresh]; omega⟩
  exact nl_of (w := w2) (x := ix2) (lo := w1.heap.size) (H := w2.heap.size) hl1 hl2 (by simp) (by omega) HX.out (fun i o _ h => World.cell?_alloc_past _ _ _ h) (by omega) (by simp)

set_option maxRecDepth 100000 in
set_option maxHeartbeats 4000000 in
theorem mk_12 (B lo M R : Nat) (p : Int) (ps : List Nat) (w : World) (l d : Int) (bd : List (List Fl)) (a : Option Addr) (cap : Nat) (hbd : bd = []) (hl1 : -1 ≤ l) (hl2 : l ≤ 9)
    (hs : SLL w B a cap bd) (hms : MS B lo M R p ps w) (hp : p + 16 * rk (.mk 12 l d bd) < 4611686018427387904) :
    Calls Tryz.prog 69 #[.pointer (some ⟨M, 0, none⟩), .agg #[.int .i64 12, .int .i64 l, .int .i64 d, .slice a bd.length cap]] w (RetSt B lo M R p ps w (.mk 12 l d bd)) := by
  have hrp := rkL_part bd 0
  have hrp1 := rkL_part bd 1
  rw [rk_mk] at hp
  have hlM := hms.lM
  have hlR := hms.lR
  have hlo := hms.lsz
  have hB := hms.szB
  have hbM := hms.bM
  have hbR := hms.bR
  have hp0 : p + 16 * rkB bd + 16 < 4611686018427387904 := by omega
  have HS := Lib.hid hs
  have HMS := Lib.hid hms
  clear hs hms hp
  subst hbd
  go_enter Tryz.func69, Tryz.ntmps69
  go_wp2_with fail
  go_region_held3 (fun w' => w'.cell? ⟨w.heap.size, 0, none⟩ = some (.int .i64 12) ∧ w'.cell? ⟨w.heap.size, 1, none⟩ = some (.int .i64 l) ∧ w'.cell? ⟨w.heap.size, 2, none⟩ = some (.int .i64 d) ∧ w'.cell? ⟨w.heap.size, 3, none⟩ = some (.slice a 0 cap)) (go_keep)
    (first | (go_at_call 45; refine (at_any B lo M R p ps _ (by exact (HMS.out.alloc _).drew) (by omega)).mono ?_; rintro e w1 ⟨rfl, hm1, hz1⟩; have hT1 := MkTo.trans (((MkTo.refl HMS.out).alloc _).drew) hm1; have hy1 : w.heap.size < w1.heap.size := (by have := hm1.size; simp at this; omega); have hcn1 : ∀ o, w1.cell? ⟨w.heap.size, o, none⟩ = _ := fun o => hm1.mf.cell (k := w.heap.size) (o := o) (by simp) (by omega) (by omega)) | (go_at_call 94; refine (label_any B lo M R (p + 1) ps l _ (by exact hT1.ms) (by omega) hl1 hl2).mono ?_; rintro e w2 ⟨ix2, rfl, x12, p2, hm2⟩; have hu2 := hm2.ub; have hT2 := MkTo.trans hT1 hm2; have hy2 : w.heap.size < w2.heap.size := (by have := hm2.size; omega); have hcn2 : ∀ o, w2.cell? ⟨w.heap.size, o, none⟩ = _ := fun o => (hm2.mf.cell (k := w.heap.size) (o := o) (by omega) (by omega) (by omega)).trans (hcn1 o)))
  have HT := Lib.hid (hT2.alloc (.cells #[.int .i64 (p + 1), .int .i64 61, .pointer ix2] 103))
  have HX := Lib.hid x12
  have hs2 := hm2.size
  clear hm1 hm2 hT1 hT2 hcn1 hcn2 x12
  go_wp2_with fail
  go_ret
  refine ⟨95, _, .mk w2.heap.size 12 l d [], p2, ps, rfl, by rw [er_mk, erB_nil], ST_12.2 ⟨by omega, by simp, rfl, rfl, by simp, ?_⟩, HT.out.more (by rw [rk_mk]; omega), by rw [gts]; simp [gtsB]; exact Fresh.nil _ _⟩
  exact nl_of (w := w2) (x := ix2) (lo := w1.heap.size) (H := w2.heap.size) hl1 hl2 (by simp) (by omega) HX.out (fun i o _ h => World.cell?_alloc_past _ _ _ h) (by omega) (by simp)

set_option maxRecDepth 100000 in
set_option maxHeartbeats 4000000 in
theorem mk_13 (B lo M R : Nat) (p : Int) (ps : List Nat) (w : World) (l d : Int) (bd : List (List Fl)) (a : Option Addr) (cap : Nat) (hbd : bd = []) (hl1 : -1 ≤ l) (hl2 : l ≤ 9)
    (hs : SLL w B a cap bd) (hms : MS B lo M R p ps w) (hp : p + 16 * rk (.mk 13 l d bd) < 4611686018427387904) :
    Calls Tryz.prog 69 #[.pointer (some ⟨M, 0, none⟩), .agg #[.int .i64 13, .int .i64 l, .int .i64 d, .slice a bd.length cap]] w (RetSt B lo M R p ps w (.mk 13 l d bd)) := by
  have hrp := rkL_part bd 0
  have hrp1 := rkL_part bd 1
  rw [rk_mk] at hp
  have hlM := hms.lM
  have hlR := hms.lR
  have hlo := hms.lsz
  have hB := hms.szB
  have hbM := hms.bM
  have hbR := hms.bR
  have hp0 : p + 16 * rkB bd + 16 < 4611686018427387904 := by omega
  have HS := Lib.hid hs
  have HMS := Lib.hid hms
  clear hs hms hp
  subst hbd
  go_enter Tryz.func69, Tryz.ntmps69
  go_wp2_with fail
  go_region_held3 (fun w' => w'.cell? ⟨w.heap.size, 0, none⟩ = some (.int .i64 13) ∧ w'.cell? ⟨w.heap.size, 1, none⟩ = some (.int .i64 l) ∧ w'.cell? ⟨w.heap.size, 2, none⟩ = some (.int .i64 d) ∧ w'.cell? ⟨w.heap.size, 3, none⟩ = some (.slice a 0 cap)) (go_keep)
    (first | (go_at_call 45; refine (at_any B lo M R p ps _ (by exact (HMS.out.alloc _).drew) (by omega)).mono ?_; rintro e w1 ⟨rfl, hm1, hz1⟩; have hT1 := MkTo.trans (((MkTo.refl HMS.out).alloc _).drew) hm1; have hy1 : w.heap.size < w1.heap.size := (by have := hm1.size; simp at this; omega); have hcn1 : ∀ o, w1.cell? ⟨w.heap.size, o, none⟩ = _ := fun o => hm1.mf.cell (k := w.heap.size) (o := o) (by simp) (by omega) (by omega)) | (go_at_call 94; refine (label_any B lo M R (p + 1) ps l _ (by exact hT1.ms) (by omega) hl1 hl2).mono ?_; rintro e w2 ⟨ix2, rfl, x12, p2, hm2⟩; have hu2 := hm2.ub; have hT2 := MkTo.trans hT1 hm2; have hy2 : w.heap.size < w2.heap.size := (by have := hm2.size; omega); have hcn2 : ∀ o, w2.cell? ⟨w.heap.size, o, none⟩ = _ := fun o => (hm2.mf.cell (k := w.heap.size) (o := o) (by omega) (by omega) (by omega)).trans (hcn1 o)))
  have HT := Lib.hid (hT2.alloc (.cells #[.int .i64 (p + 1), .int .i64 65, .pointer ix2] 103))
  have HX := Lib.hid x12
  have hs2 := hm2.size
  clear hm1 hm2 hT1 hT2 hcn1 hcn2 x12
  go_wp2_with fail
  go_ret
  refine ⟨95, _, .mk w2.heap.size 13 l d [], p2, ps, rfl, by rw [er_mk, erB_nil], ST_13.2 ⟨by omega, by simp, rfl, rfl, by simp, ?_⟩, HT.out.more (by rw [rk_mk]; omega), by rw [gts]; simp [gtsB]; exact Fresh.nil _ _⟩
  exact nl_of (w := w2) (x := ix2) (lo := w1.heap.size) (H := w2.heap.size) hl1 hl2 (by simp) (by omega) HX.out (fun i o _ h => World.cell?_alloc_past _ _ _ h) (by omega) (by simp)

set_option maxRecDepth 100000 in
set_option maxHeartbeats 4000000 in
theorem mk_14 (B lo M R : Nat) (p : Int) (ps : List Nat) (w : World) (l d : Int) (bd : List (List Fl)) (a : Option Addr) (cap : Nat) (hbd : bd = [])
    (hs : SLL w B a cap bd) (hms : MS B lo M R p ps w) (hp : p + 16 * rk (.mk 14 l d bd) < 4611686018427387904) :
    Calls Tryz.prog 69 #[.pointer (some ⟨M, 0, none⟩), .agg #[.int .i64 14, .int .i64 l, .int .i64 d, .slice a bd.length cap]] w (RetSt B lo M R p ps w (.mk 14 l d bd)) := by
  have hrp := rkL_part bd 0
  have hrp1 := rkL_part bd 1
  rw [rk_mk] at hp
  have hlM := hms.lM
  have hlR := hms.lR
  have hlo := hms.lsz
  have hB := hms.szB
  have hbM := hms.bM
  have hbR := hms.bR
  have hp0 : p + 16 * rkB bd + 16 < 4611686018427387904 := by omega
  have HS := Lib.hid hs
  have HMS := Lib.hid hms
  clear hs hms hp
  subst hbd
  go_enter Tryz.func69, Tryz.ntmps69
  go_wp2_with fail
  refine (at_any B lo M R p ps _ (HMS.out.alloc _) (by omega)).mono ?_
  rintro e w1 ⟨rfl, hm1, hz1⟩
  simp only [World.size_alloc] at hz1
  have HT := Lib.hid ((((MkTo.refl HMS.out).alloc _).trans hm1).alloc (.cells #[.int .i64 (p + 1), .int .i64 69, .pointer none] 103))
  clear hm1
  go_wp2_with fail
  go_ret
  exact ⟨95, _, .mk (w.heap.size + 1) 14 l d [], p + 1, ps, rfl, by rw [er_mk, erB_nil], ST_14.2 ⟨by omega, by simp; omega, rfl, rfl, by simp [← hz1], by simp [← hz1]⟩, HT.out.more (by rw [rk_mk]; omega), by rw [gts]; simp [gtsB]; exact Fresh.nil _ _⟩

set_option maxRecDepth 100000 in
set_option maxHeartbeats 4000000 in
theorem mk_20 (B lo M R : Nat) (p : Int) (ps : List Nat) (w : World) (l d : Int) (bd : List (List Fl)) (a : Option Addr) (cap : Nat) (hbd : bd = [])
    (hs : SLL w B a cap bd) (hms : MS B lo M R p ps w) (hp : p + 16 * rk (.mk 20 l d bd) < 4611686018427387904) :
    Calls Tryz.prog 69 #[.pointer (some ⟨M, 0, none⟩), .agg #[.int .i64 20, .int .i64 l, .int .i64 d, .slice a bd.length cap]] w (RetSt B lo M R p ps w (.mk 20 l d bd)) := by
  have hrp := rkL_part bd 0
  have hrp1 := rkL_part bd 1
  rw [rk_mk] at hp
  have hlM := hms.lM
  have hlR := hms.lR
  have hlo := hms.lsz
  have hB := hms.szB
  have hbM := hms.bM
  have hbR := hms.bR
  have hp0 : p + 16 * rkB bd + 16 < 4611686018427387904 := by omega
  have HS := Lib.hid hs
  have HMS := Lib.hid hms
  clear hs hms hp
  subst hbd
  go_enter Tryz.func69, Tryz.ntmps69
  go_wp2_with fail
  refine (at_any B lo M R p ps _ (HMS.out.alloc _) (by omega)).mono ?_
  rintro e w1 ⟨rfl, hm1, hz1⟩
  simp only [World.size_alloc] at hz1
  have hT := (((MkTo.refl HMS.out).alloc _).trans hm1)
  clear hm1
  go_wp2_with fail
  go_ret
  exact ⟨112, _, .mk (w.heap.size + 1) 20 l d [], p + 1, ps, rfl, by rw [er_mk, erB_nil], ST_20.2 ⟨by omega, by simp; omega, rfl, rfl⟩, (hT.alloc _).more (by rw [rk_mk]; omega), by rw [gts]; simp [gtsB]; exact Fresh.nil _ _⟩

set_option maxRecDepth 100000 in
set_option maxHeartbeats 4000000 in
theorem mk_18 (B lo M R : Nat) (p : Int) (ps : List Nat) (w : World) (l d : Int) (bd : List (List Fl)) (a : Option Addr) (cap : Nat) (hbd : bd = [])
    (hs : SLL w B a cap bd) (hms : MS B lo M R p ps w) (hp : p + 16 * rk (.mk 18 l d bd) < 4611686018427387904) :
    Calls Tryz.prog 69 #[.pointer (some ⟨M, 0, none⟩), .agg #[.int .i64 18, .int .i64 l, .int .i64 d, .slice a bd.length cap]] w (RetSt B lo M R p ps w (.mk 18 l d bd)) := by
  have hrp := rkL_part bd 0
  have hrp1 := rkL_part bd 1
  rw [rk_mk] at hp
  have hlM := hms.lM
  have hlR := hms.lR
  have hlo := hms.lsz
  have hB := hms.szB
  have hbM := hms.bM
  have hbR := hms.bR
  have hp0 : p + 16 * rkB bd + 16 < 4611686018427387904 := by omega
  have HS := Lib.hid hs
  have HMS := Lib.hid hms
  clear hs hms hp
  subst hbd
  go_enter Tryz.func69, Tryz.ntmps69
  go_wp2_with fail
  refine (call_any B lo M R p ps _ _ (HMS.out.alloc _) (by omega)).mono ?_
  rintro e w1 ⟨c, rfl, c1, c2, c3, p1, hm1⟩
  simp only [World.size_alloc] at c1
  have hT1 := ((MkTo.refl HMS.out).alloc _).trans hm1
  have HT := Lib.hid hT1
  have HC := Lib.hid c3
  clear hm1 hT1 c3
  go_wp2_with fail
  go_ret
  refine ⟨121, _, .mk w1.heap.size 18 l d [], p1, ps, rfl, by rw [er_mk, erB_nil], ST_18.2 ⟨by omega, by simp, rfl, ⟨c, by omega, by simp; omega, by simp, HMS.out.notin (by omega), HC.out.imp fun cs e => (Below.heap_alloc _ _ _ c2).trans e⟩, rfl⟩, (HT.out.alloc _).more (by rw [rk_mk]; omega), by rw [gts]; simp [gtsB]; exact Fresh.nil _ _⟩

set_option maxRecDepth 100000 in
set_option maxHeartbeats 4000000 in
theorem mk_15 (B lo M R : Nat) (p : Int) (ps : List Nat) (w : World) (l d : Int) (bd : List (List Fl)) (a : Option Addr) (cap : Nat) (hbd : bd = [])
    (hs : SLL w B a cap bd) (hms : MS B lo M R p ps w) (hp : p + 16 * rk (.mk 15 l d bd) < 4611686018427387904) :
    Calls Tryz.prog 69 #[.pointer (some ⟨M, 0, none⟩), .agg #[.int .i64 15, .int .i64 l, .int .i64 d, .slice a bd.length cap]] w (RetSt B lo M R p ps w (.mk 15 l d bd)) := by
  have hrp := rkL_part bd 0
  have hrp1 := rkL_part bd 1
  rw [rk_mk] at hp
  have hlM := hms.lM
  have hlR := hms.lR
  have hlo := hms.lsz
  have hB := hms.szB
  have hbM := hms.bM
  have hbR := hms.bR
  have hp0 : p + 16 * rkB bd + 16 < 4611686018427387904 := by omega
  have HS := Lib.hid hs
  have HMS := Lib.hid hms
  clear hs hms hp
  subst hbd
  go_enter Tryz.func69, Tryz.ntmps69
  go_wp2_with fail
  refine (at_any B lo M R (p) ps _ (HMS.out.alloc _) (by omega)).mono ?_
  rintro e w1 ⟨rfl, hm1, hz1⟩
  have hs1 := hm1.size
  have hT1 := MkTo.trans (((MkTo.refl HMS.out).alloc _)) hm1
  have hu1 := hm1.ub
  try simp only [World.size_alloc] at hs1 hz1
  clear hm1
  go_wp2_with fail
  refine (name_any B lo M R (p + 1) ps _ _ (hT1.ms) (by omega)).mono ?_
  rintro e w2 ⟨ix2, qx2, rfl, x12, x22, x32, x42, p2, hm2⟩
  have hs2 := hm2.size
  have hT2 := MkTo.trans (hT1) hm2
  have hu2 := hm2.ub
  try simp only [World.size_alloc] at hs2 x12
  clear hm2 x32 x42
  go_wp2_with fail
  refine (name_any B lo M R (p2) ps _ _ ((hT2.alloc _).ms) (by omega)).mono ?_
  rintro e w3 ⟨ix3, qx3, rfl, x13, x23, x33, x43, p3, hm3⟩
  have hs3 := hm3.size
  have hT3 := MkTo.trans (hT2.alloc _) hm3
  have hu3 := hm3.ub
  try simp only [World.size_alloc] at hs3 x13
  clear hm3 x33 x43
  go_wp2_with fail
  go_ret
  have hp00 := HMS.out.pos
  refine ⟨165, _, .mk (w3.heap.size + 1 + 1 + 1) 15 l d [], p3, ps, ?_, by rw [er_mk, erB_nil], ST_15.2 ⟨by omega, by simp, rfl, rfl, w3.heap.size + 1 + 1, p + 1, by omega, by simp, ?_, ?_, ?_, by omega⟩, ((((hT3.alloc _).alloc _).alloc _).alloc _).more (by rw [rk_mk]; omega), by rw [gts]; simp [gtsB]; exact Fresh.nil _ _⟩
  · rfl
  · exact cell_top (by simp) rfl
  · exact (World.cell?_alloc_past _ _ _ (by simp)).trans (cell_top (by simp) rfl)
  · exact (World.cell?_alloc_past _ _ _ (by simp)).trans (cell_top (by simp) rfl)

set_option maxRecDepth 100000 in
set_option maxHeartbeats 4000000 in
theorem mk_16 (B lo M R : Nat) (p : Int) (ps : List Nat) (w : World) (l d : Int) (bd : List (List Fl)) (a : Option Addr) (cap : Nat) (hbd : bd = [])
    (hs : SLL w B a cap bd) (hms : MS B lo M R p ps w) (hp : p + 16 * rk (.mk 16 l d bd) < 4611686018427387904) :
    Calls Tryz.prog 69 #[.pointer (some ⟨M, 0, none⟩), .agg #[.int .i64 16, .int .i64 l, .int .i64 d, .slice a bd.length cap]] w (RetSt B lo M R p ps w (.mk 16 l d bd)) := by
  have hrp := rkL_part bd 0
  have hrp1 := rkL_part bd 1
  rw [rk_mk] at hp
  have hlM := hms.lM
  have hlR := hms.lR
  have hlo := hms.lsz
  have hB := hms.szB
  have hbM := hms.bM
  have hbR := hms.bR
  have hp0 : p + 16 * rkB bd + 16 < 4611686018427387904 := by omega
  have HS := Lib.hid hs
  have HMS := Lib.hid hms
  clear hs hms hp
  subst hbd
  go_enter Tryz.func69, Tryz.ntmps69
  go_wp2_with fail
  refine (name_any B lo M R (p) ps _ _ (HMS.out.alloc _) (by omega)).mono ?_
  rintro e w1 ⟨ix1, qx1, rfl, x11, x21, x31, x41, p1, hm1⟩
  have hs1 := hm1.size
  have hT1 := MkTo.trans (((MkTo.refl HMS.out).alloc _)) hm1
  have hu1 := hm1.ub
  try simp only [World.size_alloc] at hs1 x11
  clear hm1 x31 x41
  go_wp2_with fail
  refine (at_any B lo M R (p1) ps _ ((hT1.alloc _).ms) (by omega)).mono ?_
  rintro e w2 ⟨rfl, hm2, hz2⟩
  have hs2 := hm2.size
  have hT2 := MkTo.trans (hT1.alloc _) hm2
  have hu2 := hm2.ub
  try simp only [World.size_alloc] at hs2 hz2
  clear hm2
  go_wp2_with fail
  refine (number_any B lo M R (p1 + 1) ps 1 _ (hT2.ms) (by omega) (by omega) (by omega)).mono ?_
  rintro e w3 ⟨ix3, rfl, x13, x23, p3, hm3⟩
  have hs3 := hm3.size
  have hT3 := MkTo.trans (hT2) hm3
  have hu3 := hm3.ub
  try simp only [World.size_alloc] at hs3 x13
  clear hm3
  go_wp2_with fail
  go_ret
  have hp00 := HMS.out.pos
  have hp01 := hT1.le
  refine ⟨189, _, .mk (w3.heap.size + 1) 16 l d [], p3, ps, ?_, by rw [er_mk, erB_nil], ST_16.2 ⟨by omega, by simp, rfl, rfl, by simp, p1 + 1, by simp, by omega⟩, ((hT3.alloc _).alloc _).more (by rw [rk_mk]; omega), by rw [gts]; simp [gtsB]; exact Fresh.nil _ _⟩
  rfl

set_option maxRecDepth 100000 in
set_option maxHeartbeats 4000000 in
theorem mk_17 (B lo M R : Nat) (p : Int) (ps : List Nat) (w : World) (l d : Int) (bd : List (List Fl)) (a : Option Addr) (cap : Nat) (hbd : bd = [])
    (hs : SLL w B a cap bd) (hms : MS B lo M R p ps w) (hp : p + 16 * rk (.mk 17 l d bd) < 4611686018427387904) :
    Calls Tryz.prog 69 #[.pointer (some ⟨M, 0, none⟩), .agg #[.int .i64 17, .int .i64 l, .int .i64 d, .slice a bd.length cap]] w (RetSt B lo M R p ps w (.mk 17 l d bd)) := by
  have hrp := rkL_part bd 0
  have hrp1 := rkL_part bd 1
  rw [rk_mk] at hp
  have hlM := hms.lM
  have hlR := hms.lR
  have hlo := hms.lsz
  have hB := hms.szB
  have hbM := hms.bM
  have hbR := hms.bR
  have hp0 : p + 16 * rkB bd + 16 < 4611686018427387904 := by omega
  have HS := Lib.hid hs
  have HMS := Lib.hid hms
  clear hs hms hp
  subst hbd
  go_enter Tryz.func69, Tryz.ntmps69
  go_wp2_with fail
  refine (at_any B lo M R (p) ps _ (HMS.out.alloc _) (by omega)).mono ?_
  rintro e w1 ⟨rfl, hm1, hz1⟩
  have hs1 := hm1.size
  have hT1 := MkTo.trans (((MkTo.refl HMS.out).alloc _)) hm1
  have hu1 := hm1.ub
  try simp only [World.size_alloc] at hs1 hz1
  clear hm1
  go_wp2_with fail
  refine (name_any B lo M R (p + 1) ps _ _ (hT1.ms) (by omega)).mono ?_
  rintro e w2 ⟨ix2, qx2, rfl, x12, x22, x32, x42, p2, hm2⟩
  have hs2 := hm2.size
  have hT2 := MkTo.trans (hT1) hm2
  have hu2 := hm2.ub
  try simp only [World.size_alloc] at hs2 x12
  clear hm2 x32 x42
  go_wp2_with fail
  refine (number_any B lo M R (p2) ps 1 _ ((hT2.alloc _).ms) (by omega) (by omega) (by omega)).mono ?_
  rintro e w3 ⟨ix3, rfl, x13, x23, p3, hm3⟩
  have hs3 := hm3.size
  have hT3 := MkTo.trans (hT2.alloc _) hm3
  have hu3 := hm3.ub
  try simp only [World.size_alloc] at hs3 x13
  clear hm3
  go_wp2_with fail
  go_ret
  have hp00 := HMS.out.pos
  refine ⟨165, _, .mk (w3.heap.size + 1 + 1 + 1 + 1) 17 l d [], p3, ps, ?_, by rw [er_mk, erB_nil], ST_17.2 ⟨by omega, by simp, rfl, rfl, w3.heap.size + 1 + 1 + 1, p + 1, by omega, by simp, ?_, ?_, ?_, by omega⟩, (((((hT3.alloc _).alloc _).alloc _).alloc _).alloc _).more (by rw [rk_mk]; omega), by rw [gts]; simp [gtsB]; exact Fresh.nil _ _⟩
  · rfl
  · exact cell_top (by simp) rfl
  · exact (World.cell?_alloc_past _ _ _ (by simp)).trans (cell_top (by simp) rfl)
  · exact (World.cell?_alloc_past _ _ _ (by simp)).trans (cell_top (by simp) rfl)

end Go.Proofs.YtpodifbgfcclbaaGreatDoor
