/- The maker's statements, kind by kind (2). -/
import Derived.Test.YtpodifbgfcclbaaGreatDoorMk9
set_option linter.unusedVariables false
set_option linter.unusedSimpArgs false
namespace Go.Proofs.YtpodifbgfcclbaaGreatDoor
open Go.RowKit
attribute [local go_sem] Nat.lt_add_one_of_lt

theorem Kept.setCell (w : World) (a : Addr) (v : Value) {lo H : Nat} {ps : List Nat} (h : a.block < lo ∨ H ≤ a.block) : Kept lo H ps ps w (w.setCell a v) := ⟨fun k h1 h2 => Below.heap_setCell _ _ _ _ (by omega), fun _ _ _ => rfl⟩
theorem Kept.tr {lo H : Nat} {ps ps' ps2 : List Nat} {w w' w2 : World} (h : Kept lo H ps ps' w w') (k : Kept lo H ps' ps2 w' w2) : Kept lo H ps ps2 w w2 := ⟨fun i h1 h2 => (k.1 i h1 h2).trans (h.1 i h1 h2), fun c h1 h2 => (k.2 c h1 h2).trans (h.2 c h1 h2)⟩
theorem rkB_two (y z : List Fl) : rkB [y, z] = rkL y + rkL z + 2 := by simp [rkB]; omega
/-- Both lists of an if. -/
theorem bs01_of {w : World} {lo H lo2 H2 : Nat} {ps : List Nat} {bd : List (List Fl)} {a1 a2 : Nat} {ts ts2 : List Tr} {sa sa2 : Option Addr} {cap b cap2 b2 : Nat} (hl : bd.length = 2) (h1 : lo ≤ a1) (h2 : a1 < H) (h3 : erL ts = partB bd 0) (h4 : w.cell? ⟨a1, 1, none⟩ = some (.slice sa (partB bd 0).length cap))
    (h5 : ts ≠ [] → sa = some ⟨b, 0, none⟩) (h7 : TL w lo H ps b 0 ts) (h9 : Fresh (gtsL ts) lo H) (hlen : (partB bd 0).length ≤ 8796093022208)
    (k1 : lo2 ≤ a2) (k2 : a2 < H2) (k3 : erL ts2 = partB bd 1) (k4 : w.cell? ⟨a2, 1, none⟩ = some (.slice sa2 (partB bd 1).length cap2))
    (k5 : ts2 ≠ [] → sa2 = some ⟨b2, 0, none⟩) (k7 : TL w lo2 H2 ps b2 0 ts2) (k9 : Fresh (gtsL ts2) lo2 H2) (hlen2 : (partB bd 1).length ≤ 8796093022208) (hH : H ≤ lo2) :
    ∃ tb, erB tb = bd ∧ BS0 w lo H ps a1 tb ∧ BS1 w lo2 H2 ps (.iface 50 (.pointer (some ⟨a2, 0, none⟩))) tb ∧ Fresh (gtsB tb) lo H2 ∧ tb.length = bd.length := by
  have hel := erL_length ts
  have hel2 := erL_length ts2
  rw [h3] at hel
  rw [k3] at hel2
  rcases bd with _ | ⟨y, _ | ⟨z, _ | ⟨u, zs⟩⟩⟩ <;> simp at hl
  refine ⟨[ts, ts2], by rw [erB, erB, erB, h3, k3]; rfl, ?_, ?_, ?_, rfl⟩
  · rw [BS0]
    exact ⟨h1, h2, sa, cap, by rw [← hel]; exact h4, by rw [← hel]; exact hlen, b, 0, h5, h7⟩
  · rw [BS1]
    exact ⟨a2, rfl, k1, k2, sa2, cap2, by rw [← hel2]; exact k4, by rw [← hel2]; exact hlen2, b2, 0, k5, k7⟩
  · rw [gtsB, gtsB, gtsB, List.append_nil]
    exact Fresh.append (mid := H) h9 (k9.mono hH (Nat.le_refl _)) (by omega) (by omega)

set_option maxRecDepth 100000 in
set_option maxHeartbeats 4000000 in
theorem mk_2 (B lo M R : Nat) (p : Int) (ps : List Nat) (w : World) (l d : Int) (bd : List (List Fl)) (a : Option Addr) (cap : Nat) (hl2 : bd.length < 3) (hbd : BodyC bd)
    (hs : SLL w B a cap bd) (hms : MS B lo M R p ps w) (hp : p + 16 * rk (.mk 2 l d bd) < 4611686018427387904) :
    Calls Tryz.prog 47 #[.pointer (some ⟨M, 0, none⟩), .agg #[.int .i64 2, .int .i64 l, .int .i64 d, .slice a bd.length cap]] w (RetSt B lo M R p ps w (.mk 2 l d bd)) := by
  have hrp := rkL_part bd 0
  have hrp1 := rkL_part bd 1
  rw [rk_mk] at hp
  have hlM := hms.lM
  have hlR := hms.lR
  have hlo := hms.lsz
  have hB := hms.szB
  have hbM := hms.bM
  have hbR := hms.bR
  have hp0 : p + 16 * rkB bd + 16 < 4611686018427387904 := by omega
  have HS := Lib.hid hs
  have HMS := Lib.hid hms
  clear hs hms hp
  have HBD := Lib.hid hbd
  clear hbd
  go_enter Tryz.func47, Tryz.ntmps47
  go_wp2_with fail
  go_region_held3 (fun w' => w'.cell? ⟨w.heap.size, 0, none⟩ = some (.int .i64 2) ∧ w'.cell? ⟨w.heap.size, 1, none⟩ = some (.int .i64 l) ∧ w'.cell? ⟨w.heap.size, 2, none⟩ = some (.int .i64 d) ∧ w'.cell? ⟨w.heap.size, 3, none⟩ = some (.slice a bd.length cap)) (go_keep)
    (first | (go_at_call 45; refine (at_any B lo M R p ps _ (by exact (HMS.out.alloc _).drew) (by omega)).mono ?_; rintro e w1 ⟨rfl, hm1, hz1⟩; have hT1 := MkTo.trans (((MkTo.refl HMS.out).alloc _).drew) hm1; have hy1 : w.heap.size < w1.heap.size := (by have := hm1.size; simp at this; omega); have hcn1 : ∀ o, w1.cell? ⟨w.heap.size, o, none⟩ = _ := fun o => hm1.mf.cell (k := w.heap.size) (o := o) (by simp) (by omega) (by omega)) | (go_at_call 66; refine (name_any B lo M R (p + 1) ps _ _ (by exact hT1.ms) (by omega)).mono ?_; rintro e w2 ⟨ix2, qx2, rfl, x12, x22, x32, x42, p2, hm2⟩; have hu2 := hm2.ub; have hT2 := MkTo.trans hT1 hm2; have hy2 : w.heap.size < w2.heap.size := (by have := hm2.size; omega); have hcn2 : ∀ o, w2.cell? ⟨w.heap.size, o, none⟩ = _ := fun o => (hm2.mf.cell (k := w.heap.size) (o := o) (by omega) (by omega) (by omega)).trans (hcn1 o)) | (go_at_call 37; refine (HBD.out 0 B lo M R (p2) ps _ 2 l d a cap (by omega) (by exact HS.out.below (hT2.mf.below hB hbM hbR) (Nat.le_refl _)) (by exact hT2.ms) (by omega)).mono ?_; rintro e w3 ⟨a3, ts3, sa3, cap3, b3, p3, ps3, rfl, e13, e23, e33, e43, e53, e63, e73, hm3, e93⟩; have hT3 := MkTo.trans hT2 hm3; have hy3 : w.heap.size < w3.heap.size := (by have := hm3.size; omega); have hcn3 : ∀ o, w3.cell? ⟨w.heap.size, o, none⟩ = _ := fun o => (hm3.mf.cell (k := w.heap.size) (o := o) (by omega) (by omega) (by omega)).trans (hcn2 o)))
  have hlen := part_len HS.out 0
  have hlen1 := part_len HS.out 1
  have hub3 := hT3.ub
  clear hm1 hm2 hm3 hcn1 hcn2 x32 x42
  by_cases hone : bd.length < 2
  · have hnz : ¬ ((1 : Int) < (bd.length : Int)) := by omega
    obtain ⟨tb, t1, t2, t3, t4⟩ := bs0_of hone e13 e23 e33 e43 e53 e63 e73 e93 hlen
    have HT := Lib.hid (hT3.alloc (.cells #[.int .i64 (p + 1), .nilIface, .iface 101 (.pointer (some ⟨ix2, 0, none⟩)), .pointer (some ⟨a3, 0, none⟩), .nilIface] 129))
    have HT2 := Lib.hid (BS0.widen (lo' := w.heap.size) (H' := (w3.alloc (.cells #[.int .i64 (p + 1), .nilIface, .iface 101 (.pointer (some ⟨ix2, 0, none⟩)), .pointer (some ⟨a3, 0, none⟩), .nilIface] 129)).heap.size) (Kept.alloc w3 (.cells #[.int .i64 (p + 1), .nilIface, .iface 101 (.pointer (some ⟨ix2, 0, none⟩)), .pointer (some ⟨a3, 0, none⟩), .nilIface] 129) (Nat.le_refl _)) (by omega) (by simp) t2)
    clear hT1 hT2 hT3 e33 e43 e53 e63 e73 t2
    go_wp2_with fail
    go_ret
    refine ⟨126, _, .mk w3.heap.size 2 l d tb, p3, ps3, rfl, by rw [er_mk, t1], ST_2.2 ⟨by omega, by simp, rfl, by omega, ⟨a3, by simp, HT2.out⟩, .nilIface, by simp, ?_⟩, HT.out.more (by rw [rk_mk]; omega), by rw [gts]; simp; exact t3.mono (by omega) (by omega)⟩
    rw [BS1]
    intro _ _ _ hh; subst hh; simp at t4; omega
  · have hnz : (1 : Int) < (bd.length : Int) := by omega
    have hbb : rkL (partB bd 0) + rkL (partB bd 1) + 2 = rkB bd := by
      rcases bd with _ | ⟨y, _ | ⟨z, _ | ⟨u, zs⟩⟩⟩
      · simp at hone
      · simp at hone
      · exact (rkB_two y z).symm
      · simp at hl2; omega
    have HT := Lib.hid (hT3.alloc (.cells #[.int .i64 (p + 1), .nilIface, .iface 101 (.pointer (some ⟨ix2, 0, none⟩)), .pointer (some ⟨a3, 0, none⟩), .nilIface] 129))
    have HE4 := Lib.hid e43
    have HE5 := Lib.hid e53
    have HE7 := Lib.hid e73
    have HE9 := Lib.hid e93
    have HE3 := Lib.hid e33
    clear hT1 hT2 hT3 e33 e43 e53 e63 e73 e93
    go_wp2_with fail
    refine (HBD.out 1 B lo M R p3 ps3 _ 2 l d a cap (by omega) (by exact HS.out.below (HT.out.mf.below hB hbM hbR) (Nat.le_refl _)) HT.out.ms (by omega)).mono ?_
    rintro e w4 ⟨a4, ts4, sa4, cap4, b4, p4, ps4, rfl, f1, f2, f3, f4, f5, f6, f7, hm4, f9⟩
    simp only [World.size_alloc] at f1 f7 f9
    have hsz4 := hm4.size
    have hub4 := hm4.ub
    simp only [World.size_alloc] at hsz4
    have hcn4 : ∀ o, w4.cell? ⟨w3.heap.size, o, none⟩ = _ := fun o => hm4.mf.cell (k := w3.heap.size) (o := o) (by simp) (by omega) (by omega)
    have hfz4 : ∀ o, w4.frozen? ⟨w3.heap.size, o, none⟩ = _ := fun o => hm4.mf.frozen (k := w3.heap.size) (o := o) (by simp) (by omega) (by omega)
    have HT4 := Lib.hid ((MkTo.trans HT.out hm4).setCell (a := ⟨w3.heap.size, 4, none⟩) (by simp; omega) (by simp; omega) (.iface 50 (.pointer (some ⟨a4, 0, none⟩))))
    have hk0 : Kept w2.heap.size w3.heap.size ps3 ps4 w3 (w4.setCell ⟨w3.heap.size, 4, none⟩ (.iface 50 (.pointer (some ⟨a4, 0, none⟩)))) :=
      ((Kept.alloc w3 (.cells #[.int .i64 (p + 1), .nilIface, .iface 101 (.pointer (some ⟨ix2, 0, none⟩)), .pointer (some ⟨a3, 0, none⟩), .nilIface] 129) (Nat.le_refl _)).tr (hm4.st (by omega) (by simp))).tr (Kept.setCell _ _ _ (Or.inr (Nat.le_refl _)))
    have hk1 : Kept (w3.heap.size + 1) w4.heap.size ps4 ps4 w4 (w4.setCell ⟨w3.heap.size, 4, none⟩ (.iface 50 (.pointer (some ⟨a4, 0, none⟩)))) := Kept.setCell _ _ _ (Or.inl (by simp))
    obtain ⟨tb, t1, t2, t3, t4, t5⟩ := bs01_of (by omega) e13 e23 HE3.out (hk0.cell e13 e23 HE4.out) HE5.out (TL.keepG hk0 (Nat.le_refl _) (Nat.le_refl _) HE7.out) HE9.out hlen f1 f2 f3 (hk1.cell f1 f2 f4) f5 (TL.keepG hk1 (Nat.le_refl _) (Nat.le_refl _) f7) f9 hlen1 (by omega)
    have HT2 := Lib.hid t2
    have HT3 := Lib.hid t3
    clear hm4 f3 f4 f5 f6 f7 hk0 hk1 t2 t3
    go_wp2_with fail
    go_ret
    refine ⟨126, _, .mk w3.heap.size 2 l d tb, p4, ps4, rfl, by rw [er_mk, t1], ST_2.2 ⟨by omega, by simp; omega, rfl, by omega, ⟨a3, ?_, BS0.widen ⟨fun _ _ _ => rfl, fun _ _ _ => rfl⟩ (by omega) (by simp; omega) HT2.out⟩, _, ?_, BS1.keepG ⟨fun _ _ _ => rfl, fun _ _ _ => rfl⟩ (by omega) (by simp) HT3.out⟩, HT4.out.more (by rw [rk_mk]; omega), by rw [gts]; simp; exact t4.mono (by omega) (by omega)⟩
    · rw [sc_other (by simp), hcn4]; simp
    · exact sc_same ((hcn4 4).trans (by simp; rfl))

set_option maxRecDepth 100000 in
set_option maxHeartbeats 4000000 in
theorem mk_7 (B lo M R : Nat) (p : Int) (ps : List Nat) (w : World) (l d : Int) (bd : List (List Fl)) (a : Option Addr) (cap : Nat) (hls : ∀ y ∈ bd, MkLsC y) (hfi : ∀ y ∈ bd, ∃ thr, fiL y thr = true)
    (hs : SLL w B a cap bd) (hms : MS B lo M R p ps w) (hp : p + 16 * rk (.mk 7 l d bd) < 4611686018427387904) :
    Calls Tryz.prog 47 #[.pointer (some ⟨M, 0, none⟩), .agg #[.int .i64 7, .int .i64 l, .int .i64 d, .slice a bd.length cap]] w (RetSt B lo M R p ps w (.mk 7 l d bd)) := by
  have hrp := rkL_part bd 0
  have hrp1 := rkL_part bd 1
  rw [rk_mk] at hp
  have hlM := hms.lM
  have hlR := hms.lR
  have hlo := hms.lsz
  have hB := hms.szB
  have hbM := hms.bM
  have hbR := hms.bR
  have hp0 : p + 16 * rkB bd + 16 < 4611686018427387904 := by omega
  have HS := Lib.hid hs
  have HMS := Lib.hid hms
  clear hs hms hp
  have HLS := Lib.hid hls
  have HFI := Lib.hid hfi
  clear hls hfi
  go_enter Tryz.func47, Tryz.ntmps47
  go_wp2_with fail
  refine (at_any B lo M R p ps _ (HMS.out.alloc _) (by omega)).mono ?_
  rintro e w1 ⟨rfl, hm1, hz1⟩
  simp only [World.size_alloc] at hz1
  have hT1 := ((((MkTo.refl HMS.out).alloc _)).trans hm1).alloc (.cells #[.int .i64 (p + 1), .nilIface, .nilIface, .pointer none] 143)
  have hcn1 : ∀ o, w1.cell? ⟨w.heap.size, o, none⟩ = _ := fun o => hm1.mf.cell (k := w.heap.size) (o := o) (by simp) (by omega) (by omega)
  clear hm1
  go_wp2_with fail
  refine (name_any B lo M R (p + 1) ps _ _ hT1.ms (by omega)).mono ?_
  rintro e w2 ⟨ix2, qx2, rfl, x12, x22, x32, x42, p2, hm2⟩
  have hs2 := hm2.size
  simp only [World.size_alloc] at hs2 x12
  have hu2 := hm2.ub
  have hT2 := hT1.trans hm2
  have hcn2 : ∀ o, w2.cell? ⟨w.heap.size + 1, o, none⟩ = _ := fun o => hm2.mf.cell (k := w.heap.size + 1) (o := o) (by simp [hz1]) (by omega) (by omega)
  have hfz2 : ∀ o, w2.frozen? ⟨w.heap.size + 1, o, none⟩ = _ := fun o => hm2.mf.frozen (k := w.heap.size + 1) (o := o) (by simp [hz1]) (by omega) (by omega)
  have hcl2 : ∀ o, w2.cell? ⟨w.heap.size, o, none⟩ = _ := fun o => hm2.mf.cell (k := w.heap.size) (o := o) (by simp; omega) (by omega) (by omega)
  go_wp2_with fail
  refine (at_any B lo M R p2 ps _ hT2.ms (by omega)).mono ?_
  rintro e w3 ⟨rfl, hm3, hz3⟩
  have hT3 := hT2.trans hm3
  have hcn3 : ∀ o, w3.cell? ⟨w.heap.size + 1, o, none⟩ = _ := fun o => hm3.mf.cell (k := w.heap.size + 1) (o := o) (by omega) (by omega) (by omega)
  have hfz3 : ∀ o, w3.frozen? ⟨w.heap.size + 1, o, none⟩ = _ := fun o => hm3.mf.frozen (k := w.heap.size + 1) (o := o) (by omega) (by omega) (by omega)
  have hcl3 : ∀ o, w3.cell? ⟨w.heap.size, o, none⟩ = _ := fun o => hm3.mf.cell (k := w.heap.size) (o := o) (by omega) (by omega) (by omega)
  go_wp2_with fail
  refine (at_any B lo M R (p2 + 1) ps _ hT3.ms (by omega)).mono ?_
  rintro e w4 ⟨rfl, hm4, hz4⟩
  have hT4 := hT3.trans hm4
  have hcn4 : ∀ o, w4.cell? ⟨w.heap.size + 1, o, none⟩ = _ := fun o => (hm4.mf.cell (k := w.heap.size + 1) (o := o) (by omega) (by omega) (by omega)).trans ((hcn3 o).trans (hcn2 o))
  have hfz4 : ∀ o, w4.frozen? ⟨w.heap.size + 1, o, none⟩ = _ := fun o => (hm4.mf.frozen (k := w.heap.size + 1) (o := o) (by omega) (by omega) (by omega)).trans ((hfz3 o).trans (hfz2 o))
  have hcl4 : ∀ o, w4.cell? ⟨w.heap.size, o, none⟩ = w1.cell? ⟨w.heap.size, o, none⟩ := fun o => ((hm4.mf.cell (k := w.heap.size) (o := o) (by omega) (by omega) (by omega)).trans ((hcl3 o).trans (hcl2 o))).trans (World.cell?_alloc_past _ _ _ (by omega))
  have hcl4b : ∀ o, w4.cell? ⟨w.heap.size, o, none⟩ = _ := fun o => (hcl4 o).trans (hcn1 o)
  have hT5 := Lib.hid (((hT4.setCell (a := ⟨w.heap.size + 1, 2, none⟩) (by simp) (by simp; omega) (.iface 121 (.pointer (some ⟨w2.heap.size + 1, 0, none⟩)))).alloc (.cells #[.iface 101 (.pointer (some ⟨ix2, 0, none⟩)), .int .i64 (p2 + 1), .nilIface, .int .i64 (p2 + 1 + 1)] 146)).alloc (.cells #[.iface 144 (.pointer (some ⟨w2.heap.size, 0, none⟩))] 125))
  have hcn4b : ∀ o, w4.cell? ⟨w.heap.size + 1, o, none⟩ = (w1.alloc (.cells #[.int .i64 (p + 1), .nilIface, .nilIface, .pointer none] 143)).cell? ⟨w1.heap.size, o, none⟩ := fun o => (hcn4 o).trans (by rw [hz1])
  have hfz4b : ∀ o, w4.frozen? ⟨w.heap.size + 1, o, none⟩ = (w1.alloc (.cells #[.int .i64 (p + 1), .nilIface, .nilIface, .pointer none] 143)).frozen? ⟨w1.heap.size, o, none⟩ := fun o => (hfz4 o).trans (by rw [hz1])
  have hy4 : w.heap.size < w2.heap.size := by omega
  have hy5 : w.heap.size + 1 < w2.heap.size := by omega
  clear hm2 hm3 hm4 hcn4 hfz4 hT1 hT2 hT3 hT4 hcl2 hcl3 hcl4 hcn2 hcn3 hfz2 hfz3 x32 x42
  go_wp2_with fail
  refine (cases_switch bd HLS.out HFI.out B lo M R (p2 + 1 + 1) ps _ 7 l d a cap (by decide) (by exact HS.out.below (hT5.out.mf.below hB hbM hbR) (Nat.le_refl _)) (by exact hT5.out.ms) (by omega)).mono ?_
  rintro e w5 ⟨a5, tb, p5, ps5, rfl, e15, e25, hm5, e45⟩
  have hs5 := hm5.size
  simp only [World.size_setCell, World.size_alloc] at hs5 e45
  have hT6 := Lib.hid ((MkTo.trans hT5.out hm5).setCell (a := ⟨w.heap.size + 1, 3, none⟩) (by simp) (by simp; omega) (.pointer (some ⟨a5, 0, none⟩)))
  have hcn5 : ∀ o, w5.cell? ⟨w.heap.size + 1, o, none⟩ = _ := fun o => hm5.mf.cell (k := w.heap.size + 1) (o := o) (by simp; omega) (by omega) (by omega)
  have hfz5 : ∀ o, w5.frozen? ⟨w.heap.size + 1, o, none⟩ = _ := fun o => hm5.mf.frozen (k := w.heap.size + 1) (o := o) (by simp; omega) (by omega) (by omega)
  have HCS := Lib.hid (CS.widen (lo' := w.heap.size) (H' := (w5.setCell ⟨w.heap.size + 1, 3, none⟩ (.pointer (some ⟨a5, 0, none⟩))).heap.size) (Kept.setCell w5 ⟨w.heap.size + 1, 3, none⟩ (.pointer (some ⟨a5, 0, none⟩)) (Or.inl (by simp; omega))) (by simp; omega) (by simp) e25)
  clear hm5 e25
  go_wp2_with fail
  go_ret
  refine ⟨141, _, .mk (w.heap.size + 1) 7 l d tb, p5, ps5, rfl, by rw [er_mk, e15], ST_7.2 ⟨by omega, by simp; omega, rfl, a5, ?_, HCS.out⟩, hT6.out.more (by rw [rk_mk]; omega), by rw [gts]; simp; exact e45.mono (by omega) (by omega)⟩
  refine sc_same (u := .pointer none) ((hcn5 3).trans ?_)
  rw [World.cell?_alloc_past _ _ _ (by simp; omega), World.cell?_alloc_past _ _ _ (by simp; omega), sc_other (by simp), hcn4b]
  simp

set_option maxRecDepth 100000 in
set_option maxHeartbeats 4000000 in
theorem mk_through (B lo M R : Nat) (p : Int) (ps : List Nat) (w : World) (k l d : Int) (bd : List (List Fl)) (a : Option Addr) (cap : Nat) (hk : 10 ≤ k)
    (h : ∀ w', Below w.heap.size w w' → w.heap.size ≤ w'.heap.size → MS B lo M R p ps w' → SLL w' B a cap bd → Calls Tryz.prog 69 #[.pointer (some ⟨M, 0, none⟩), .agg #[.int .i64 k, .int .i64 l, .int .i64 d, .slice a bd.length cap]] w' (RetSt B lo M R p ps w' (.mk k l d bd)))
    (hs : SLL w B a cap bd) (hms : MS B lo M R p ps w) :
    Calls Tryz.prog 47 #[.pointer (some ⟨M, 0, none⟩), .agg #[.int .i64 k, .int .i64 l, .int .i64 d, .slice a bd.length cap]] w (RetSt B lo M R p ps w (.mk k l d bd)) := by
  have hB := hms.szB
  have HH := Lib.hid h
  have HS := Lib.hid hs
  have HMS := Lib.hid hms
  clear hs hms h
  have k0 : k ≠ 0 := by omega
  have k1 : k ≠ 1 := by omega
  have k2 : k ≠ 2 := by omega
  have k3 : k ≠ 3 := by omega
  have k4 : k ≠ 4 := by omega
  have k5 : k ≠ 5 := by omega
  have k6 : k ≠ 6 := by omega
  have k7 : k ≠ 7 := by omega
  have k8 : k ≠ 8 := by omega
  have k9 : k ≠ 9 := by omega
  go_enter Tryz.func47, Tryz.ntmps47
  go_wp2_with fail
  refine (HH.out _ ((Below.refl _ _).alloc (Nat.le_refl _) _) (by simp) (HMS.out.alloc _) (by exact HS.out.below ((Below.refl B _).alloc hB _) (Nat.le_refl _))).mono ?_
  rintro e w1 ⟨T, a1, t, p1, ps1, rfl, e1, e2, e3, e4⟩
  simp only [World.size_alloc] at e2 e4
  have HT := Lib.hid (((MkTo.refl HMS.out).alloc _).trans e3)
  have HT2 := Lib.hid e2
  clear e3 e2
  go_wp2_with fail
  go_ret
  exact ⟨T, a1, t, p1, ps1, rfl, e1, ST.keepG ⟨fun _ _ _ => rfl, fun _ _ _ => rfl⟩ (by omega) (Nat.le_refl _) HT2.out, HT.out.more (by omega), e4.mono (by omega) (by omega)⟩

end Go.Proofs.YtpodifbgfcclbaaGreatDoor
