/- impl.Jumps. -/
import Derived.Test.YtpodifbgfcclbaaGreatDoorJm24
import Derived.Test.YtpodifbgfcclbaaGreatDoorImp1
set_option linter.unusedVariables false
set_option linter.unusedSimpArgs false
namespace Go.Proofs.YtpodifbgfcclbaaGreatDoor
open Go.RowKit
attribute [local go_sem] Nat.lt_add_one_of_lt

set_option maxHeartbeats 1000000 in
/-- The body of a function that is made of a list. -/
theorem body_top (y : List Fl) (thr : Bool) (hl0 : MkLsC y) (hf0 : fiL y thr = true) (B lo M R : Nat) (p : Int) (ps : List Nat) (w : World) (k l d : Int) (b : Nat) (a' : Option Addr) (cap' : Nat) (g5 : SL w B a' cap' y) (hcell : w.cell? ⟨b, 0, none⟩ = some (.slice a' y.length cap')) (hbw : b < w.heap.size) (hbM : b ≠ M) (hbR : b ≠ R)
    (hms : MS B lo M R p ps w) (hp : p + 16 * rkL y + 2 < 4611686018427387904) :
    Calls Tryz.prog 37 #[.pointer (some ⟨M, 0, none⟩), .agg #[.int .i64 k, .int .i64 l, .int .i64 d, .slice (some ⟨b, 0, none⟩) 1 1], .int .i64 0] w fun e w' => ∃ p0 q0 a1 ts sa cap b p' ps', e = .returned (.pointer (some ⟨a1, 0, none⟩)) ∧ w.heap.size ≤ a1 ∧ a1 < w'.heap.size ∧ erL ts = y ∧
      w'.cell? ⟨a1, 0, none⟩ = some (.int .i64 p0) ∧ w'.cell? ⟨a1, 2, none⟩ = some (.int .i64 q0) ∧ w'.cell? ⟨a1, 1, none⟩ = some (.slice sa y.length cap) ∧
      (ts ≠ [] → sa = some ⟨b, 0, none⟩) ∧ (ts = [] → sa = none ∧ cap = 0) ∧ TL w' w.heap.size w'.heap.size ps' b 0 ts ∧ MkTo B lo M R p ps w (2 + 16 * rkL y) p' ps' w' ∧ Fresh (gtsL ts) w.heap.size w'.heap.size := by
  have HL := Lib.hid (hl0 thr)
  have HF := Lib.hid hf0
  clear hl0 hf0
  have hB := hms.szB
  have hlo := hms.lsz
  have hlM := hms.lM
  have hlR := hms.lR
  go_enter Tryz.func37, Tryz.ntmps37
  go_wp2_with fail
  refine (at_any B lo M R p ps _ (hms.alloc _) (by omega)).mono ?_
  rintro e w1 ⟨rfl, hm1, hz1⟩
  simp only [World.size_alloc] at hz1
  have hcn : ∀ o, w1.cell? ⟨w.heap.size, o, none⟩ = _ := fun o => hm1.mf.cell (k := w.heap.size) (o := o) (by simp) (by omega) (by omega)
  have hcb : ∀ o, w1.cell? ⟨b, o, none⟩ = w.cell? ⟨b, o, none⟩ := fun o => by rw [hm1.mf.cell (k := b) (o := o) (by simp; omega) (by omega) (by omega)]; exact World.cell?_alloc_past _ _ _ hbw
  have hbw1 : b < w1.heap.size := by omega
  go_wp2_with fail
  have hms2 := hm1.ms.alloc (.cells #[.int .i64 (p + 1), .slice none 0 0, .int .i64 0] 76)
  have hb2 : Below B w (w1.alloc (.cells #[.int .i64 (p + 1), .slice none 0 0, .int .i64 0] 76)) :=
    (((Below.refl _ _).alloc hB _).trans (hm1.mf.below (by simp; omega) hms.bM hms.bR)).alloc (by omega) _
  refine (HL.out B lo M R (p + 1) ps _ a' cap' HF.out (g5.below hb2 (Nat.le_refl _)) hms2 (by omega)).mono ?_
  rintro e w2 ⟨ts, sa, cap2, p2, ps2, rfl, ht, ⟨b2, r1, r2⟩, r3, hm2, hf⟩
  have hc2 : ∀ o, w2.cell? ⟨w.heap.size + 1, o, none⟩ = _ := fun o => hm2.mf.cell (k := w.heap.size + 1) (o := o) (by simp; omega) (by omega) (by omega)
  have hf2 : ∀ o, w2.frozen? ⟨w.heap.size + 1, o, none⟩ = _ := fun o => hm2.mf.frozen (k := w.heap.size + 1) (o := o) (by simp; omega) (by omega) (by omega)
  have HM2 := Lib.hid hm2
  have HM1 := Lib.hid hm1
  have HT := Lib.hid ht
  have HR2 := Lib.hid r2
  have HR1 := Lib.hid r1
  have HR3 := Lib.hid r3
  have HF2 := Lib.hid hf
  have hub := hm2.ub
  have hsz2 := hm2.size
  simp only [World.size_alloc] at hsz2
  clear hm2 hm1 ht r2 r1 r3 hf hcn hcb hms2 hb2 hc2
  have hc2 : ∀ o, w2.cell? ⟨w.heap.size + 1, o, none⟩ = _ := fun o => HM2.out.mf.cell (k := w.heap.size + 1) (o := o) (by simp; omega) (by omega) (by omega)
  go_wp2_with fail
  have hm3 : MkTo B lo M R p ps w (1 + 16 * rkL y) p2 ps2 (w2.setCell ⟨w.heap.size + 1, 1, none⟩ (.slice sa y.length cap2)) :=
    ((((MkTo.refl hms).alloc _).trans HM1.out).trans (c := 1) ((MkTo.refl HM1.out.ms).alloc _ |>.trans HM2.out)).more (by omega) |>.setCell (by simp) (by simp; omega) _
  refine (at_any B lo M R p2 ps2 _ hm3.ms (by omega)).mono ?_
  rintro e w3 ⟨rfl, hm4, hz4⟩
  simp only [World.size_setCell] at hz4
  have hc2b : w2.cell? ⟨w.heap.size + 1, 1, none⟩ = some (.slice none 0 0) := by rw [hc2]; rw [← hz1]; simp
  have hc4 : w3.cell? ⟨w.heap.size + 1, 1, none⟩ = some (.slice sa y.length cap2) := by
    rw [hm4.mf.cell (k := w.heap.size + 1) (o := 1) (by simp; omega) (by omega) (by omega)]
    exact sc_same hc2b
  have hc5 : w3.cell? ⟨w.heap.size + 1, 2, none⟩ = some (.int .i64 0) := by
    rw [hm4.mf.cell (k := w.heap.size + 1) (o := 2) (by simp; omega) (by omega) (by omega), sc_other (.inr (by omega)), hc2]; rw [← hz1]; simp
  have hf5 : ∀ o, w3.frozen? ⟨w.heap.size + 1, o, none⟩ = false := fun o => by
    rw [hm4.mf.frozen (k := w.heap.size + 1) (o := o) (by simp; omega) (by omega) (by omega), World.frozen?_setCell, hf2]; rw [← hz1]; simp
  have hm5 := (hm3.trans hm4).setCell (a := ⟨w.heap.size + 1, 2, none⟩) (by simp) (by simp; omega) (.int .i64 (p2 + 1))
  have HM4 := Lib.hid hm4
  have HM5 := Lib.hid hm5
  clear hm4 hm3 hm5 hc2 hf2 hc2b
  go_wp2_with fail
  go_ret
  have t2 := HR2.out
  have f2 := HF2.out
  have r3 := HR3.out
  have r1 := HR1.out
  rw [World.size_alloc] at t2 f2
  have hsz5 := HM4.out.size
  simp only [World.size_setCell] at hsz5
  have t3 : TL (w2.setCell ⟨w.heap.size + 1, 1, none⟩ (.slice sa y.length cap2)) (w1.heap.size + 1) w2.heap.size ps2 b2 0 ts := t2.setCell _ (.inl (by simp; omega))
  have t4 := (TL.mk HM4.out t3 (by omega) (by simp)).setCell (a := ⟨w.heap.size + 1, 2, none⟩) (.int .i64 (p2 + 1)) (.inl (by simp; omega))
  refine ⟨p + 1, p2 + 1, w.heap.size + 1, ts, sa, cap2, b2, p2 + 1, ps2, rfl, by omega, by simp; omega, HT.out, ?_, ?_, ?_, r1, r3, ?_, HM5.out.more (by omega), f2.mono (by omega) (by simp; omega)⟩
  · rw [sc_other (.inr (by omega))]
    rw [HM4.out.mf.cell (k := w.heap.size + 1) (o := 0) (by simp; omega) (by omega) (by omega), sc_other (.inr (by omega)), HM2.out.mf.cell (k := w.heap.size + 1) (o := 0) (by simp; omega) (by omega) (by omega)]; rw [← hz1]; simp
  · exact sc_same hc5
  · rw [sc_other (.inr (by omega))]; exact hc4
  · exact TL.keepG ⟨fun _ _ _ => rfl, fun _ _ _ => rfl⟩ (by omega) (by simp; omega) t4
theorem row_form3 {w : World} {base e n : Nat} {v : Value} {xs : List Value} (h : w.ownsRow base e 3 v n xs) : ∃ a cap, v = .slice a n cap := by
  rcases h.2 with ⟨rfl, rfl⟩ | ⟨g, cap, cur, rfl, _⟩
  · exact ⟨none, 0, rfl⟩
  · exact ⟨_, cap, rfl⟩
set_option maxHeartbeats 1000000 in
theorem Labels_any (lo : Nat) (ps : List Nat) (y : List Tr) (sa : Option Addr) (cap b o a1 : Nat) (p q : Int) (w : World) (ha : a1 < w.heap.size) (hp : w.cell? ⟨a1, 0, none⟩ = some (.int .i64 p)) (hl : w.cell? ⟨a1, 1, none⟩ = some (.slice sa y.length cap)) (hq : w.cell? ⟨a1, 2, none⟩ = some (.int .i64 q))
    (hlen : y.length ≤ 8796093022208) (hsa : y ≠ [] → sa = some ⟨b, o, none⟩) (htl : TL w lo w.heap.size ps b o y) (hnd : (gtsL y).Nodup) (hct : ctL (erL y) ≤ 50000) :
    Calls Tryz.prog 36 #[.pointer (some ⟨a1, 0, none⟩)] w fun e w' => (∃ sv cv, e = .returned (.slice sv (jumpsR (erL y)) cv)) ∧ Below w.heap.size w w' := by
  have hcell : ∀ o, (w.alloc (.cells #[.map none, .slice none 0 0] 72)).cell? ⟨a1, o, none⟩ = w.cell? ⟨a1, o, none⟩ := fun o => World.cell?_alloc_past _ _ _ ha
  have hchk : Chk w.heap.size w.heap.size 0 (w.alloc (.cells #[.map none, .slice none 0 0] 72)) := ⟨Nat.le_refl _, .slice none 0 0, [], blk_new _ _ _, ⟨rfl, .inl ⟨rfl, rfl⟩⟩⟩
  have hcall := labels_any lo w.heap.size w.heap.size ps y sa cap b o a1 p q (w.alloc (.cells #[.map none, .slice none 0 0] 72)) hchk (by simp) ha ((hcell 0).trans hp) ((hcell 1).trans hl) ((hcell 2).trans hq) hlen hsa (htl.keepG ⟨fun k _ h2 => Below.heap_alloc _ _ _ h2, fun _ _ _ => rfl⟩ (Nat.le_refl _) (Nat.le_refl _)) hnd hct
  have HC := Lib.hid hcall
  clear hcall hchk hcell htl hnd hsa hp hl hq
  go_enter Tryz.func36, Tryz.ntmps36
  go_wp2_with fail
  refine (HC.out).mono ?_
  rintro e w1 ⟨rfl, ⟨_, v, xs, hC, hrow⟩, hb⟩
  obtain ⟨av, cv, rfl⟩ := row_form3 hrow
  have c1 : w1.cell? ⟨w.heap.size, 1, none⟩ = _ := blk_cell hC 1
  have lC : w.heap.size < w1.heap.size := (Array.getElem?_eq_some_iff.1 hC).1
  clear hrow hC
  go_wp2_with fail
  go_ret
  exact ⟨⟨_, _, rfl⟩, ((Below.refl _ _).alloc (Nat.le_refl _) _).trans hb⟩
mutual
theorem szGo_ct : ∀ (l : List Fl) (deep n : Nat), szGo deep l n ≤ 1000 → n + ctL l ≤ szGo deep l n
  | [], deep, n, _ => by simp [szGo, ctL]
  | .mk k lb d bd :: xs, deep, n, hs => by
    rw [szGo] at hs ⊢
    cases hb : szB deep bd (n + 1) with
    | none => rw [hb] at hs; simp at hs
    | some m =>
      rw [hb] at hs
      simp only at hs ⊢
      have g1 := szGo_ct xs deep m hs
      have q1 := szB_ct bd deep (n + 1) m hb
      rw [ctL, ct]
      omega
theorem szB_ct : ∀ (bd : List (List Fl)) (deep n m : Nat), szB deep bd n = some m → n + ctB bd ≤ m
  | [], deep, n, m, hb => by
    simp only [szB, Option.some.injEq] at hb
    subst hb
    simp [ctB]
  | y :: ys, deep, n, m, hb => by
    rw [szB] at hb
    by_cases hd : deep + 1 > 50
    · rw [if_pos hd, if_pos (by omega)] at hb
      cases hb
    · rw [if_neg hd] at hb
      by_cases hs : n + szGo (deep + 1) y 0 > 1000
      · rw [if_pos hs] at hb
        cases hb
      · rw [if_neg hs] at hb
        have g1 := szGo_ct y (deep + 1) 0 (by omega)
        have q1 := szB_ct ys deep _ m hb
        rw [ctB]
        omega
end
theorem valid_ct {l : List Fl} (hv : validL l = true) : ctL l ≤ 1000 := by
  simp only [validL, Bool.and_eq_true, decide_eq_true_eq] at hv
  have hz : szL 0 l = szGo 0 l 0 := by rw [szL, if_neg (by omega)]
  rw [hz] at hv
  have := szGo_ct l 0 0 hv.1
  omega
set_option maxHeartbeats 1000000 in
theorem jumps_any (l : List Fl) (a : Option Addr) (cap : Nat) (w : World) (hs : SL w w.heap.size a cap l) (ht : Lib.TabBelow Tryz.prog w.heap.size w "internal/strconv.uint64pow10" .u64 Lib.pow10Tab) (hv : validL l = true) :
    Calls Tryz.prog 26 #[.slice a l.length cap] w (RetB w (jumpsJ l)) := by
  have hrk := valid_rk hs hv
  have hfi := valid_fi hv
  have hct := valid_ct hv
  have hlen : l.length ≤ 8796093022208 := by have := hs.1; have := hs.2.1; omega
  obtain ⟨W, hW⟩ : ∃ W, W = ((w.alloc (.map #[] 0)).alloc (.cells #[.int .i64 0, .map (some w.heap.size)] 47)).alloc (.cells #[.slice a l.length cap] 22) := ⟨_, rfl⟩
  have hms : MS w.heap.size (w.heap.size + 2) (w.heap.size + 1) w.heap.size 0 [] W := by rw [hW]; exact (MS.start w ht).alloc _
  have hbw : Below w.heap.size w W := by rw [hW]; exact (((Below.refl _ _).alloc (Nat.le_refl _) _).alloc (by simp) _).alloc (by simp; omega) _
  have hszW : W.heap.size = w.heap.size + 3 := by rw [hW]; simp
  have hcW : W.cell? ⟨w.heap.size + 2, 0, none⟩ = some (.slice a l.length cap) := by
    rw [hW]
    have := blk_cell (blk_new ((w.alloc (.map #[] 0)).alloc (.cells #[.int .i64 0, .map (some w.heap.size)] 47)) #[.slice a l.length cap] 22) 0
    rw [show ((w.alloc (.map #[] 0)).alloc (.cells #[.int .i64 0, .map (some w.heap.size)] 47)).heap.size = w.heap.size + 2 by simp] at this
    exact this
  have hcall := body_top l false (mkls_all l) hfi w.heap.size (w.heap.size + 2) (w.heap.size + 1) w.heap.size 0 [] W 0 0 0 (w.heap.size + 2) a cap (hs.below hbw (Nat.le_refl _)) hcW (by omega) (by omega) (by omega) hms (by omega)
  have HC := Lib.hid hcall
  have HBW := Lib.hid hbw
  have HW := Lib.hid hW
  have hmm := @run_makeMap Tryz.prog
  clear hcall hms hbw hs hfi hv ht hcW hW
  go_enter Tryz.func26, Tryz.ntmps26
  go_wp2_with fail
  rw [← HW.out]
  refine (HC.out).mono ?_
  rintro e w1 ⟨p0, q0, a1, ts, sa, cap2, b, p2, ps2, rfl, f1, f2, f3, f4, f5, f6, f7, f8, f9, hm, hfr⟩
  have hel := erL_length ts
  rw [f3] at hel
  rw [hel] at f6
  have hcall2 := Labels_any W.heap.size ps2 ts sa cap2 b 0 a1 p0 q0 w1 f2 f4 f6 f5 (by omega) f7 f9 hfr.1 (by rw [f3]; omega)
  rw [f3] at hcall2
  have HC2 := Lib.hid hcall2
  have HM := Lib.hid hm
  clear hcall2 hm f3 f4 f5 f6 f7 f8 f9 hfr
  go_wp2_with fail
  refine (HC2.out).mono ?_
  rintro e w2 ⟨⟨sv, cv, rfl⟩, hb⟩
  go_wp2_with fail
  go_ret
  refine ⟨?_, ?_⟩
  · have e : (((jumpsR l : Nat) : Int) == 0) = jumpsJ l := by
      unfold jumpsJ
      rw [Bool.eq_iff_iff]
      simp only [beq_iff_eq]
      omega
    rw [← e]
    rfl
  · have hm1 : Below w.heap.size W w1 := HM.out.mf.below (by omega) (by omega) (by omega)
    exact HBW.out.trans (hm1.trans (Below.mono hb (by omega)))
end Go.Proofs.YtpodifbgfcclbaaGreatDoor
