/- The rules for labels: over the labels that are declared; the top. -/
import Derived.Test.YtpodifbgfcclbaaGreatDoorSj10
import Derived.Test.YtpodifbgfcclbaaGreatDoorSj7
import Derived.Test.YtpodifbgfcclbaaGreatDoorJm26
import Derived.Maps.RangeRun
set_option linter.unusedVariables false
set_option linter.unusedSimpArgs false
namespace Go.Proofs.YtpodifbgfcclbaaGreatDoor
open Go.RowKit
attribute [local go_sem] Nat.lt_add_one_of_lt

theorem ies_key {es : List MapEntry} {kvs : List (Int × Value)} (h : IEs es kvs) {x : MapEntry} (hx : x ∈ es) : ∃ n, x.key = .int .i64 n ∧ (iget kvs n).isSome = true := by
  have h1 : (x.key, x.val) ∈ es.map (fun e => (e.key, e.val)) := List.mem_map.2 ⟨x, hx, rfl⟩
  rw [h] at h1
  obtain ⟨e, he, h2⟩ := List.mem_map.1 h1
  simp only [Prod.mk.injEq] at h2
  refine ⟨e.1, h2.1.symm, ?_⟩
  unfold iget
  rw [Option.isSome_map, List.find?_isSome]
  exact ⟨e, he, by simp⟩
theorem ies_mem {es : List MapEntry} {kvs : List (Int × Value)} (h : IEs es kvs) {n : Int} (hn : (iget kvs n).isSome = true) : ∃ x ∈ es, x.key = .int .i64 n := by
  unfold iget at hn
  rw [Option.isSome_map, List.find?_isSome] at hn
  obtain ⟨e, he, h1⟩ := hn
  have h2 : ((.int .i64 e.1, e.2) : Value × Value) ∈ kvs.map (fun e => (.int .i64 e.1, e.2)) := List.mem_map.2 ⟨e, he, rfl⟩
  rw [← h] at h2
  obtain ⟨x, hx, h3⟩ := List.mem_map.1 h2
  simp only [Prod.mk.injEq] at h3
  refine ⟨x, hx, ?_⟩
  rw [h3.1]
  simp only [beq_iff_eq] at h1
  rw [h1]
/-- The keys of the map of the labels. -/
theorem WM.keys {w : World} {M1 M2 : Nat} {adr : Pth → Nat} {D : List (Int × Pth × Nat)} (h : WM w M1 M2 adr D) : ∃ es clk, w.heap[M1]? = some (.map es clk) ∧ (∀ x ∈ es.toList, x.born < clk) ∧ (es.toList.map (·.born)).Nodup ∧ (∀ x ∈ es.toList, ∃ n, x.key = .int .i64 n ∧ n ∈ D.map Prod.fst) ∧ ∀ n ∈ D.map Prod.fst, ∃ x ∈ es.toList, x.key = .int .i64 n := by
  obtain ⟨k1, k2, ⟨es, clk, h1, h2, h3, h4⟩, _, h5⟩ := h
  have hk : ∀ n, (iget k1 n).isSome = decide (n ∈ D.map Prod.fst) := fun n => by rw [(h5 n).1, Option.isSome_map, whr_isSome]
  refine ⟨es, clk, h1, h3, h4, fun x hx => ?_, fun n hn => ?_⟩
  · obtain ⟨n, e1, e2⟩ := ies_key h2 hx
    exact ⟨n, e1, by rw [hk] at e2; exact of_decide_eq_true e2⟩
  · exact ies_mem h2 (by rw [hk]; exact decide_eq_true hn)
/-- When all is collected from the top. -/
theorem CE.look {S M1 M2 M3 J R : Nat} {l : List Fl} {w w1 : World} {adr' dnf' : Pth → Nat} {T : Nat} (c : CE S J M1 M2 M3 l [] (fun _ => T) (fun _ => R) w (dpL [] 0 l) w1 adr' dnf') (hn : NodeC w S (fun _ => T) [] l R) (hT : T < w.heap.size) (hTn : T ∉ [J, M1, M2, R] ∧ T ≠ M3) (hF : CF S J M1 M2 M3 [] (fun _ => R) w) : LE w1 S w1.heap.size J M1 M2 M3 adr' dnf' l := by
  have hh := hF.h0
  have hl := hF.lt
  have hne := hF.ne
  have hsz := c.fx.size
  obtain ⟨a1, a2⟩ := c.agree [] (ext_self [])
  have hext : ∀ q : Pth, q ≠ [] → Ext [] q := fun q hq => ⟨q, hq, by simp⟩
  have hE := fun q ys hq hg => c.node q ys (hext q hq) hg
  obtain ⟨a, cap, h1, h2⟩ := hn
  have hN0 : NodeC w1 S adr' [] l (dnf' []) := by
    refine ⟨a, cap, ?_, h2.keep (fun k hk => c.fx.blk k (by omega) (by simp; omega)) (Nat.le_refl _)⟩
    rw [a1, a2, c.fx.blk T hT hTn.1]
    exact h1
  refine ⟨fun q ys hq => ?_, fun q q' ys ys' g1 g2 he => ?_, fun q ys hq => ?_, by omega, Nat.le_refl _, c.wm, by omega, by omega, by omega, ⟨_, c.jc⟩⟩
  · by_cases hq0 : q = []
    · subst hq0
      cases hq
      exact ⟨hN0, by rw [a1]; omega, by rw [a2]; omega, by rw [a2]; omega, by rw [a1]; exact hTn.2⟩
    · obtain ⟨⟨g1, _⟩, g2, g3, g4, g5⟩ := hE q ys hq0 hq
      exact ⟨g1, g3, g5, by omega, by omega⟩
  · by_cases h0 : q = []
    · subst h0
      by_cases h0' : q' = []
      · exact h0'.symm
      · have := (hE q' ys' h0' g2).2.1
        rw [← he, a1] at this
        omega
    · by_cases h0' : q' = []
      · subst h0'
        have := (hE q ys h0 g1).2.1
        rw [he, a1] at this
        omega
      · exact c.inj q q' ys ys' (hext q h0) (hext q' h0') g1 g2 he
  · by_cases hq0 : q = []
    · subst hq0
      cases hq
      rw [a2]
      exact c.down
    · exact (hE q ys hq0 hq).1.2
end Go.Proofs.YtpodifbgfcclbaaGreatDoor

/- The rules for labels: the walk of the whole. -/
set_option linter.unusedVariables false
set_option linter.unusedSimpArgs false
namespace Go.Proofs.YtpodifbgfcclbaaGreatDoor
open Go.RowKit
attribute [local go_sem] Nat.lt_add_one_of_lt

theorem born_same {l : List MapEntry} (hn : (l.map (·.born)).Nodup) {x e : MapEntry} (hx : x ∈ l) (he : e ∈ l) (hb : x.born = e.born) : x = e := by
  have h1 := find_born x l hn hx
  have h2 := find_born e l hn he
  rw [hb, h2] at h1
  exact (Option.some.inj h1).symm
set_option maxRecDepth 100000 in
set_option maxHeartbeats 8000000 in
theorem specJumps_any (l : List Fl) (a : Option Addr) (cap : Nat) (w : World) (hs : SL w w.heap.size a cap l) (hv : validL l = true) : Calls Tryz.prog 31 #[.slice a l.length cap] w (RetB w (jumpsJ l)) := by
  obtain ⟨S, hS⟩ : ∃ S, S = w.heap.size := ⟨_, rfl⟩
  have hfi := valid_fi hv
  have hct := valid_ct hv
  rw [← hS] at hs
  obtain ⟨W1, hW1⟩ : ∃ W1, W1 = w.alloc (.map #[] 0) := ⟨_, rfl⟩
  obtain ⟨W2, hW2⟩ : ∃ W2, W2 = W1.alloc (.map #[] 0) := ⟨_, rfl⟩
  obtain ⟨W3, hW3⟩ : ∃ W3, W3 = W2.alloc (.map #[] 0) := ⟨_, rfl⟩
  obtain ⟨W4, hW4⟩ : ∃ W4, W4 = W3.alloc (.cells #[.map (some w.heap.size), .map (some (w.heap.size + 1)), .map (some (w.heap.size + 2)), .bool false] 61) := ⟨_, rfl⟩
  obtain ⟨W5, hW5⟩ : ∃ W5, W5 = W4.alloc (.map #[] 0) := ⟨_, rfl⟩
  obtain ⟨W6, hW6⟩ : ∃ W6, W6 = W5.alloc (.cells #[.pointer none, .int .i64 0, .slice a l.length cap, .map (some (w.heap.size + 4))] 65) := ⟨_, rfl⟩
  have z1 : W1.heap.size = S + 1 := by rw [hW1, hS]; simp
  have z2 : W2.heap.size = S + 2 := by rw [hW2]; simp [z1]
  have z3 : W3.heap.size = S + 3 := by rw [hW3]; simp [z2]
  have z4 : W4.heap.size = S + 4 := by rw [hW4]; simp [z3]
  have z5 : W5.heap.size = S + 5 := by rw [hW5]; simp [z4]
  have z6 : W6.heap.size = S + 6 := by rw [hW6]; simp [z5]
  have b5 : Below (S + 5) W5 W6 := by rw [hW6]; exact (Below.refl _ _).alloc (by omega) _
  have b4 : Below (S + 4) W4 W6 := Below.trans (by rw [hW5]; exact (Below.refl _ _).alloc (by omega) _) (b5.mono (by omega))
  have b3 : Below (S + 3) W3 W6 := Below.trans (by rw [hW4]; exact (Below.refl _ _).alloc (by omega) _) (b4.mono (by omega))
  have b2 : Below (S + 2) W2 W6 := Below.trans (by rw [hW3]; exact (Below.refl _ _).alloc (by omega) _) (b3.mono (by omega))
  have b1 : Below (S + 1) W1 W6 := Below.trans (by rw [hW2]; exact (Below.refl _ _).alloc (by omega) _) (b2.mono (by omega))
  have b0 : Below S w W6 := Below.trans (by rw [hW1]; exact (Below.refl _ _).alloc (by omega) _) (b1.mono (by omega))
  have m1 : IM W6 S [] := by
    have h : IM W1 S [] := by rw [hW1, hS]; exact IM.new w
    exact h.keep (b1.block S (by omega))
  have m2 : IM W6 (S + 1) [] := by
    have h : IM W2 (S + 1) [] := by rw [hW2, ← z1]; exact IM.new W1
    exact h.keep (b2.block _ (by omega))
  have m3 : IM W6 (S + 2) [] := by
    have h : IM W3 (S + 2) [] := by rw [hW3, ← z2]; exact IM.new W2
    exact h.keep (b3.block _ (by omega))
  have mj : JC W6 (S + 3) S (S + 1) (S + 2) false := by
    have h : JC W4 (S + 3) S (S + 1) (S + 2) false := by
      unfold JC
      rw [hW4, ← hS, ← z3]; exact blk_new W3 _ 61
    exact h.keep (b4.block _ (by omega))
  have md : DM W6 (S + 4) [] := by
    have h : DM W5 (S + 4) [] := by
      rw [hW5, ← z4]
      exact ⟨#[], 0, heap_alloc_new W4 _, rfl⟩
    exact h.keep (b5.block _ (by omega))
  have hN : NodeC W6 S (fun _ => S + 5) [] l ((fun _ => S + 4) ([] : Pth)) := by
    refine ⟨a, cap, ?_, hs.keep (fun k hk => b0.block k hk) (Nat.le_refl _)⟩
    show W6.heap[S + 5]? = _
    rw [hW6, ← hS, ← z5]; exact blk_new W5 _ 65
  have hF : CF S (S + 3) S (S + 1) (S + 2) [] (fun _ => S + 4) W6 := by
    refine ⟨?_, ?_, ?_⟩ <;> omega
  have hc1 := coll_any S (S + 3) S (S + 1) (S + 2) l (rkL l + 1) [] l rfl (by omega) ⟨false, hfi⟩ (fun _ => S + 5) (fun _ => S + 4) [] W6 hN (by simpa using mj) ⟨[], [], m1, m2, fun n => ⟨rfl, rfl⟩⟩ md hF (fun e he => by cases he)
  have hmm := @run_makeMap Tryz.prog
  rw [hW6, hW5, hW4, hW3, hW2, hW1] at hc1
  rw [hS] at hc1
  have HC1 := Lib.hid hc1
  have HSS := Lib.hid hS
  have HB0 := Lib.hid b0
  have HN := Lib.hid hN
  have HF := Lib.hid hF
  have HM3 := Lib.hid m3
  have HFI := Lib.hid hfi
  have HCT := Lib.hid hct
  have HZ6 := Lib.hid z6
  clear hc1 hN hF m1 m2 m3 mj md b1 b2 b3 b4 b5 z1 z2 z3 z4 z5 z6 hs hv hfi hct b0
  have HW : Hid (W6 = (((((w.alloc (.map #[] 0)).alloc (.map #[] 0)).alloc (.map #[] 0)).alloc (.cells #[.map (some w.heap.size), .map (some (w.heap.size + 1)), .map (some (w.heap.size + 2)), .bool false] 61)).alloc (.map #[] 0)).alloc (.cells #[.pointer none, .int .i64 0, .slice a l.length cap, .map (some (w.heap.size + 4))] 65)) := Lib.hid (by rw [hW6, hW5, hW4, hW3, hW2, hW1])
  clear hW6 hW5 hW4 hW3 hW2 hW1 hS
  go_enter Tryz.func31, Tryz.ntmps31
  go_wp2_with fail
  refine (HC1.out).mono ?_
  rintro e w1 ⟨rfl, adr', dnf', hce⟩
  rw [← HW.out, ← HSS.out] at hce
  have hce : CE S (S + 3) S (S + 1) (S + 2) l [] (fun _ => S + 5) (fun _ => S + 4) W6 (dpL [] 0 l) w1 adr' dnf' := hce
  have hz6 := HZ6.out
  have hsz1 := hce.fx.size
  have E1 := hce.look HN.out (by omega) ⟨by simp, by omega⟩ HF.out
  have hU1 : UM w1 (S + 2) (fun _ => false) := ⟨[], HM3.out.keep (hce.fx.blk (S + 2) (by omega) (by simp)), fun n => rfl⟩
  have hc2 := look_any S w1.heap.size (S + 3) S (S + 1) (S + 2) adr' dnf' l (rkL l + 1) [] l rfl (by omega) ⟨false, HFI.out⟩ [] none 0 _ (fun _ => false) w1 E1 hce.jc hU1 AR.nil (fun b h => by cases h) (fun _ => rfl) (by have := HCT.out; simp; omega)
  rw [(hce.agree [] (ext_self [])).1] at hc2
  have hc2 := hc2
  have HC2 := Lib.hid hc2
  have HB1 := Lib.hid (show Below S w w1 from HB0.out.trans (hce.fx.below (by omega) (fun k hk => by simp at hk; omega)))
  have HWM := Lib.hid hce.wm
  have HSZ1 := Lib.hid hsz1
  clear hce hc2 E1 hU1 hsz1 hz6 hmm
  rw [← HSS.out]
  go_wp2_with fail
  refine (HC2.out).mono ?_
  rintro e w2 ⟨rfl, hJ2, hU2, hf2⟩
  have hsz1 := HSZ1.out
  have hz6 := HZ6.out
  have hsz2 := hf2.size
  have hb2 : Below S w w2 := HB1.out.trans (hf2.below (by omega) (fun k hk => by simp at hk; omega))
  have hwm2 := HWM.out.keep (hf2.blk S (by omega) (by simp)) (hf2.blk (S + 1) (by omega) (by simp)) (fun _ _ => rfl)
  obtain ⟨badF, hbadF⟩ : ∃ badF, badF = (!decide ((dpL [] 0 l).map Prod.fst).Nodup || !(gtL (dpL [] 0 l) l [] 0 l && lsL [] l)) := ⟨_, rfl⟩
  rw [← hbadF] at hJ2
  obtain ⟨es, clk, hR, hold, hnd, hkeys, hmem⟩ := hwm2.keys
  have hrg := run_range_map (P := Tryz.prog) w2 57 3 62 S es clk und57 hR
  have lJ : S + 3 < w2.heap.size := hJ2.lt
  have J0 : w2.cell? ⟨S + 3, 0, none⟩ = some (.map (some S)) := blk_cell hJ2 0
  obtain ⟨I, hI⟩ : ∃ I, I = w2.heap.size := ⟨_, rfl⟩
  rw [names_L] at hkeys hmem hbadF
  obtain ⟨WI, hWI⟩ : ∃ WI, WI = w2.alloc (.mapIter (some S) clk #[] clk) := ⟨_, rfl⟩
  have hitI : WI.heap[I]? = some (.mapIter (some S) clk #[] clk) := by rw [hWI, hI]; exact heap_alloc_new w2 _
  have hbI : Below I w2 WI := by rw [hWI, hI]; exact (Below.refl _ _).alloc (Nat.le_refl _) _
  have hzI : WI.heap.size = I + 1 := by rw [hWI, hI]; simp
  rw [← hI, ← hWI] at hrg
  have HJ2 := Lib.hid (hJ2.keep (hbI.block _ (by omega)))
  have HU2 := Lib.hid (hU2.keep (hbI.block _ (by omega)))
  have HR := Lib.hid ((hbI.block S (by omega)).trans hR)
  have HBI := Lib.hid (hb2.trans (hbI.mono (by omega)))
  have HIT := Lib.hid hitI
  have HBAD := Lib.hid hbadF
  have HOLD := Lib.hid hold
  have HND := Lib.hid hnd
  have HKEYS := Lib.hid hkeys
  have HMEM := Lib.hid hmem
  have HII := Lib.hid hI
  have HZI := Lib.hid hzI
  have hSI : S + 3 < I := by omega
  clear hJ2 hU2 hf2 hb2 hwm2 hbadF hR hold hnd hkeys hmem hI hitI hbI hWI hzI hsz1 hz6 hsz2
  go_wp2_with fail
  clear hrg J0 lJ
  go_loopg [5] (leftOf es #[]).size (fun g v5 wq => ∃ seen : Array Nat, g = (leftOf es seen).size ∧ wq.heap[I]? = some (.mapIter (some S) clk seen clk) ∧ Fx [I] (I + 1) WI wq ∧ ∀ x ∈ es.toList, seen.contains x.born = true → ∀ n, x.key = .int .i64 n → (usL l).contains n = true)
  case atStart => exact ⟨#[], rfl, HIT.out, Fx.refl _ _ _, fun x _ h => by simp at h⟩
  case round =>
    obtain ⟨seen, hg, hit, hfx, hno⟩ := hrel
    have hszq := hfx.size
    have hzI := HZI.out
    have hbmq : wr.heap[S]? = some (.map es clk) := (hfx.blk S (by omega) (by simp; omega)).trans HR.out
    have hJq := HJ2.out.keep (hfx.blk (S + 3) (by omega) (by simp; omega))
    have hUq := HU2.out.keep (hfx.blk (S + 2) (by omega) (by simp; omega))
    have hbq : Below S w wr := HBI.out.trans (hfx.below (by omega) (fun k hk => by simp at hk; omega))
    rcases run_next_at (P := Tryz.prog) wr 0 I S clk clk seen es clk hit hbmq HOLD.out (Nat.le_refl _) with ⟨h0, hrun⟩ | ⟨e, he, w3, hw3, hrun⟩
    · have hnx : ∀ ty, (Instr.next (.pointer (some ⟨I, 0, none⟩)) false ty).run Tryz.prog wr = _ := fun _ => hrun
      have J3 : wr.cell? ⟨S + 3, 3, none⟩ = some (.bool badF) := blk_cell hJq 3
      have lJ : S + 3 < wr.heap.size := hJq.lt
      have hall : (dlL l).all (fun n => (usL l).contains n) = true := by
        rw [List.all_eq_true]
        intro n hn
        obtain ⟨x, hx, hk⟩ := HMEM.out n hn
        exact hno x hx (all_seen es seen h0 x hx) n hk
      have hres : (!badF) = jumpsJ l := by
        rw [← jumpsS_eq, HBAD.out]
        unfold jumpsS
        rw [hall]
        cases decide (dlL l).Nodup <;> cases gtL (dpL [] 0 l) l [] 0 l <;> cases lsL [] l <;> rfl
      have HRES := Lib.hid hres
      have HBQ := Lib.hid hbq
      clear hall hres hbq hJq hUq hbmq hno hfx hit hg h0 hrun
      go_wp2_with fail
      go_ret
      rw [HRES.out]
      exact ⟨rfl, by rw [← HSS.out]; exact HBQ.out⟩
    · obtain ⟨n, hkey, hnD⟩ := HKEYS.out e (mem_left he).1
      obtain ⟨W4, hW4⟩ : ∃ W4, W4 = setObj w3 I (.mapIter (some S) clk (seen.push e.born) clk) := ⟨_, rfl⟩
      have hrun' : ∀ ty, (Instr.next (.pointer (some ⟨I, 0, none⟩)) false ty).run Tryz.prog wr = .ok (.tuple #[.bool true, e.key, e.val]) W4 := fun _ => by rw [hW4]; exact hrun
      have hf4 : Fx [I] (I + 1) wr W4 := by
        rw [hW4]
        rcases hw3 with rfl | rfl
        · exact (Fx.refl _ _ _).setObj (.inl (by simp)) _
        · exact ((Fx.refl _ _ _).drew).setObj (.inl (by simp)) _
      have hit4 : W4.heap[I]? = some (.mapIter (some S) clk (seen.push e.born) clk) := by
        rw [hW4]
        refine setObj_same _ _ _ ?_
        rcases hw3 with rfl | rfl
        · omega
        · show I < wr.heap.size
          omega
      have hb4 : W4.heap[S]? = some (.map es clk) := (hf4.blk S (by omega) (by simp; omega)).trans hbmq
      have hen := run_entry_at (P := Tryz.prog) W4 I S clk seen es clk e hit4 hb4 (mem_left he).1 HND.out
      rw [hkey] at hen hrun'
      have hJ4 := hJq.keep (hf4.blk (S + 3) (by omega) (by simp; omega))
      obtain ⟨kv, hk1, hk2⟩ := hUq.keep (hf4.blk (S + 2) (by omega) (by simp; omega))
      have hlk := run_lookI 59 4 (.bool false) und59 zero4 (S + 2) n kv W4 hk1
      rw [hk2 n] at hlk
      simp only [Bool.false_or] at hlk
      have J2 : W4.cell? ⟨S + 3, 2, none⟩ = some (.map (some (S + 2))) := blk_cell hJ4 2
      have lJ : S + 3 < W4.heap.size := hJ4.lt
      have hsh := left_shrinks es seen e he
      have HBQ := Lib.hid (hbq.trans (hf4.below (by omega : S ≤ I + 1) (fun k hk => by simp at hk; omega)))
      cases hu : (usL l).contains n with
      | false =>
        rw [hu] at hlk
        have hres : false = jumpsJ l := by
          rw [← jumpsS_eq]
          unfold jumpsS
          have : (dlL l).all (fun n => (usL l).contains n) = false := by
            rw [List.all_eq_false]
            exact ⟨n, hnD, by rw [hu]; simp⟩
          rw [this, Bool.and_false]
        have HRES := Lib.hid hres
        clear hres hu hsh hk1 hk2 hJ4 hkey hb4 hit4 hf4 hW4 hw3 hrun hbq hJq hUq hbmq hno hfx hit hg he hnD
        go_wp2_with fail
        refine bodyPost_ret (results_tmp rfl _ _ _) rfl ?_
        rw [← HRES.out]
        exact ⟨rfl, by rw [← HSS.out]; exact HBQ.out⟩
      | true =>
        rw [hu] at hlk
        have hno' : ∀ x ∈ es.toList, (seen.push e.born).contains x.born = true → ∀ n, x.key = .int .i64 n → (usL l).contains n = true := by
          intro x hx hc m hm
          rw [contains_push] at hc
          rcases Bool.or_eq_true _ _ ▸ hc with h1 | h1
          · exact hno x hx h1 m hm
          · have : x = e := born_same HND.out hx (mem_left he).1 (beq_iff_eq.1 h1)
            subst this
            rw [hkey] at hm
            cases hm
            exact hu
        have HNO := Lib.hid hno'
        have HF4 := Lib.hid (hfx.trans hf4)
        have HIT4 := Lib.hid hit4
        have HSH := Lib.hid hsh
        have HG := Lib.hid hg
        clear hno' hu hsh hk1 hk2 hJ4 hkey hb4 hit4 hf4 hW4 hw3 hrun hbq hJq hUq hbmq hno hfx hit hg he hnD
        go_wp2_with fail
        go_roundg (leftOf es (seen.push e.born)).size
        case measure => rw [HG.out]; exact HSH.out
        exact ⟨seen.push e.born, rfl, HIT4.out, HF4.out, HNO.out⟩
end Go.Proofs.YtpodifbgfcclbaaGreatDoor
