/- What spec.Ends computes. -/
import Derived.Test.YtpodifbgfcclbaaGreatDoorSe1
import Derived.Deep.RegionHeld3
import Derived.Test.YtpodifbgfcclbaaGreatDoorMk5
set_option linter.unusedVariables false
set_option linter.unusedSimpArgs false
namespace Go.Proofs.YtpodifbgfcclbaaGreatDoor
open Go.RowKit
attribute [local go_sem] Nat.lt_add_one_of_lt

def EnF (x : Fl) : Prop := ∀ (lb : Int) (k l d : Int) (bd : List (List Fl)) (a : Option Addr) (cap H : Nat) (w : World), x = .mk k l d bd → SLL w H a cap bd → H ≤ w.heap.size →
    Calls Tryz.prog 40 #[.agg #[.int .i64 k, .int .i64 l, .int .i64 d, .slice a bd.length cap], .int .i64 lb] w (RetB w (seF x lb))
def EnL (y : List Fl) : Prop := ∀ (a : Option Addr) (cap H : Nat) (w : World), SL w H a cap y → H ≤ w.heap.size →
    Calls Tryz.prog 29 #[.slice a y.length cap] w (RetB w (seL y))
def EnA (bd : List (List Fl)) : Prop := ∀ (lb : Int) (k l d : Int) (a : Option Addr) (cap H : Nat) (w : World), SLL w H a cap bd → H ≤ w.heap.size →
    Calls Tryz.prog 51 #[.agg #[.int .i64 k, .int .i64 l, .int .i64 d, .slice a bd.length cap], .int .i64 lb] w (RetB w (seAll bd lb))
theorem sdrop_at {α : Type} : ∀ (l : List α) (i : Nat), i < l.length → ∃ x, l[i]? = some x ∧ l.drop i = x :: l.drop (i + 1)
  | x :: xs, 0, _ => ⟨x, rfl, rfl⟩
  | x :: xs, i + 1, h => by
    obtain ⟨y, h1, h2⟩ := sdrop_at xs i (by simpa using h)
    exact ⟨y, by simpa using h1, by simpa using h2⟩
set_option maxHeartbeats 4000000 in
theorem enL_of (y : List Fl) (hx : ∀ x ∈ y, EnF x) : EnL y := by
  intro a cap H w hs hH
  have hlen : y.length * 48 ≤ 140737488355328 := hs.2.1
  obtain ⟨_, _, b, o, hsa, he⟩ := hs
  have HE := Lib.hid he
  have HSA := Lib.hid hsa
  have HX := Lib.hid hx
  clear he hsa hx
  go_enter Tryz.func29, Tryz.ntmps29
  go_wp2_with fail
  go_loopg [3] y.length (fun g vi wr => ∃ i : Int, -1 ≤ i ∧ (g : Int) = i + 1 ∧ g ≤ y.length ∧ vi = .int .i64 i ∧ Hid (allE (y.drop g) = true) ∧ w = wr)
  case atStart => exact ⟨(y.length : Int) - 1, by omega, by omega, by omega, rfl, by rw [List.drop_eq_nil_of_le (by omega)]; rfl, rfl⟩
  case round =>
    obtain ⟨i, hi, hg, hgl, rfl, hrest, rfl⟩ := hrel
    by_cases h0 : 0 ≤ i
    · obtain ⟨j, rfl⟩ := Int.eq_ofNat_of_zero_le h0
      have hjl : j < y.length := by omega
      obtain ⟨hbH, k, l, d, bd, a', cap', hx2, hx1, c0, c1, c2, c3, hsl⟩ := HE.out.at j hjl
      have hlt : (j : Int) < y.length := by omega
      obtain rfl := HSA.out (by rintro rfl; simp at hjl)
      have hgj : gk = j + 1 := by omega
      have hbw : b < w.heap.size := by omega
      rw [hgj] at hrest
      by_cases hk : k = 20
      · subst hk
        have HX2 := Lib.hid hx2
        clear hx1 hx2 hsl hgj c1 c2 c3
        go_wp2_with fail
        go_roundg (gk - 1)
        case measure => omega
        case rel =>
          have e : gk - 1 = j := by omega
          refine ⟨(j : Int) - 1, by omega, by omega, by omega, rfl, ?_, rfl⟩
          rw [e, HX2.out, sallE_cons]
          exact hrest.out
      · have hk2 : (k != 20) = true := by simpa using hk
        have HC := Lib.hid (HX.out _ (List.mem_of_getElem? hx1) 0 k l d bd a' cap' H w rfl hsl hH)
        have HF := Lib.hid (seL_at y j _ hx1 hk hrest.out)
        clear hk hx1 hx2 hgj hrest hsl
        go_wp2_with fail
        refine HC.out.mono ?_
        rintro e w1 ⟨rfl, hb1⟩
        go_wp2_with fail
        refine bodyPost_ret (results_tmp rfl _ _ _) rfl ?_
        exact ⟨by rw [HF.out]; rfl, hb1⟩
    · obtain rfl : i = -1 := by omega
      have hg0 : gk = 0 := by omega
      rw [hg0] at hrest
      have HR := Lib.hid (seL_none y hrest.out)
      clear hrest hg0
      go_wp2_with fail
      go_ret
      exact ⟨by rw [HR.out]; rfl, Below.refl _ _⟩
theorem enL_nil : EnL [] := enL_of [] fun x h => (by cases h)
set_option maxHeartbeats 4000000 in
theorem enA_of (bd : List (List Fl)) (hi : ∀ y ∈ bd, EnL y) : EnA bd := by
  intro lb k l d a cap H w hs hH
  have hlen : bd.length * 24 ≤ 140737488355328 := hs.2.1
  obtain ⟨_, _, b, o, hsa, he⟩ := hs
  have HE := Lib.hid he
  have HSA := Lib.hid hsa
  have HI := Lib.hid hi
  have HB0 := Lib.hid ((Below.refl w.heap.size w).alloc (Nat.le_refl _) (.cells #[.int .i64 k, .int .i64 l, .int .i64 d, .slice a bd.length cap] 27))
  clear he hsa hi
  go_enter Tryz.func51, Tryz.ntmps51
  go_wp2_with fail
  go_loopg [10] bd.length (fun g vi wr => ∃ i : Nat, i + g = bd.length ∧ vi = .int .i64 i ∧ Hid (seAll (bd.take i) lb = true) ∧ Below w.heap.size w wr)
  case atStart => exact ⟨0, by omega, rfl, by rw [List.take_zero, seAll]; rfl, HB0.out⟩
  case round =>
    obtain ⟨i, hi, rfl, hf, hb⟩ := hrel
    by_cases hlt : i < bd.length
    · obtain ⟨hbH, y, a', cap', _, hxi, c0, hsl⟩ := HE.out.at i hlt
      obtain rfl := HSA.out (by rintro rfl; simp at hlt)
      have hbw : b < w.heap.size := by omega
      have d0 : wr.cell? ⟨b, o + i, none⟩ = _ := (hb.cell (p := ⟨b, o + i, none⟩) hbw).trans c0
      have hbr : b < wr.heap.size := by have := hb.size; omega
      have hiI : (i : Int) < (bd.length : Int) := by omega
      have hi0 : (0 : Int) ≤ (i : Int) := by omega
      have hszr : w.heap.size ≤ wr.heap.size := hb.size
      have hsr := hsl.keep (w' := wr) (fun q hq => hb.block q (by omega)) (Nat.le_refl _)
      have hcall := HI.out y (List.mem_of_getElem? hxi) a' cap' H wr hsr (by omega)
      have HC := Lib.hid hcall
      have HB1 := Lib.hid hb
      have HXI := Lib.hid hxi
      have HSR := Lib.hid hsr
      clear hcall hb hxi hsl c0 hsr
      cases hr : seL y with
      | false =>
        rw [hr] at HC
        go_wp2_with fail
        refine (HC.out).mono ?_
        rintro e w5 ⟨rfl, hb5⟩
        have HB5 := Lib.hid (HB1.out.trans (Below.mono hb5 HB1.out.size))
        clear hb5
        go_wp2_with fail
        refine bodyPost_ret (results_tmp rfl _ _ _) rfl ?_
        exact ⟨by rw [seAll_mem HXI.out (by rw [hr]; rfl)]; rfl, HB5.out⟩
      | true =>
        rw [hr] at HC
        go_wp2_with fail
        refine (HC.out).mono ?_
        rintro e w5 ⟨rfl, hb5⟩
        have HB5 := Lib.hid (HB1.out.trans (Below.mono hb5 HB1.out.size))
        have hc2 := brL_any y lb true a' cap' H w5 (HSR.out.keep (fun q hq => hb5.block q (by omega)) (Nat.le_refl _)) (by have := hb5.size; omega)
        have HC2 := Lib.hid hc2
        clear hb5 hc2
        cases hr2 : sbL y lb true with
        | true =>
          rw [hr2] at HC2
          go_wp2_with fail
          refine (HC2.out).mono ?_
          rintro e w6 ⟨rfl, hb6⟩
          have HB6 := Lib.hid (HB5.out.trans (Below.mono hb6 HB5.out.size))
          clear hb6
          go_wp2_with fail
          refine bodyPost_ret (results_tmp rfl _ _ _) rfl ?_
          exact ⟨by rw [seAll_mem HXI.out (by rw [hr, hr2]; rfl)]; rfl, HB6.out⟩
        | false =>
          rw [hr2] at HC2
          go_wp2_with fail
          refine (HC2.out).mono ?_
          rintro e w6 ⟨rfl, hb6⟩
          have HB6 := Lib.hid (HB5.out.trans (Below.mono hb6 HB5.out.size))
          clear hb6
          go_wp2_with fail
          go_roundg (gk - 1)
          case measure => omega
          exact ⟨i + 1, by omega, by simp, (show seAll (bd.take (i + 1)) lb = true by rw [seAll_take HXI.out, hf.out, hr, hr2]; rfl), HB6.out⟩
    · have hiI : ¬ (i : Int) < (bd.length : Int) := by omega
      obtain rfl : i = bd.length := by omega
      have h5 := hf.out
      rw [List.take_length] at h5
      have HF := Lib.hid h5
      clear hf h5
      go_wp2_with fail
      go_ret
      exact ⟨by rw [HF.out]; rfl, hb⟩
set_option maxHeartbeats 1000000 in
theorem en_0 (lb : Int) (l d : Int) (bd : List (List Fl)) (a : Option Addr) (cap : Nat) (w : World) : Calls Tryz.prog 40 #[.agg #[.int .i64 0, .int .i64 l, .int .i64 d, .slice a bd.length cap], .int .i64 lb] w (RetB w (seF (.mk 0 l d bd) lb)) := by
  have e : seF (.mk 0 l d bd) lb = true := by rw [seF]; simp
  rw [e]
  clear e
  go_enter Tryz.func40, Tryz.ntmps40
  go_wp2_with fail
  refine bodyPost_ret (results_tmp rfl _ _ _) rfl ?_
  exact ⟨rfl, (Below.refl _ _).alloc (Nat.le_refl _) _⟩
set_option maxHeartbeats 1000000 in
theorem en_1 (lb : Int) (l d : Int) (bd : List (List Fl)) (a : Option Addr) (cap : Nat) (w : World) : Calls Tryz.prog 40 #[.agg #[.int .i64 1, .int .i64 l, .int .i64 d, .slice a bd.length cap], .int .i64 lb] w (RetB w (seF (.mk 1 l d bd) lb)) := by
  have e : seF (.mk 1 l d bd) lb = true := by rw [seF]; simp
  rw [e]
  clear e
  go_enter Tryz.func40, Tryz.ntmps40
  go_wp2_with fail
  refine bodyPost_ret (results_tmp rfl _ _ _) rfl ?_
  exact ⟨rfl, (Below.refl _ _).alloc (Nat.le_refl _) _⟩
set_option maxHeartbeats 1000000 in
theorem en_11 (lb : Int) (l d : Int) (bd : List (List Fl)) (a : Option Addr) (cap : Nat) (w : World) : Calls Tryz.prog 40 #[.agg #[.int .i64 11, .int .i64 l, .int .i64 d, .slice a bd.length cap], .int .i64 lb] w (RetB w (seF (.mk 11 l d bd) lb)) := by
  have e : seF (.mk 11 l d bd) lb = true := by rw [seF]; simp
  rw [e]
  clear e
  go_enter Tryz.func40, Tryz.ntmps40
  go_wp2_with fail
  refine bodyPost_ret (results_tmp rfl _ _ _) rfl ?_
  exact ⟨rfl, (Below.refl _ _).alloc (Nat.le_refl _) _⟩
set_option maxHeartbeats 1000000 in
theorem en_14 (lb : Int) (l d : Int) (bd : List (List Fl)) (a : Option Addr) (cap : Nat) (w : World) : Calls Tryz.prog 40 #[.agg #[.int .i64 14, .int .i64 l, .int .i64 d, .slice a bd.length cap], .int .i64 lb] w (RetB w (seF (.mk 14 l d bd) lb)) := by
  have e : seF (.mk 14 l d bd) lb = true := by rw [seF]; simp
  rw [e]
  clear e
  go_enter Tryz.func40, Tryz.ntmps40
  go_wp2_with fail
  refine bodyPost_ret (results_tmp rfl _ _ _) rfl ?_
  exact ⟨rfl, (Below.refl _ _).alloc (Nat.le_refl _) _⟩
set_option maxHeartbeats 1000000 in
theorem en_9 (lb : Int) (l d : Int) (bd : List (List Fl)) (a : Option Addr) (cap H : Nat) (w : World) (hi : EnL (partB bd 0)) (hs : SLL w H a cap bd) (hH : H ≤ w.heap.size) : Calls Tryz.prog 40 #[.agg #[.int .i64 9, .int .i64 l, .int .i64 d, .slice a bd.length cap], .int .i64 lb] w (RetB w (seF (.mk 9 l d bd) lb)) := by
  have e : seF (.mk 9 l d bd) lb = seL (partB bd 0) := by
    rw [seF]
    rcases bd with _ | ⟨y, ys⟩
    · simp [seP, partB, seL]
    · simp [seP, partB]
  rw [e]
  have HI := Lib.hid hi
  have ci := part_any 9 l d bd a cap H (w.alloc (.cells #[.int .i64 9, .int .i64 l, .int .i64 d, .slice a bd.length cap] 27)) (hs.below ((Below.refl w.heap.size _).alloc (Nat.le_refl _) _) hH) (by simp; omega)
  have CI := Lib.hid ci
  clear e hi ci hs
  go_enter Tryz.func40, Tryz.ntmps40
  go_wp2_with fail
  refine (CI.out).mono ?_
  rintro e w1 ⟨a1, cap1, rfl, hs1, hb1⟩
  have hsz : w.heap.size + 1 ≤ w1.heap.size := by have := hb1.size; simpa using this
  have HS1 := Lib.hid hs1
  have HB1 := Lib.hid hb1
  clear hs1 hb1
  go_wp2_with fail
  refine (HI.out a1 cap1 H w1 HS1.out (by omega)).mono ?_
  rintro e w2 ⟨rfl, hb2⟩
  go_wp2_with fail
  refine bodyPost_ret (results_tmp rfl _ _ _) rfl ?_
  exact ⟨rfl, ((Below.refl w.heap.size _).alloc (Nat.le_refl _) _).trans (Below.mono (HB1.out.trans (Below.mono hb2 HB1.out.size)) (by simp))⟩
set_option maxHeartbeats 1000000 in
theorem en_3 (lb : Int) (l d : Int) (bd : List (List Fl)) (a : Option Addr) (cap H : Nat) (w : World) (hs : SLL w H a cap bd) (hH : H ≤ w.heap.size) : Calls Tryz.prog 40 #[.agg #[.int .i64 3, .int .i64 l, .int .i64 d, .slice a bd.length cap], .int .i64 lb] w (RetB w (seF (.mk 3 l d bd) lb)) := by
  have e : seF (.mk 3 l d bd) lb = !(sbL (partB bd 0) lb true) := by
    rw [seF]
    rcases bd with _ | ⟨y, ys⟩
    · simp [sbP, partB, sbL]
    · simp [sbP, partB]
  rw [e]
  have HI := Lib.hid (brL_any (partB bd 0))
  have ci := part_any 3 l d bd a cap H (w.alloc (.cells #[.int .i64 3, .int .i64 l, .int .i64 d, .slice a bd.length cap] 27)) (hs.below ((Below.refl w.heap.size _).alloc (Nat.le_refl _) _) hH) (by simp; omega)
  have CI := Lib.hid ci
  clear e ci hs
  go_enter Tryz.func40, Tryz.ntmps40
  go_wp2_with fail
  refine (CI.out).mono ?_
  rintro e w1 ⟨a1, cap1, rfl, hs1, hb1⟩
  have hsz : w.heap.size + 1 ≤ w1.heap.size := by have := hb1.size; simpa using this
  have HS1 := Lib.hid hs1
  have HB1 := Lib.hid hb1
  clear hs1 hb1
  go_wp2_with fail
  refine (HI.out lb true a1 cap1 H w1 HS1.out (by omega)).mono ?_
  rintro e w2 ⟨rfl, hb2⟩
  go_wp2_with fail
  refine bodyPost_ret (results_tmp rfl _ _ _) rfl ?_
  exact ⟨rfl, ((Below.refl w.heap.size _).alloc (Nat.le_refl _) _).trans (Below.mono (HB1.out.trans (Below.mono hb2 HB1.out.size)) (by simp))⟩
set_option maxHeartbeats 4000000 in
theorem en_2 (lb : Int) (l d : Int) (bd : List (List Fl)) (a : Option Addr) (cap H : Nat) (w : World) (hi : ∀ y ∈ bd, EnL y) (hs : SLL w H a cap bd) (hH : H ≤ w.heap.size) : Calls Tryz.prog 40 #[.agg #[.int .i64 2, .int .i64 l, .int .i64 d, .slice a bd.length cap], .int .i64 lb] w (RetB w (seF (.mk 2 l d bd) lb)) := by
  have e : seF (.mk 2 l d bd) lb = seTwo bd := by rw [seF]; simp
  rw [e]
  clear e
  obtain ⟨W1, hW1⟩ : ∃ W1, W1 = w.alloc (.cells #[.int .i64 2, .int .i64 l, .int .i64 d, .slice a bd.length cap] 27) := ⟨_, rfl⟩
  have hb1 : Below w.heap.size w W1 := by rw [hW1]; exact (Below.refl _ _).alloc (Nat.le_refl _) _
  rcases bd with _ | ⟨y, _ | ⟨z, r⟩⟩
  · clear hi hs hW1 hb1
    go_enter Tryz.func40, Tryz.ntmps40
    go_wp2_with fail
    refine bodyPost_ret (results_tmp rfl _ _ _) rfl ?_
    exact ⟨rfl, (Below.refl _ _).alloc (Nat.le_refl _) _⟩
  · clear hi hs hW1 hb1
    go_enter Tryz.func40, Tryz.ntmps40
    go_wp2_with fail
    refine bodyPost_ret (results_tmp rfl _ _ _) rfl ?_
    exact ⟨rfl, (Below.refl _ _).alloc (Nat.le_refl _) _⟩
  · obtain ⟨_, _, b, o, hsa, he⟩ := hs
    obtain rfl := hsa (by simp)
    obtain ⟨q1, ⟨a1, cap1, q2, q3⟩, q4⟩ := ELL_cons.1 he
    obtain ⟨_, ⟨a2, cap2, q5, q6⟩, _⟩ := ELL_cons.1 q4
    have hy := hi y (by simp) a1 cap1 H W1 (q3.keep (fun q hq => hb1.block q (by omega)) (Nat.le_refl _)) (by have := hb1.size; omega)
    have HZ := Lib.hid (hi z (by simp))
    have HY := Lib.hid hy
    have HS2 := Lib.hid (q6.keep (w' := W1) (fun q hq => hb1.block q (by omega)) (Nat.le_refl _))
    have HB1 := Lib.hid hb1
    have HW1 := Lib.hid hW1
    have hbw : b < w.heap.size := by omega
    obtain ⟨n2, hn2, hn2I⟩ : ∃ n2 : Nat, n2 = (y :: z :: r).length ∧ (1 : Int) < n2 := ⟨_, rfl, by simp only [List.length_cons]; omega⟩
    have hn0I : (0 : Int) < n2 := by omega
    rw [← hn2]
    rw [← hn2] at HW1
    have hzz : w.heap.size + 1 = W1.heap.size := by rw [HW1.out]; simp
    clear hi hsa he q3 q4 q6 hy hb1 hW1 hn2
    cases hr : seL y with
    | false =>
      rw [seTwo, hr, Bool.false_and]
      rw [hr] at HY
      clear q5
      go_enter Tryz.func40, Tryz.ntmps40
      go_wp2_with fail
      rw [← HW1.out]
      refine (HY.out).mono ?_
      rintro e w2 ⟨rfl, hb2⟩
      go_wp2_with fail
      refine bodyPost_ret (results_tmp rfl _ _ _) rfl ?_
      exact ⟨rfl, HB1.out.trans (Below.mono hb2 HB1.out.size)⟩
    | true =>
      rw [seTwo, hr, Bool.true_and]
      rw [hr] at HY
      go_enter Tryz.func40, Tryz.ntmps40
      go_wp2_with fail
      rw [← HW1.out]
      refine (HY.out).mono ?_
      rintro e w2 ⟨rfl, hb2⟩
      have c3 : w2.cell? ⟨w.heap.size, 3, none⟩ = some (.slice (some ⟨b, o, none⟩) n2 cap) := (hb2.cell (p := ⟨w.heap.size, 3, none⟩) (by show w.heap.size < W1.heap.size; omega)).trans (by rw [HW1.out, blk_cell (blk_new _ _ _)]; rfl)
      have c4 : w2.cell? ⟨b, o + 1, none⟩ = some (.slice a2 z.length cap2) := ((hb2.cell (p := ⟨b, o + 1, none⟩) (by show b < W1.heap.size; omega)).trans (HB1.out.cell (p := ⟨b, o + 1, none⟩) (by show b < w.heap.size; omega))).trans q5
      have lz : w.heap.size < w2.heap.size := by have := hb2.size; omega
      have lb2 : b < w2.heap.size := by omega
      have HC := Lib.hid (HZ.out a2 cap2 H w2 (HS2.out.keep (fun q hq => hb2.block q (by omega)) (Nat.le_refl _)) (by omega))
      have HB2 := Lib.hid (HB1.out.trans (Below.mono hb2 HB1.out.size))
      clear hb2 q2 q5
      go_wp2_with fail
      refine (HC.out).mono ?_
      rintro e w3 ⟨rfl, hb3⟩
      go_wp2_with fail
      refine bodyPost_ret (results_tmp rfl _ _ _) rfl ?_
      exact ⟨rfl, HB2.out.trans (Below.mono hb3 HB2.out.size)⟩
set_option maxHeartbeats 1000000 in
theorem en_10 (lb : Int) (l d : Int) (bd : List (List Fl)) (a : Option Addr) (cap H : Nat) (w : World) (hi : EnF (innerB bd)) (hs : SLL w H a cap bd) (hH : H ≤ w.heap.size) : Calls Tryz.prog 40 #[.agg #[.int .i64 10, .int .i64 l, .int .i64 d, .slice a bd.length cap], .int .i64 lb] w (RetB w (seF (.mk 10 l d bd) lb)) := by
  have e : seF (.mk 10 l d bd) lb = seF (innerB bd) l := by
    rw [seF]
    rcases bd with _ | ⟨_ | ⟨y, ys⟩, yss⟩
    · simp [seI, innerB, emptyFl, seF]
    · simp [seI, innerB, emptyFl, seF]
    · simp [seI, innerB]
  rw [e]
  have HI := Lib.hid hi
  have HS := Lib.hid hs
  clear e hi hs
  go_enter Tryz.func40, Tryz.ntmps40
  go_wp2_with fail
  go_region_held3 (fun w' => w'.cell? ⟨w.heap.size, 0, none⟩ = some (.int .i64 10) ∧ w'.cell? ⟨w.heap.size, 1, none⟩ = some (.int .i64 l) ∧ w'.cell? ⟨w.heap.size, 2, none⟩ = some (.int .i64 d) ∧ w'.cell? ⟨w.heap.size, 3, none⟩ = some (.slice a bd.length cap)) (go_keep)
    (first
      | (go_at_call 50; refine (inner_any 10 l d bd a cap H _ (by exact HS.out.below ((Below.refl w.heap.size _).alloc (Nat.le_refl _) _).drew hH) (by simp; omega)).mono ?_; rintro e w1 ⟨k', l', d', bd', a', cap', hx, rfl, hs1, hb1⟩; have hc : w1.cell? ⟨w.heap.size, 0, none⟩ = some (.int .i64 10) ∧ w1.cell? ⟨w.heap.size, 1, none⟩ = some (.int .i64 l) ∧ w1.cell? ⟨w.heap.size, 2, none⟩ = some (.int .i64 d) ∧ w1.cell? ⟨w.heap.size, 3, none⟩ = some (.slice a bd.length cap) := ⟨(hb1.cell (p := ⟨w.heap.size, 0, none⟩) (by simp)).trans ((blk_cell (w := (w.alloc (.cells #[.int .i64 10, .int .i64 l, .int .i64 d, .slice a bd.length cap] 27)).drew) (blk_new w _ 27) 0).trans rfl), (hb1.cell (p := ⟨w.heap.size, 1, none⟩) (by simp)).trans ((blk_cell (w := (w.alloc (.cells #[.int .i64 10, .int .i64 l, .int .i64 d, .slice a bd.length cap] 27)).drew) (blk_new w _ 27) 1).trans rfl), (hb1.cell (p := ⟨w.heap.size, 2, none⟩) (by simp)).trans ((blk_cell (w := (w.alloc (.cells #[.int .i64 10, .int .i64 l, .int .i64 d, .slice a bd.length cap] 27)).drew) (blk_new w _ 27) 2).trans rfl), (hb1.cell (p := ⟨w.heap.size, 3, none⟩) (by simp)).trans ((blk_cell (w := (w.alloc (.cells #[.int .i64 10, .int .i64 l, .int .i64 d, .slice a bd.length cap] 27)).drew) (blk_new w _ 27) 3).trans rfl)⟩; have hz1 : w.heap.size < w1.heap.size := (by have := hb1.size; simp at this; omega))
      | (go_at_call 40; refine (HI.out l k' l' d' bd' a' cap' H w1 hx hs1 (by have := hb1.size; simp at this; omega)).mono ?_; rintro e w2 ⟨rfl, hb2⟩; have hc2 : w2.cell? ⟨w.heap.size, 0, none⟩ = some (.int .i64 10) ∧ w2.cell? ⟨w.heap.size, 1, none⟩ = some (.int .i64 l) ∧ w2.cell? ⟨w.heap.size, 2, none⟩ = some (.int .i64 d) ∧ w2.cell? ⟨w.heap.size, 3, none⟩ = some (.slice a bd.length cap) := ⟨(hb2.cell (p := ⟨w.heap.size, 0, none⟩) hz1).trans hc.1, (hb2.cell (p := ⟨w.heap.size, 1, none⟩) hz1).trans hc.2.1, (hb2.cell (p := ⟨w.heap.size, 2, none⟩) hz1).trans hc.2.2.1, (hb2.cell (p := ⟨w.heap.size, 3, none⟩) hz1).trans hc.2.2.2⟩))
  all_goals
    go_wp2_with fail
    refine bodyPost_ret (results_tmp rfl _ _ _) rfl ?_
    exact ⟨by rw [hx]; rfl, ((Below.refl w.heap.size _).alloc (Nat.le_refl _) _).drew.trans (Below.mono (hb1.trans (Below.mono hb2 hb1.size)) (by simp))⟩
set_option maxHeartbeats 1000000 in
theorem en_6 (lb : Int) (l d : Int) (bd : List (List Fl)) (a : Option Addr) (cap H : Nat) (w : World) (hi : EnA bd) (hs : SLL w H a cap bd) (hH : H ≤ w.heap.size) : Calls Tryz.prog 40 #[.agg #[.int .i64 6, .int .i64 l, .int .i64 d, .slice a bd.length cap], .int .i64 lb] w (RetB w (seF (.mk 6 l d bd) lb)) := by
  have e : seF (.mk 6 l d bd) lb = (decide (0 ≤ d) && decide (d < (bd.length : Int)) && seAll bd lb) := by rw [seF]; simp
  rw [e]
  have ci := hi lb 6 l d a cap H (w.alloc (.cells #[.int .i64 6, .int .i64 l, .int .i64 d, .slice a bd.length cap] 27)) (hs.below ((Below.refl w.heap.size _).alloc (Nat.le_refl _) _) hH) (by simp; omega)
  have CI := Lib.hid ci
  clear e ci hs hi
  by_cases h0 : 0 ≤ d
  · by_cases h1 : d < (bd.length : Int)
    · rw [show decide (0 ≤ d) = true from by simpa using h0, show decide (d < (bd.length : Int)) = true from by simpa using h1]
      go_enter Tryz.func40, Tryz.ntmps40
      go_wp2_with fail
      refine (CI.out).mono ?_
      rintro e w2 ⟨rfl, hb2⟩
      go_wp2_with fail
      refine bodyPost_ret (results_tmp rfl _ _ _) rfl ?_
      exact ⟨rfl, ((Below.refl w.heap.size _).alloc (Nat.le_refl _) _).trans (Below.mono hb2 (by simp))⟩
    · rw [show decide (d < (bd.length : Int)) = false from by simpa using h1, Bool.and_false, Bool.false_and]
      go_enter Tryz.func40, Tryz.ntmps40
      go_wp2_with fail
      refine bodyPost_ret (results_tmp rfl _ _ _) rfl ?_
      exact ⟨rfl, (Below.refl _ _).alloc (Nat.le_refl _) _⟩
  · rw [show decide (0 ≤ d) = false from by simpa using h0, Bool.false_and, Bool.false_and]
    go_enter Tryz.func40, Tryz.ntmps40
    go_wp2_with fail
    refine bodyPost_ret (results_tmp rfl _ _ _) rfl ?_
    exact ⟨rfl, (Below.refl _ _).alloc (Nat.le_refl _) _⟩
set_option maxHeartbeats 1000000 in
theorem en_7 (lb : Int) (l d : Int) (bd : List (List Fl)) (a : Option Addr) (cap H : Nat) (w : World) (hi : EnA bd) (hs : SLL w H a cap bd) (hH : H ≤ w.heap.size) : Calls Tryz.prog 40 #[.agg #[.int .i64 7, .int .i64 l, .int .i64 d, .slice a bd.length cap], .int .i64 lb] w (RetB w (seF (.mk 7 l d bd) lb)) := by
  have e : seF (.mk 7 l d bd) lb = (decide (0 ≤ d) && decide (d < (bd.length : Int)) && seAll bd lb) := by rw [seF]; simp
  rw [e]
  have ci := hi lb 7 l d a cap H (w.alloc (.cells #[.int .i64 7, .int .i64 l, .int .i64 d, .slice a bd.length cap] 27)) (hs.below ((Below.refl w.heap.size _).alloc (Nat.le_refl _) _) hH) (by simp; omega)
  have CI := Lib.hid ci
  clear e ci hs hi
  by_cases h0 : 0 ≤ d
  · by_cases h1 : d < (bd.length : Int)
    · rw [show decide (0 ≤ d) = true from by simpa using h0, show decide (d < (bd.length : Int)) = true from by simpa using h1]
      go_enter Tryz.func40, Tryz.ntmps40
      go_wp2_with fail
      refine (CI.out).mono ?_
      rintro e w2 ⟨rfl, hb2⟩
      go_wp2_with fail
      refine bodyPost_ret (results_tmp rfl _ _ _) rfl ?_
      exact ⟨rfl, ((Below.refl w.heap.size _).alloc (Nat.le_refl _) _).trans (Below.mono hb2 (by simp))⟩
    · rw [show decide (d < (bd.length : Int)) = false from by simpa using h1, Bool.and_false, Bool.false_and]
      go_enter Tryz.func40, Tryz.ntmps40
      go_wp2_with fail
      refine bodyPost_ret (results_tmp rfl _ _ _) rfl ?_
      exact ⟨rfl, (Below.refl _ _).alloc (Nat.le_refl _) _⟩
  · rw [show decide (0 ≤ d) = false from by simpa using h0, Bool.false_and, Bool.false_and]
    go_enter Tryz.func40, Tryz.ntmps40
    go_wp2_with fail
    refine bodyPost_ret (results_tmp rfl _ _ _) rfl ?_
    exact ⟨rfl, (Below.refl _ _).alloc (Nat.le_refl _) _⟩
set_option maxHeartbeats 1000000 in
theorem en_8 (lb : Int) (l d : Int) (bd : List (List Fl)) (a : Option Addr) (cap H : Nat) (w : World) (hi : EnA bd) (hs : SLL w H a cap bd) (hH : H ≤ w.heap.size) : Calls Tryz.prog 40 #[.agg #[.int .i64 8, .int .i64 l, .int .i64 d, .slice a bd.length cap], .int .i64 lb] w (RetB w (seF (.mk 8 l d bd) lb)) := by
  have e : seF (.mk 8 l d bd) lb = seAll bd lb := by rw [seF]; simp
  rw [e]
  have ci := hi lb 8 l d a cap H (w.alloc (.cells #[.int .i64 8, .int .i64 l, .int .i64 d, .slice a bd.length cap] 27)) (hs.below ((Below.refl w.heap.size _).alloc (Nat.le_refl _) _) hH) (by simp; omega)
  have CI := Lib.hid ci
  clear e ci hs hi
  go_enter Tryz.func40, Tryz.ntmps40
  go_wp2_with fail
  refine (CI.out).mono ?_
  rintro e w2 ⟨rfl, hb2⟩
  go_wp2_with fail
  refine bodyPost_ret (results_tmp rfl _ _ _) rfl ?_
  exact ⟨rfl, ((Below.refl w.heap.size _).alloc (Nat.le_refl _) _).trans (Below.mono hb2 (by simp))⟩
set_option maxHeartbeats 1000000 in
theorem en_oth (lb : Int) (k l d : Int) (bd : List (List Fl)) (a : Option Addr) (cap : Nat) (w : World) (h0 : ¬ k = 0) (h1 : ¬ k = 1) (h11 : ¬ k = 11) (h14 : ¬ k = 14) (h9 : ¬ k = 9) (h2 : ¬ k = 2) (h3 : ¬ k = 3) (h10 : ¬ k = 10) (h6 : ¬ k = 6) (h7 : ¬ k = 7) (h8 : ¬ k = 8) : Calls Tryz.prog 40 #[.agg #[.int .i64 k, .int .i64 l, .int .i64 d, .slice a bd.length cap], .int .i64 lb] w (RetB w (seF (.mk k l d bd) lb)) := by
  have e : seF (.mk k l d bd) lb = false := by
    rw [seF]
    simp [h0, h1, h11, h14, h9, h2, h3, h10, h6, h7, h8]
  rw [e]
  have q0 : (k == 0) = false := by simpa using h0
  have q1 : (k == 1) = false := by simpa using h1
  have q11 : (k == 11) = false := by simpa using h11
  have q14 : (k == 14) = false := by simpa using h14
  have q9 : (k == 9) = false := by simpa using h9
  have q2 : (k == 2) = false := by simpa using h2
  have q3 : (k == 3) = false := by simpa using h3
  have q10 : (k == 10) = false := by simpa using h10
  have q6 : (k == 6) = false := by simpa using h6
  have q7 : (k == 7) = false := by simpa using h7
  have q8 : (k == 8) = false := by simpa using h8
  clear e h0 h1 h11 h14 h9 h2 h3 h10 h6 h7 h8
  go_enter Tryz.func40, Tryz.ntmps40
  go_wp2_with fail
  go_ret
  exact ⟨rfl, (Below.refl _ _).alloc (Nat.le_refl _) _⟩
theorem enF_empty : EnF emptyFl := by
  intro lb k l d bd a cap H w hx hs hH
  cases hx
  exact en_oth lb 20 0 0 [] a cap w (by decide) (by decide) (by decide) (by decide) (by decide) (by decide) (by decide) (by decide) (by decide) (by decide) (by decide)
theorem enF_of (n : Nat) (hl : ∀ y, rkL y < n → EnL y) : ∀ (m : Nat) (x : Fl), rk x < m → rk x ≤ n → EnF x := by
  intro m
  induction m with
  | zero => exact fun x h => absurd h (Nat.not_lt_zero _)
  | succ m ih =>
    intro x hm hx lb k l d bd a cap H w e hs hH
    subst e
    rw [rk_mk] at hm hx
    have hL : ∀ y ∈ bd, EnL y := fun y hy => by
      obtain ⟨i, hi⟩ := List.mem_iff_getElem?.1 hy
      have := rkB_at hi
      exact hl y (by omega)
    have hA : EnA bd := enA_of bd hL
    have hP : EnL (partB bd 0) := by
      rcases bd with _ | ⟨y, ys⟩
      · exact enL_nil
      · exact hL y (by simp)
    have hI : EnF (innerB bd) := by
      rcases bd with _ | ⟨_ | ⟨y, ys⟩, yss⟩
      · exact enF_empty
      · exact enF_empty
      · have : rk y < rkB ((y :: ys) :: yss) := by rw [rkB, rkL]; omega
        exact ih y (by omega) (by omega)
    by_cases h0 : k = 0
    · subst h0; exact en_0 lb l d bd a cap w
    by_cases h1 : k = 1
    · subst h1; exact en_1 lb l d bd a cap w
    by_cases h11 : k = 11
    · subst h11; exact en_11 lb l d bd a cap w
    by_cases h14 : k = 14
    · subst h14; exact en_14 lb l d bd a cap w
    by_cases h9 : k = 9
    · subst h9; exact en_9 lb l d bd a cap H w hP hs hH
    by_cases h2 : k = 2
    · subst h2; exact en_2 lb l d bd a cap H w hL hs hH
    by_cases h3 : k = 3
    · subst h3; exact en_3 lb l d bd a cap H w hs hH
    by_cases h10 : k = 10
    · subst h10; exact en_10 lb l d bd a cap H w hI hs hH
    by_cases h6 : k = 6
    · subst h6; exact en_6 lb l d bd a cap H w hA hs hH
    by_cases h7 : k = 7
    · subst h7; exact en_7 lb l d bd a cap H w hA hs hH
    by_cases h8 : k = 8
    · subst h8; exact en_8 lb l d bd a cap H w hA hs hH
    exact en_oth lb k l d bd a cap w h0 h1 h11 h14 h9 h2 h3 h10 h6 h7 h8
theorem enL_all (n : Nat) : ∀ y, rkL y < n → EnL y := by
  induction n with
  | zero => exact fun l h => absurd h (Nat.not_lt_zero _)
  | succ n ih =>
    intro y h
    refine enL_of y fun x hx => ?_
    obtain ⟨i, hi⟩ := List.mem_iff_getElem?.1 hx
    have := rkL_at hi
    exact enF_of n ih (rk x + 1) x (by omega) (by omega)
/-- On statements in order the rules say what the code says. -/
theorem specEnds_any (y : List Fl) (hv : validL y = true) (a : Option Addr) (cap H : Nat) (w : World) (hs : SL w H a cap y) (hH : H ≤ w.heap.size) : Calls Tryz.prog 29 #[.slice a y.length cap] w (RetB w (teL y)) := by
  have h := enL_all (rkL y + 1) y (by omega) a cap H w hs hH
  have hf : fiL y false = true := by
    simp only [validL, Bool.and_eq_true] at hv
    exact hv.2
  rw [seL_eq y false hf] at h
  exact h
end Go.Proofs.YtpodifbgfcclbaaGreatDoor
