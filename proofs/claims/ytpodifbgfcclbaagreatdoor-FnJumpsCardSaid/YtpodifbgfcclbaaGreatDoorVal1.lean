/- What the functions of spec.Valid compute. -/
import Derived.Test.YtpodifbgfcclbaaGreatDoorProg
import Derived.Test.YtpodifbgfcclbaaGreatDoorMem1
import Derived.WalkSpells
import Derived.WalkLawsBesides
import Derived.BigQuiet
import Derived.Deep.LoopGhost
set_option linter.unusedSimpArgs false
set_option linter.unusedVariables false
namespace Go.Proofs.YtpodifbgfcclbaaGreatDoor
open Go.RowKit

theorem ret_eq {v v' : Value} (h : v = v') : Ending.returned v = .returned v' := by rw [h]

/-- What a function leaves that hands back a list of statements. -/
def RetSL (H : Nat) (w : World) (l : List Fl) (e : Ending) (w' : World) : Prop :=
  ∃ a cap, e = .returned (.slice a l.length cap) ∧ SL w' H a cap l ∧ Below w.heap.size w w'

set_option maxHeartbeats 400000 in
theorem part_any (k l d : Int) (bd : List (List Fl)) (a : Option Addr) (cap H : Nat) (w : World) (h : SLL w H a cap bd) (hH : H ≤ w.heap.size) :
    Calls Tryz.prog 48 #[.agg #[.int .i64 k, .int .i64 l, .int .i64 d, .slice a bd.length cap], .int .i64 0] w (RetSL H w (partB bd 0)) := by
  obtain ⟨h1, h2, b, o, h3, h4⟩ := h
  cases bd with
  | nil =>
    go_enter Tryz.func48, Tryz.ntmps48
    go_wp2
    go_ret
    exact ⟨none, 0, rfl, SL.nil, (Below.refl _ _).alloc (Nat.le_refl _) _⟩
  | cons y ys =>
    obtain rfl := h3 (by simp)
    obtain ⟨hb, ⟨a, cap', hc, hs⟩, _⟩ := ELL_cons.1 h4
    have hbw : b < w.heap.size := by omega
    clear h3
    go_enter Tryz.func48, Tryz.ntmps48
    go_wp2
    go_ret
    exact ⟨a, cap', rfl, hs.below ((Below.refl w.heap.size _).alloc (Nat.le_refl _) _) hH, (Below.refl _ _).alloc (Nat.le_refl _) _⟩

/-- What a function leaves that hands back a statement. -/
def RetF (H : Nat) (w : World) (x : Fl) (e : Ending) (w' : World) : Prop :=
  ∃ k l d bd a cap, x = .mk k l d bd ∧ e = .returned (.agg #[.int .i64 k, .int .i64 l, .int .i64 d, .slice a bd.length cap]) ∧ SLL w' H a cap bd ∧ Below w.heap.size w w'

attribute [local go_sem] Nat.lt_add_one_of_lt
set_option maxHeartbeats 400000 in
theorem inner_any (k l d : Int) (bd : List (List Fl)) (a : Option Addr) (cap H : Nat) (w : World) (h : SLL w H a cap bd) (hH : H ≤ w.heap.size) :
    Calls Tryz.prog 50 #[.agg #[.int .i64 k, .int .i64 l, .int .i64 d, .slice a bd.length cap]] w (RetF H w (innerB bd)) := by
  go_enter Tryz.func50, Tryz.ntmps50
  go_wp2_with fail
  refine (part_any k l d bd a cap H _ (h.below ((Below.refl w.heap.size _).alloc (Nat.le_refl _) _ |>.alloc (by simp) _) hH) (by simp; omega)).mono ?_
  rintro e w1 ⟨a1, cap1, rfl, h1, hb1⟩
  obtain ⟨hc, hf⟩ := bcell hb1
  have hz : w.heap.size + 1 < w1.heap.size := by have := hb1.size; simp at this; omega
  generalize hl : partB bd 0 = L at *
  have hw1 : Below w.heap.size w w1 := ((Below.refl w.heap.size w).alloc (Nat.le_refl _) _ |>.alloc (by simp) _).trans (hb1.mono (by simp; omega))
  have hset : ∀ v0 v1 v2 v3, Below w.heap.size w1 ((((w1.setCell ⟨w.heap.size + 1, 0, none⟩ v0).setCell ⟨w.heap.size + 1, 1, none⟩ v1).setCell ⟨w.heap.size + 1, 2, none⟩ v2).setCell ⟨w.heap.size + 1, 3, none⟩ v3) := fun v0 v1 v2 v3 =>
    ((((Below.refl _ _).setCell (by simp) _).setCell (by simp) _).setCell (by simp) _).setCell (by simp) _
  cases L with
  | nil =>
    go_wp2
    refine bodyPost_ret (v := .agg #[.int .i64 20, .int .i64 0, .int .i64 0, .slice none 0 0]) (by simp [results, Tryz.results50, go_sem, hc]) rfl ⟨20, 0, 0, [], none, 0, ?_, rfl, SLL.nil, hw1.trans (hset _ _ _ _)⟩
    rcases bd with _ | ⟨_ | ⟨y, ys⟩, yss⟩
    · rfl
    · rfl
    · simp [partB] at hl
  | cons x xs =>
    obtain ⟨_, _, b, o, h3, h4⟩ := h1
    obtain rfl := h3 (by simp)
    obtain ⟨k', l', d', bd'⟩ := x
    obtain ⟨g1, g2, g3, g4, ⟨a2, cap2, g5, g6⟩, g7⟩ := EL_cons.1 h4
    clear h3
    go_wp2
    refine bodyPost_ret (v := .agg #[.int .i64 k', .int .i64 l', .int .i64 d', .slice a2 bd'.length cap2]) (by simp [results, Tryz.results50, go_sem, hc]) rfl ⟨k', l', d', bd', a2, cap2, ?_, rfl, g6.below (hset _ _ _ _) hH, hw1.trans (hset _ _ _ _)⟩
    rcases bd with _ | ⟨_ | ⟨y, ys⟩, yss⟩
    · simp [partB] at hl
    · simp [partB] at hl
    · simp [partB] at hl
      obtain ⟨rfl, rfl⟩ := hl
      rfl

/-- What a function leaves that hands back a number. -/
def RetN (w : World) (n : Nat) (e : Ending) (w' : World) : Prop := e = .returned (.int .i64 n) ∧ Below w.heap.size w w'

set_option maxHeartbeats 1000000 in
theorem size_any (n : Nat) : ∀ (l : List Fl) (deep : Nat) (a : Option Addr) (cap H : Nat) (w : World), rkL l < n → deep ≤ 51 → SL w H a cap l → H ≤ w.heap.size →
    Calls Tryz.prog 34 #[.slice a l.length cap, .int .i64 deep] w (RetN w (szL deep l)) := by
  induction n with
  | zero => exact fun l deep a cap H w h => absurd h (Nat.not_lt_zero _)
  | succ n ih =>
    intro l deep a cap H w hn hd hs hH
    by_cases hdeep : deep ≤ 50
    · obtain ⟨h1, h2, b, o, h3, h4⟩ := hs
      have hcap : l.length ≤ 2932031007403 := by omega
      go_enter Tryz.func34, Tryz.ntmps34
      go_wp2_with fail
      go_loopg [5, 14] l.length (fun g vn vi wr => ∃ k m : Nat, k + g = l.length ∧ vi = .int .i64 k ∧ vn = .int .i64 m ∧ m ≤ 1000 + k ∧ Hid (szGo deep (l.drop k) m = szGo deep l 0) ∧ Below w.heap.size w wr)
      case atStart => exact ⟨0, 0, by omega, rfl, rfl, by omega, rfl, Below.refl _ _⟩
      case round =>
        obtain ⟨k, m, hk, rfl, rfl, hm, hrest, hb⟩ := hrel
        by_cases hlt : k < l.length
        · obtain ⟨g1, kk, lb, d, bd, a', cap', g2, g3, g4, g5, g6, g7, g8⟩ := (EL.keep (H' := wr.heap.size) (fun q hq => hb.block q (by omega)) (by have := hb.size; omega) h4).at k hlt
          obtain rfl := h3 (by rintro rfl; simp at hlt)
          clear h3
          obtain ⟨p1, p2, b2, o2, p3, p4⟩ := g8
          have hcap2 : bd.length ≤ 5864062014806 := by omega
          have hrk := rkL_at g3
          rw [rk_mk] at hrk
          have hsz := hb.size
          obtain ⟨wo, rfl⟩ : ∃ wo : World, wo = wr := ⟨_, rfl⟩
          obtain ⟨g0, rfl⟩ : ∃ g0 : Nat, g0 = gk := ⟨_, rfl⟩
          have hR := hrest.out
          rw [g2, szGo_cons] at hR
          have HR := Lib.hid hR
          clear hR hrest
          go_wp2_with fail
          go_loopg [5, 23] bd.length (fun g vn vi wr => ∃ j q : Nat, j + g = bd.length ∧ vi = .int .i64 j ∧ vn = .int .i64 q ∧ q ≤ 1001 + k ∧ Hid (szB deep (bd.drop j) q = szB deep bd (m + 1)) ∧ Below w.heap.size w wr ∧ Below wo.heap.size wo wr)
          case atStart => exact ⟨0, m + 1, by omega, rfl, rfl, by omega, rfl, hb.alloc (by omega) _, (Below.refl _ _).alloc (Nat.le_refl _) _⟩
          case round =>
            obtain ⟨j, q, hj, rfl, rfl, hq, hrest2, hb2, hb3⟩ := hrel
            by_cases hlt2 : j < bd.length
            · obtain ⟨q1, y, a3, cap3, q2, q3, q4, q5⟩ := (ELL.keep (H' := wr.heap.size) (fun r hr => hb3.block r (by omega)) (by have := hb3.size; omega) p4).at j hlt2
              obtain rfl := p3 (by rintro rfl; simp at hlt2)
              clear p3
              have hrk2 := rkB_at q3
              have hcap3 : y.length ≤ 2932031007403 := by have := q5.1; have := q5.2.1; omega
              have hle := szL_le (deep + 1) y
              have hR := hrest2.out
              rw [q2, szB_cons] at hR
              have HR2 := Lib.hid hR
              clear hR hrest2
              go_wp2_with fail
              rw [show ((deep : Int) + 1) = ((deep + 1 : Nat) : Int) from by omega]
              refine (ih y (deep + 1) a3 cap3 _ _ (by omega) (by omega) q5 (Nat.le_refl _)).mono ?_
              rintro e w1 ⟨rfl, hb4⟩
              generalize hZ : szL (deep + 1) y = Z at *
              by_cases hbig : q + Z > 1000
              · go_wp2_with fail
                go_ret
                have h2 := HR2.out
                rw [if_pos hbig] at h2
                have h5 := HR.out
                rw [← h2] at h5
                refine ⟨ret_eq ?_, hb2.trans (hb4.mono hb2.size)⟩
                rw [show szL deep l = 1001 from by unfold szL; rw [if_neg (by omega)]; exact h5.symm]
                rfl
              · go_wp2_with fail
                have h2 := HR2.out
                rw [if_neg hbig] at h2
                go_roundg (gk - 1)
                case measure => omega
                case rel => exact ⟨j + 1, q + Z, by omega, by go_num, by go_num, by omega, h2, hb2.trans (hb4.mono hb2.size), hb3.trans (hb4.mono hb3.size)⟩
            · go_wp2_with fail
              have h2 := hrest2.out
              rw [List.drop_eq_nil_of_le (by omega), szB] at h2
              have h5 := HR.out
              rw [← h2] at h5
              go_roundg (g0 - 1)
              case measure => omega
              case rel => exact ⟨k + 1, q, by omega, by go_num, by go_num, by omega, h5, hb2⟩
        · go_wp2_with fail
          go_ret
          have h5 := hrest.out
          rw [List.drop_eq_nil_of_le (by omega), szGo] at h5
          refine ⟨ret_eq ?_, hb⟩
          rw [show szL deep l = m from by unfold szL; rw [if_neg (by omega)]; exact h5.symm]
          rfl
    · obtain rfl : deep = 51 := by omega
      go_enter Tryz.func34, Tryz.ntmps34
      go_wp2_with fail
      go_ret
      exact ⟨by simp [szL], Below.refl _ _⟩
end Go.Proofs.YtpodifbgfcclbaaGreatDoor

/- What the functions of spec.Valid compute, the second part: fine, statement, lists. -/
set_option linter.unusedVariables false
namespace Go.Proofs.YtpodifbgfcclbaaGreatDoor
open Go.RowKit
attribute [local go_sem] Nat.lt_add_one_of_lt

/-- What a function leaves that hands back yes or no. -/
def RetB (w : World) (b : Bool) (e : Ending) (w' : World) : Prop := e = .returned (.bool b) ∧ Below w.heap.size w w'
def FineC (l : List Fl) : Prop := ∀ (t : Bool) (a : Option Addr) (cap H : Nat) (w : World), SL w H a cap l → H ≤ w.heap.size →
    Calls Tryz.prog 35 #[.slice a l.length cap, .bool t] w (RetB w (fiL l t))
def ListsC (bd : List (List Fl)) : Prop := ∀ (t : Bool) (k l d : Int) (a : Option Addr) (cap H : Nat) (w : World), SLL w H a cap bd → H ≤ w.heap.size →
    Calls Tryz.prog 55 #[.agg #[.int .i64 k, .int .i64 l, .int .i64 d, .slice a bd.length cap], .bool t] w (RetB w (liB bd t))
def StC (x : Fl) : Prop := ∀ (t : Bool) (k l d : Int) (bd : List (List Fl)) (a : Option Addr) (cap H : Nat) (w : World), x = .mk k l d bd → SLL w H a cap bd → H ≤ w.heap.size →
    Calls Tryz.prog 43 #[.agg #[.int .i64 k, .int .i64 l, .int .i64 d, .slice a bd.length cap], .bool t] w (RetB w (stF x t))

theorem fiL_cons (x : Fl) (xs : List Fl) (t : Bool) : fiL (x :: xs) t = (stF x (t && xs.isEmpty) && fiL xs t) := by rw [fiL]
theorem liB_cons (y : List Fl) (ys : List (List Fl)) (t : Bool) : liB (y :: ys) t = (fiL y (t && !ys.isEmpty) && liB ys t) := by rw [liB]

set_option maxHeartbeats 1000000 in
theorem fine_of (n : Nat) (hst : ∀ x, rk x ≤ n → StC x) (l : List Fl) (hn : rkL l ≤ n) : FineC l := by
  have HST := Lib.hid hst
  clear hst
  intro t a cap H w hs hH
  obtain ⟨h1, h2, b, o, h3, h4⟩ := hs
  have hcap : l.length ≤ 2932031007403 := by omega
  cases t with
  | false =>
    go_enter Tryz.func35, Tryz.ntmps35
    go_wp2_with fail
    go_loopg [9] l.length (fun g vi wr => ∃ k : Nat, k + g = l.length ∧ vi = .int .i64 k ∧ Hid (fiL (l.drop k) false = fiL l false) ∧ Below w.heap.size w wr)
    case atStart => exact ⟨0, by omega, rfl, rfl, Below.refl _ _⟩
    case round =>
      obtain ⟨k, hk, rfl, hrest, hb⟩ := hrel
      by_cases hlt : k < l.length
      · have hsz := hb.size
        obtain ⟨g1, kk, lb, d, bd, a', cap', g2, g3, g4, g5, g6, g7, g8⟩ := (EL.keep (H' := wr.heap.size) (fun q hq => hb.block q (by omega)) (by omega) h4).at k hlt
        obtain rfl := h3 (by rintro rfl; simp at hlt)
        clear h3
        have hrk := rkL_at g3
        have hR := hrest.out
        rw [g2, fiL_cons] at hR
        simp only [Bool.false_and] at hR
        have HR := Lib.hid hR
        clear hR hrest
        go_wp2_with fail
        refine (HST.out _ (Nat.le_trans hrk hn) false kk lb d bd a' cap' wr.heap.size _ rfl (g8.below ((Below.refl wr.heap.size _).alloc (Nat.le_refl _) _) (Nat.le_refl _)) (by simp)).mono ?_
        rintro e w1 ⟨rfl, hb1⟩
        have hb1 : Below wr.heap.size wr w1 := ((Below.refl wr.heap.size _).alloc (Nat.le_refl _) _).trans (hb1.mono (by simp))
        generalize hZ : stF (.mk kk lb d bd) false = Z at *
        cases Z with
        | false =>
          go_wp2_with fail
          go_ret
          have h5 := HR.out
          rw [Bool.false_and] at h5
          exact ⟨by rw [← h5]; rfl, hb.trans (hb1.mono hsz)⟩
        | true =>
          go_wp2_with fail
          have h5 := HR.out
          rw [Bool.true_and] at h5
          go_roundg (gk - 1)
          case measure => omega
          case rel => exact ⟨k + 1, by omega, by go_num, h5, hb.trans (hb1.mono hsz)⟩
      · go_wp2_with fail
        go_ret
        have h5 := hrest.out
        rw [List.drop_eq_nil_of_le (by omega), fiL] at h5
        exact ⟨by rw [← h5]; rfl, hb⟩
  | true =>
    go_enter Tryz.func35, Tryz.ntmps35
    go_wp2_with fail
    go_loopg [9] l.length (fun g vi wr => ∃ k : Nat, k + g = l.length ∧ vi = .int .i64 k ∧ Hid (fiL (l.drop k) true = fiL l true) ∧ Below w.heap.size w wr)
    case atStart => exact ⟨0, by omega, rfl, rfl, Below.refl _ _⟩
    case round =>
      obtain ⟨k, hk, rfl, hrest, hb⟩ := hrel
      by_cases hlt : k < l.length
      · have hsz := hb.size
        obtain ⟨g1, kk, lb, d, bd, a', cap', g2, g3, g4, g5, g6, g7, g8⟩ := (EL.keep (H' := wr.heap.size) (fun q hq => hb.block q (by omega)) (by omega) h4).at k hlt
        obtain rfl := h3 (by rintro rfl; simp at hlt)
        clear h3
        have hrk := rkL_at g3
        have hR := hrest.out
        rw [g2, fiL_cons] at hR
        simp only [Bool.true_and] at hR
        have he : (l.drop (k + 1)).isEmpty = ((k : Int) == (l.length : Int) - 1) := by
          rw [Bool.eq_iff_iff, List.isEmpty_iff, List.drop_eq_nil_iff, beq_iff_eq]; omega
        rw [he] at hR
        have HR := Lib.hid hR
        clear hR hrest he
        generalize hB : ((k : Int) == (l.length : Int) - 1) = B at *
        go_wp2_with fail
        refine (HST.out _ (Nat.le_trans hrk hn) B kk lb d bd a' cap' wr.heap.size _ rfl (g8.below ((Below.refl wr.heap.size _).alloc (Nat.le_refl _) _) (Nat.le_refl _)) (by simp)).mono ?_
        rintro e w1 ⟨rfl, hb1⟩
        have hb1 : Below wr.heap.size wr w1 := ((Below.refl wr.heap.size _).alloc (Nat.le_refl _) _).trans (hb1.mono (by simp))
        generalize hZ : stF (.mk kk lb d bd) B = Z at *
        cases Z with
        | false =>
          go_wp2_with fail
          go_ret
          have h5 := HR.out
          rw [Bool.false_and] at h5
          exact ⟨by rw [← h5]; rfl, hb.trans (hb1.mono hsz)⟩
        | true =>
          go_wp2_with fail
          have h5 := HR.out
          rw [Bool.true_and] at h5
          go_roundg (gk - 1)
          case measure => omega
          case rel => exact ⟨k + 1, by omega, by go_num, h5, hb.trans (hb1.mono hsz)⟩
      · go_wp2_with fail
        go_ret
        have h5 := hrest.out
        rw [List.drop_eq_nil_of_le (by omega), fiL] at h5
        exact ⟨by rw [← h5]; rfl, hb⟩

set_option maxHeartbeats 1000000 in
theorem lists_of (n : Nat) (hst : ∀ l, rkL l < n → FineC l) (bd : List (List Fl)) (hn : rkB bd ≤ n) : ListsC bd := by
  have HST := Lib.hid hst
  clear hst
  intro t k l d a cap H w hs hH
  obtain ⟨h1, h2, b, o, h3, h4⟩ := hs
  have hcap : bd.length ≤ 5864062014806 := by omega
  cases t with
  | false =>
    go_enter Tryz.func55, Tryz.ntmps55
    go_wp2_with fail
    go_loopg [10] bd.length (fun g vi wr => ∃ q : Nat, q + g = bd.length ∧ vi = .int .i64 q ∧ Hid (liB (bd.drop q) false = liB bd false) ∧ Below w.heap.size w wr ∧ Below (w.heap.size + 1) (w.alloc (.cells #[.int .i64 k, .int .i64 l, .int .i64 d, .slice a bd.length cap] 27)) wr)
    case atStart => exact ⟨0, by omega, rfl, rfl, (Below.refl _ _).alloc (Nat.le_refl _) _, Below.refl _ _⟩
    case round =>
      obtain ⟨q, hk, rfl, hrest, hb, hb0⟩ := hrel
      by_cases hlt : q < bd.length
      · have hsz := hb0.size
        simp only [World.size_alloc] at hsz
        obtain ⟨g1, y, a', cap', g2, g3, g4, g5⟩ := (ELL.keep (H' := wr.heap.size) (fun r hr => hb.block r (by omega)) (by omega) h4).at q hlt
        obtain rfl := h3 (by rintro rfl; simp at hlt)
        clear h3
        have hrk := rkB_at g3
        have hR := hrest.out
        rw [g2, liB_cons] at hR
        simp only [Bool.false_and] at hR
        have HR := Lib.hid hR
        clear hR hrest
        obtain ⟨hc, hf⟩ := bcell hb0
        go_wp2_with fail
        refine (HST.out _ (by omega) false a' cap' wr.heap.size _ g5 (Nat.le_refl _)).mono ?_
        rintro e w1 ⟨rfl, hb1⟩
        clear hc hf
        generalize hZ : fiL y false = Z at *
        cases Z with
        | false =>
          go_wp2_with fail
          go_ret
          have h5 := HR.out
          rw [Bool.false_and] at h5
          exact ⟨by rw [← h5]; rfl, hb.trans (hb1.mono (by omega))⟩
        | true =>
          go_wp2_with fail
          have h5 := HR.out
          rw [Bool.true_and] at h5
          go_roundg (gk - 1)
          case measure => omega
          case rel => exact ⟨q + 1, by omega, by go_num, h5, hb.trans (hb1.mono (by omega)), hb0.trans (hb1.mono hsz)⟩
      · go_wp2_with fail
        go_ret
        have h5 := hrest.out
        rw [List.drop_eq_nil_of_le (by omega), liB] at h5
        exact ⟨by rw [← h5]; rfl, hb⟩
  | true =>
    go_enter Tryz.func55, Tryz.ntmps55
    go_wp2_with fail
    go_loopg [10] bd.length (fun g vi wr => ∃ q : Nat, q + g = bd.length ∧ vi = .int .i64 q ∧ Hid (liB (bd.drop q) true = liB bd true) ∧ Below w.heap.size w wr ∧ Below (w.heap.size + 1) (w.alloc (.cells #[.int .i64 k, .int .i64 l, .int .i64 d, .slice a bd.length cap] 27)) wr)
    case atStart => exact ⟨0, by omega, rfl, rfl, (Below.refl _ _).alloc (Nat.le_refl _) _, Below.refl _ _⟩
    case round =>
      obtain ⟨q, hk, rfl, hrest, hb, hb0⟩ := hrel
      by_cases hlt : q < bd.length
      · have hsz := hb0.size
        simp only [World.size_alloc] at hsz
        obtain ⟨g1, y, a', cap', g2, g3, g4, g5⟩ := (ELL.keep (H' := wr.heap.size) (fun r hr => hb.block r (by omega)) (by omega) h4).at q hlt
        obtain rfl := h3 (by rintro rfl; simp at hlt)
        clear h3
        have hrk := rkB_at g3
        have hR := hrest.out
        rw [g2, liB_cons] at hR
        simp only [Bool.true_and] at hR
        have he : (!(bd.drop (q + 1)).isEmpty) = decide ((q : Int) < (bd.length : Int) - 1) := by
          rw [Bool.eq_iff_iff, Bool.not_eq_true', ← Bool.not_eq_true, List.isEmpty_iff, List.drop_eq_nil_iff, decide_eq_true_eq]; omega
        rw [he] at hR
        have HR := Lib.hid hR
        clear hR hrest
        obtain ⟨hc, hf⟩ := bcell hb0
        generalize hB : decide ((q : Int) < (bd.length : Int) - 1) = B at *
        go_wp2_with fail
        refine (HST.out _ (by omega) B a' cap' wr.heap.size _ g5 (Nat.le_refl _)).mono ?_
        rintro e w1 ⟨rfl, hb1⟩
        clear hc hf
        generalize hZ : fiL y B = Z at *
        cases Z with
        | false =>
          go_wp2_with fail
          go_ret
          have h5 := HR.out
          rw [Bool.false_and] at h5
          exact ⟨by rw [← h5]; rfl, hb.trans (hb1.mono (by omega))⟩
        | true =>
          go_wp2_with fail
          have h5 := HR.out
          rw [Bool.true_and] at h5
          go_roundg (gk - 1)
          case measure => omega
          case rel => exact ⟨q + 1, by omega, by go_num, h5, hb.trans (hb1.mono (by omega)), hb0.trans (hb1.mono hsz)⟩
      · go_wp2_with fail
        go_ret
        have h5 := hrest.out
        rw [List.drop_eq_nil_of_le (by omega), liB] at h5
        exact ⟨by rw [← h5]; rfl, hb⟩
end Go.Proofs.YtpodifbgfcclbaaGreatDoor
