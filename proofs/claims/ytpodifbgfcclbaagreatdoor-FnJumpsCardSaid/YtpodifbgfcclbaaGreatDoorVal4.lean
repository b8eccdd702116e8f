/- What spec.Valid computes. -/
import Derived.Test.YtpodifbgfcclbaaGreatDoorVal3
set_option linter.unusedVariables false
set_option linter.unusedSimpArgs false
namespace Go.Proofs.YtpodifbgfcclbaaGreatDoor
open Go.RowKit
attribute [local go_sem] Nat.lt_add_one_of_lt

theorem st_empty : StC emptyFl := by
  intro t k l d bd a cap H w hx hs hH
  cases hx
  exact st_20 0 0 [] t a cap H w (by omega) (by omega)
theorem stI_inner (bd : List (List Fl)) (t : Bool) : stI bd t = stF (innerB bd) t := by
  rcases bd with _ | ⟨_ | ⟨y, ys⟩, yss⟩
  · rw [stI]
    · simp [innerB, emptyFl, stF]
    · intro _ _ _ h; cases h
  · rw [stI]
    · simp [innerB, emptyFl, stF]
    · intro _ _ _ h; cases h
  · rw [stI]; rfl
set_option maxHeartbeats 1000000 in
theorem st_10 (l d : Int) (bd : List (List Fl)) (t : Bool) (a : Option Addr) (cap H : Nat) (w : World) (h1 : -1 ≤ l) (h2 : l ≤ 9) (hi : StC (innerB bd)) (hs : SLL w H a cap bd) (hH : H ≤ w.heap.size) :
    Calls Tryz.prog 43 #[.agg #[.int .i64 10, .int .i64 l, .int .i64 d, .slice a bd.length cap], .bool t] w (RetB w (stF (.mk 10 l d bd) t)) := by
  have h12 : ¬ l < -1 := by omega
  have h22 : ¬ 9 < l := by omega
  have e : stF (.mk 10 l d bd) t = ((!(l == 0)) && decide (bd.length < 2) && stF (innerB bd) t && decide ((partB bd 0).length < 2)) := by rw [stF]; simp [h12, h22, stI_inner]
  rw [e]
  clear e h12 h22
  have HI := Lib.hid hi
  clear hi
  cases hl0 : (l == 0) with
  | true =>
    have hl2 : (l != 0) = false := by simp [bne, hl0]
    go_enter Tryz.func43, Tryz.ntmps43
    go_wp2_with fail
    go_ret
    exact ⟨ret_eq (congrArg Value.bool (by simp)), (Below.refl _ _).alloc (Nat.le_refl _) _⟩
  | false =>
    have hl2 : (l != 0) = true := by simp [bne, hl0]
    by_cases hlen : bd.length < 2
    · rw [show decide (bd.length < 2) = true from by simpa using hlen]
      go_enter Tryz.func43, Tryz.ntmps43
      go_wp2_with fail
      refine (inner_any 10 l d bd a cap H _ (hs.below ((Below.refl w.heap.size _).alloc (Nat.le_refl _) _) hH) (by simp; omega)).mono ?_
      rintro e w1 ⟨k', l', d', bd', a', cap', hx, rfl, hs1, hb1⟩
      have hsz : w.heap.size + 1 ≤ w1.heap.size := by have := hb1.size; simpa using this
      obtain ⟨hc, hf⟩ := bcell hb1
      have HX := Lib.hid hx
      clear hx
      go_wp2_with fail
      refine (HI.out t k' l' d' bd' a' cap' H _ HX.out hs1 (by omega)).mono ?_
      rintro e w2 ⟨rfl, hb2⟩
      have hb12 := hb1.trans (hb2.mono (by simp; omega))
      clear hc hf
      obtain ⟨hc, hf⟩ := bcell hb12
      have hb02 : Below w.heap.size w w2 := ((Below.refl w.heap.size _).alloc (Nat.le_refl _) _).trans (hb12.mono (by simp))
      generalize hZ : stF (innerB bd) t = Z at *
      cases Z with
      | false =>
        go_wp2_with fail
        go_ret
        exact ⟨ret_eq (congrArg Value.bool (by simp)), hb02⟩
      | true =>
        go_wp2_with fail
        refine (part_any 10 l d bd a cap H _ (hs.below hb02 hH) (by have := hb02.size; omega)).mono ?_
        rintro e w3 ⟨a3, cap3, rfl, hs3, hb3⟩
        go_wp2_with fail
        go_ret
        exact ⟨ret_eq (congrArg Value.bool (by simp; omega)), hb02.trans (hb3.mono hb02.size)⟩
    · rw [show decide (bd.length < 2) = false from by simpa using hlen]
      go_enter Tryz.func43, Tryz.ntmps43
      go_wp2_with fail
      go_ret
      exact ⟨ret_eq (congrArg Value.bool (by simp)), (Below.refl _ _).alloc (Nat.le_refl _) _⟩

set_option maxHeartbeats 1000000 in
theorem st_low (k l d : Int) (bd : List (List Fl)) (t : Bool) (a : Option Addr) (cap H : Nat) (w : World) (h : k < 0 ∨ 20 < k ∨ l < -1 ∨ 9 < l) :
    Calls Tryz.prog 43 #[.agg #[.int .i64 k, .int .i64 l, .int .i64 d, .slice a bd.length cap], .bool t] w (RetB w false) := by
  by_cases h1 : k < 0
  · go_enter Tryz.func43, Tryz.ntmps43
    go_wp2_with fail
    go_ret
    exact ⟨rfl, (Below.refl _ _).alloc (Nat.le_refl _) _⟩
  · by_cases h2 : 20 < k
    · go_enter Tryz.func43, Tryz.ntmps43
      go_wp2_with fail
      go_ret
      exact ⟨rfl, (Below.refl _ _).alloc (Nat.le_refl _) _⟩
    · by_cases h3 : l < -1
      · go_enter Tryz.func43, Tryz.ntmps43
        go_wp2_with fail
        go_ret
        exact ⟨rfl, (Below.refl _ _).alloc (Nat.le_refl _) _⟩
      · have h4 : 9 < l := by omega
        clear h
        go_enter Tryz.func43, Tryz.ntmps43
        go_wp2_with fail
        go_ret
        exact ⟨rfl, (Below.refl _ _).alloc (Nat.le_refl _) _⟩
theorem stF_out (k l d : Int) (bd : List (List Fl)) (t : Bool) (h : k < 0 ∨ 20 < k ∨ l < -1 ∨ 9 < l) : stF (.mk k l d bd) t = false := by
  rw [stF]
  by_cases h1 : k < 0
  · rw [if_pos h1]
  · rw [if_neg h1]
    by_cases h2 : k > 20
    · rw [if_pos h2]
    · rw [if_neg h2]
      by_cases h3 : l < -1
      · rw [if_pos h3]
      · rw [if_neg h3, if_pos (by omega)]

theorem st_of (n : Nat) (hl : ∀ bd, rkB bd ≤ n → ListsC bd) : ∀ (m : Nat) (x : Fl), rk x < m → rk x ≤ n + 1 → StC x := by
  intro m
  induction m with
  | zero => exact fun x h => absurd h (Nat.not_lt_zero _)
  | succ m ih =>
    intro x hm hx t k l d bd a cap H w e hs hH
    subst e
    rw [rk_mk] at hm hx
    by_cases hr : k < 0 ∨ 20 < k ∨ l < -1 ∨ 9 < l
    · rw [stF_out _ _ _ _ _ hr]
      exact st_low k l d bd t a cap H w hr
    · have h1 : -1 ≤ l := by omega
      have h2 : l ≤ 9 := by omega
      have hL : ListsC bd := hl bd (by omega)
      have hI : StC (innerB bd) := by
        rcases bd with _ | ⟨_ | ⟨y, ys⟩, yss⟩
        · exact st_empty
        · exact st_empty
        · have : rk y < rkB ((y :: ys) :: yss) := by rw [rkB, rkL]; omega
          exact ih y (by omega) (by omega)
      have hk : k = 0 ∨ k = 1 ∨ k = 2 ∨ k = 3 ∨ k = 4 ∨ k = 5 ∨ k = 6 ∨ k = 7 ∨ k = 8 ∨ k = 9 ∨ k = 10 ∨ k = 11 ∨ k = 12 ∨ k = 13 ∨ k = 14 ∨ k = 15 ∨ k = 16 ∨ k = 17 ∨ k = 18 ∨ k = 19 ∨ k = 20 := by omega
      rcases hk with rfl | rfl | rfl | rfl | rfl | rfl | rfl | rfl | rfl | rfl | rfl | rfl | rfl | rfl | rfl | rfl | rfl | rfl | rfl | rfl | rfl
      · exact st_0 l d bd t a cap H w h1 h2
      · exact st_1 l d bd t a cap H w h1 h2
      · exact st_2 l d bd t a cap H w h1 h2 hL hs hH
      · exact st_3 l d bd t a cap H w h1 h2 hL hs hH
      · exact st_4 l d bd t a cap H w h1 h2 hL hs hH
      · exact st_5 l d bd t a cap H w h1 h2 hL hs hH
      · exact st_6 l d bd t a cap H w h1 h2 hL hs hH
      · exact st_7 l d bd t a cap H w h1 h2 hL hs hH
      · exact st_8 l d bd t a cap H w h1 h2 hL hs hH
      · exact st_9 l d bd t a cap H w h1 h2 hL hs hH
      · exact st_10 l d bd t a cap H w h1 h2 hI hs hH
      · exact st_11 l d bd t a cap H w h1 h2
      · exact st_12 l d bd t a cap H w h1 h2
      · exact st_13 l d bd t a cap H w h1 h2
      · exact st_14 l d bd t a cap H w h1 h2
      · exact vst_15 l d bd t a cap H w h1 h2
      · exact vst_16 l d bd t a cap H w h1 h2
      · exact vst_17 l d bd t a cap H w h1 h2
      · exact st_18 l d bd t a cap H w h1 h2
      · exact st_19 l d bd t a cap H w h1 h2 hL hs hH
      · exact st_20 l d bd t a cap H w h1 h2
theorem fine_any (n : Nat) : ∀ l, rkL l < n → FineC l := by
  induction n with
  | zero => exact fun l h => absurd h (Nat.not_lt_zero _)
  | succ n ih =>
    intro l h
    exact fine_of n (fun x hx => st_of n (fun bd hb => lists_of n ih bd hb) (rk x + 1) x (by omega) (by omega)) l (by omega)

set_option maxHeartbeats 1000000 in
theorem valid_any (l : List Fl) (a : Option Addr) (cap H : Nat) (w : World) (hs : SL w H a cap l) (hH : H ≤ w.heap.size) :
    Calls Tryz.prog 22 #[.slice a l.length cap] w (RetB w (validL l)) := by
  have hz : (0 : Int) = ((0 : Nat) : Int) := rfl
  have hS := fun w' (h : SL w' H a cap l) (h' : H ≤ w'.heap.size) => size_any (rkL l + 1) l 0 a cap H w' (by omega) (by omega) h h'
  have hF := fine_any (rkL l + 1) l (by omega)
  have HS := Lib.hid hS
  have HF := Lib.hid hF
  clear hS hF hz
  unfold validL
  generalize hZ : szL 0 l = Z at *
  by_cases hZ2 : Z ≤ 1000
  · rw [show decide (Z ≤ 1000) = true from by simpa using hZ2]
    go_enter Tryz.func22, Tryz.ntmps22
    go_wp2_with fail
    refine (HS.out _ hs hH).mono ?_
    rintro e w1 ⟨rfl, hb1⟩
    go_wp2_with fail
    refine (HF.out false a cap H _ (hs.below hb1 hH) (by have := hb1.size; omega)).mono ?_
    rintro e w2 ⟨rfl, hb2⟩
    go_wp2_with fail
    go_ret
    exact ⟨ret_eq (congrArg Value.bool (by simp)), hb1.trans (hb2.mono hb1.size)⟩
  · rw [show decide (Z ≤ 1000) = false from by simpa using hZ2]
    go_enter Tryz.func22, Tryz.ntmps22
    go_wp2_with fail
    refine (HS.out _ hs hH).mono ?_
    rintro e w1 ⟨rfl, hb1⟩
    go_wp2_with fail
    go_ret
    exact ⟨ret_eq (congrArg Value.bool (by simp)), hb1⟩
end Go.Proofs.YtpodifbgfcclbaaGreatDoor
