/- What spec.statement computes. -/
import Derived.Test.YtpodifbgfcclbaaGreatDoorVal1
set_option linter.unusedVariables false
set_option linter.unusedSimpArgs false
namespace Go.Proofs.YtpodifbgfcclbaaGreatDoor
open Go.RowKit
attribute [local go_sem] Nat.lt_add_one_of_lt
theorem lenz (n : Nat) : ((n : Int) == 0) = (n == 0) := by rw [Bool.eq_iff_iff, beq_iff_eq, beq_iff_eq]; omega

set_option maxHeartbeats 1000000 in
theorem st_0 (l d : Int) (bd : List (List Fl)) (t : Bool) (a : Option Addr) (cap H : Nat) (w : World) (h1 : -1 ≤ l) (h2 : l ≤ 9) :
    Calls Tryz.prog 43 #[.agg #[.int .i64 0, .int .i64 l, .int .i64 d, .slice a bd.length cap], .bool t] w (RetB w (stF (.mk 0 l d bd) t)) := by
  have h12 : ¬ l < -1 := by omega
  have h22 : ¬ 9 < l := by omega
  have e : stF (.mk 0 l d bd) t = (l == 0 && bd.length == 0) := by rw [stF]; simp [h12, h22]
  rw [e]
  clear e h12 h22
  cases hl : (l == 0) with
  | false =>
    go_enter Tryz.func43, Tryz.ntmps43
    go_wp2_with fail
    go_ret
    exact ⟨ret_eq (congrArg Value.bool (by simp [lenz])), (Below.refl _ _).alloc (Nat.le_refl _) _⟩
  | true =>
    go_enter Tryz.func43, Tryz.ntmps43
    go_wp2_with fail
    go_ret
    exact ⟨ret_eq (congrArg Value.bool (by simp [lenz])), (Below.refl _ _).alloc (Nat.le_refl _) _⟩


set_option maxHeartbeats 1000000 in
theorem st_1 (l d : Int) (bd : List (List Fl)) (t : Bool) (a : Option Addr) (cap H : Nat) (w : World) (h1 : -1 ≤ l) (h2 : l ≤ 9) :
    Calls Tryz.prog 43 #[.agg #[.int .i64 1, .int .i64 l, .int .i64 d, .slice a bd.length cap], .bool t] w (RetB w (stF (.mk 1 l d bd) t)) := by
  have h12 : ¬ l < -1 := by omega
  have h22 : ¬ 9 < l := by omega
  have e : stF (.mk 1 l d bd) t = (l == 0 && bd.length == 0) := by rw [stF]; simp [h12, h22]
  rw [e]
  clear e h12 h22
  cases hl : (l == 0) with
  | false =>
    go_enter Tryz.func43, Tryz.ntmps43
    go_wp2_with fail
    go_ret
    exact ⟨ret_eq (congrArg Value.bool (by simp [lenz])), (Below.refl _ _).alloc (Nat.le_refl _) _⟩
  | true =>
    go_enter Tryz.func43, Tryz.ntmps43
    go_wp2_with fail
    go_ret
    exact ⟨ret_eq (congrArg Value.bool (by simp [lenz])), (Below.refl _ _).alloc (Nat.le_refl _) _⟩


set_option maxHeartbeats 1000000 in
theorem vst_15 (l d : Int) (bd : List (List Fl)) (t : Bool) (a : Option Addr) (cap H : Nat) (w : World) (h1 : -1 ≤ l) (h2 : l ≤ 9) :
    Calls Tryz.prog 43 #[.agg #[.int .i64 15, .int .i64 l, .int .i64 d, .slice a bd.length cap], .bool t] w (RetB w (stF (.mk 15 l d bd) t)) := by
  have h12 : ¬ l < -1 := by omega
  have h22 : ¬ 9 < l := by omega
  have e : stF (.mk 15 l d bd) t = (l == 0 && bd.length == 0) := by rw [stF]; simp [h12, h22]
  rw [e]
  clear e h12 h22
  cases hl : (l == 0) with
  | false =>
    go_enter Tryz.func43, Tryz.ntmps43
    go_wp2_with fail
    go_ret
    exact ⟨ret_eq (congrArg Value.bool (by simp [lenz])), (Below.refl _ _).alloc (Nat.le_refl _) _⟩
  | true =>
    go_enter Tryz.func43, Tryz.ntmps43
    go_wp2_with fail
    go_ret
    exact ⟨ret_eq (congrArg Value.bool (by simp [lenz])), (Below.refl _ _).alloc (Nat.le_refl _) _⟩


set_option maxHeartbeats 1000000 in
theorem vst_16 (l d : Int) (bd : List (List Fl)) (t : Bool) (a : Option Addr) (cap H : Nat) (w : World) (h1 : -1 ≤ l) (h2 : l ≤ 9) :
    Calls Tryz.prog 43 #[.agg #[.int .i64 16, .int .i64 l, .int .i64 d, .slice a bd.length cap], .bool t] w (RetB w (stF (.mk 16 l d bd) t)) := by
  have h12 : ¬ l < -1 := by omega
  have h22 : ¬ 9 < l := by omega
  have e : stF (.mk 16 l d bd) t = (l == 0 && bd.length == 0) := by rw [stF]; simp [h12, h22]
  rw [e]
  clear e h12 h22
  cases hl : (l == 0) with
  | false =>
    go_enter Tryz.func43, Tryz.ntmps43
    go_wp2_with fail
    go_ret
    exact ⟨ret_eq (congrArg Value.bool (by simp [lenz])), (Below.refl _ _).alloc (Nat.le_refl _) _⟩
  | true =>
    go_enter Tryz.func43, Tryz.ntmps43
    go_wp2_with fail
    go_ret
    exact ⟨ret_eq (congrArg Value.bool (by simp [lenz])), (Below.refl _ _).alloc (Nat.le_refl _) _⟩


set_option maxHeartbeats 1000000 in
theorem vst_17 (l d : Int) (bd : List (List Fl)) (t : Bool) (a : Option Addr) (cap H : Nat) (w : World) (h1 : -1 ≤ l) (h2 : l ≤ 9) :
    Calls Tryz.prog 43 #[.agg #[.int .i64 17, .int .i64 l, .int .i64 d, .slice a bd.length cap], .bool t] w (RetB w (stF (.mk 17 l d bd) t)) := by
  have h12 : ¬ l < -1 := by omega
  have h22 : ¬ 9 < l := by omega
  have e : stF (.mk 17 l d bd) t = (l == 0 && bd.length == 0) := by rw [stF]; simp [h12, h22]
  rw [e]
  clear e h12 h22
  cases hl : (l == 0) with
  | false =>
    go_enter Tryz.func43, Tryz.ntmps43
    go_wp2_with fail
    go_ret
    exact ⟨ret_eq (congrArg Value.bool (by simp [lenz])), (Below.refl _ _).alloc (Nat.le_refl _) _⟩
  | true =>
    go_enter Tryz.func43, Tryz.ntmps43
    go_wp2_with fail
    go_ret
    exact ⟨ret_eq (congrArg Value.bool (by simp [lenz])), (Below.refl _ _).alloc (Nat.le_refl _) _⟩


set_option maxHeartbeats 1000000 in
theorem st_18 (l d : Int) (bd : List (List Fl)) (t : Bool) (a : Option Addr) (cap H : Nat) (w : World) (h1 : -1 ≤ l) (h2 : l ≤ 9) :
    Calls Tryz.prog 43 #[.agg #[.int .i64 18, .int .i64 l, .int .i64 d, .slice a bd.length cap], .bool t] w (RetB w (stF (.mk 18 l d bd) t)) := by
  have h12 : ¬ l < -1 := by omega
  have h22 : ¬ 9 < l := by omega
  have e : stF (.mk 18 l d bd) t = (l == 0 && bd.length == 0) := by rw [stF]; simp [h12, h22]
  rw [e]
  clear e h12 h22
  cases hl : (l == 0) with
  | false =>
    go_enter Tryz.func43, Tryz.ntmps43
    go_wp2_with fail
    go_ret
    exact ⟨ret_eq (congrArg Value.bool (by simp [lenz])), (Below.refl _ _).alloc (Nat.le_refl _) _⟩
  | true =>
    go_enter Tryz.func43, Tryz.ntmps43
    go_wp2_with fail
    go_ret
    exact ⟨ret_eq (congrArg Value.bool (by simp [lenz])), (Below.refl _ _).alloc (Nat.le_refl _) _⟩


set_option maxHeartbeats 1000000 in
theorem st_20 (l d : Int) (bd : List (List Fl)) (t : Bool) (a : Option Addr) (cap H : Nat) (w : World) (h1 : -1 ≤ l) (h2 : l ≤ 9) :
    Calls Tryz.prog 43 #[.agg #[.int .i64 20, .int .i64 l, .int .i64 d, .slice a bd.length cap], .bool t] w (RetB w (stF (.mk 20 l d bd) t)) := by
  have h12 : ¬ l < -1 := by omega
  have h22 : ¬ 9 < l := by omega
  have e : stF (.mk 20 l d bd) t = (l == 0 && bd.length == 0) := by rw [stF]; simp [h12, h22]
  rw [e]
  clear e h12 h22
  cases hl : (l == 0) with
  | false =>
    go_enter Tryz.func43, Tryz.ntmps43
    go_wp2_with fail
    go_ret
    exact ⟨ret_eq (congrArg Value.bool (by simp [lenz])), (Below.refl _ _).alloc (Nat.le_refl _) _⟩
  | true =>
    go_enter Tryz.func43, Tryz.ntmps43
    go_wp2_with fail
    go_ret
    exact ⟨ret_eq (congrArg Value.bool (by simp [lenz])), (Below.refl _ _).alloc (Nat.le_refl _) _⟩


set_option maxHeartbeats 1000000 in
theorem st_11 (l d : Int) (bd : List (List Fl)) (t : Bool) (a : Option Addr) (cap H : Nat) (w : World) (h1 : -1 ≤ l) (h2 : l ≤ 9) :
    Calls Tryz.prog 43 #[.agg #[.int .i64 11, .int .i64 l, .int .i64 d, .slice a bd.length cap], .bool t] w (RetB w (stF (.mk 11 l d bd) t)) := by
  have h12 : ¬ l < -1 := by omega
  have h22 : ¬ 9 < l := by omega
  have e : stF (.mk 11 l d bd) t = ((!(l == 0)) && bd.length == 0) := by rw [stF]; simp [h12, h22]
  rw [e]
  clear e h12 h22
  cases hl : (l == 0) with
  | false =>
    have hl2 : (l != 0) = true := by simp [bne, hl]
    go_enter Tryz.func43, Tryz.ntmps43
    go_wp2_with fail
    go_ret
    exact ⟨ret_eq (congrArg Value.bool (by simp [lenz])), (Below.refl _ _).alloc (Nat.le_refl _) _⟩
  | true =>
    have hl2 : (l != 0) = false := by simp [bne, hl]
    go_enter Tryz.func43, Tryz.ntmps43
    go_wp2_with fail
    go_ret
    exact ⟨ret_eq (congrArg Value.bool (by simp [lenz])), (Below.refl _ _).alloc (Nat.le_refl _) _⟩


set_option maxHeartbeats 1000000 in
theorem st_12 (l d : Int) (bd : List (List Fl)) (t : Bool) (a : Option Addr) (cap H : Nat) (w : World) (h1 : -1 ≤ l) (h2 : l ≤ 9) :
    Calls Tryz.prog 43 #[.agg #[.int .i64 12, .int .i64 l, .int .i64 d, .slice a bd.length cap], .bool t] w (RetB w (stF (.mk 12 l d bd) t)) := by
  have h12 : ¬ l < -1 := by omega
  have h22 : ¬ 9 < l := by omega
  have e : stF (.mk 12 l d bd) t = (bd.length == 0) := by rw [stF]; simp [h12, h22]
  rw [e]
  clear e h12 h22
  go_enter Tryz.func43, Tryz.ntmps43
  go_wp2_with fail
  go_ret
  exact ⟨ret_eq (congrArg Value.bool (by simp [lenz])), (Below.refl _ _).alloc (Nat.le_refl _) _⟩


set_option maxHeartbeats 1000000 in
theorem st_13 (l d : Int) (bd : List (List Fl)) (t : Bool) (a : Option Addr) (cap H : Nat) (w : World) (h1 : -1 ≤ l) (h2 : l ≤ 9) :
    Calls Tryz.prog 43 #[.agg #[.int .i64 13, .int .i64 l, .int .i64 d, .slice a bd.length cap], .bool t] w (RetB w (stF (.mk 13 l d bd) t)) := by
  have h12 : ¬ l < -1 := by omega
  have h22 : ¬ 9 < l := by omega
  have e : stF (.mk 13 l d bd) t = (bd.length == 0) := by rw [stF]; simp [h12, h22]
  rw [e]
  clear e h12 h22
  go_enter Tryz.func43, Tryz.ntmps43
  go_wp2_with fail
  go_ret
  exact ⟨ret_eq (congrArg Value.bool (by simp [lenz])), (Below.refl _ _).alloc (Nat.le_refl _) _⟩


set_option maxHeartbeats 1000000 in
theorem st_14 (l d : Int) (bd : List (List Fl)) (t : Bool) (a : Option Addr) (cap H : Nat) (w : World) (h1 : -1 ≤ l) (h2 : l ≤ 9) :
    Calls Tryz.prog 43 #[.agg #[.int .i64 14, .int .i64 l, .int .i64 d, .slice a bd.length cap], .bool t] w (RetB w (stF (.mk 14 l d bd) t)) := by
  have h12 : ¬ l < -1 := by omega
  have h22 : ¬ 9 < l := by omega
  have e : stF (.mk 14 l d bd) t = (t && l == 0 && bd.length == 0) := by rw [stF]; simp [h12, h22]
  rw [e]
  clear e h12 h22
  cases t with
  | false =>
    go_enter Tryz.func43, Tryz.ntmps43
    go_wp2_with fail
    go_ret
    exact ⟨ret_eq (congrArg Value.bool (by simp [lenz])), (Below.refl _ _).alloc (Nat.le_refl _) _⟩
  | true =>
    cases hl : (l == 0) with
    | false =>
      go_enter Tryz.func43, Tryz.ntmps43
      go_wp2_with fail
      go_ret
      exact ⟨ret_eq (congrArg Value.bool (by simp [lenz])), (Below.refl _ _).alloc (Nat.le_refl _) _⟩
    | true =>
      go_enter Tryz.func43, Tryz.ntmps43
      go_wp2_with fail
      go_ret
      exact ⟨ret_eq (congrArg Value.bool (by simp [lenz])), (Below.refl _ _).alloc (Nat.le_refl _) _⟩


set_option maxHeartbeats 1000000 in
theorem st_2 (l d : Int) (bd : List (List Fl)) (t : Bool) (a : Option Addr) (cap H : Nat) (w : World) (h1 : -1 ≤ l) (h2 : l ≤ 9) (hl : ListsC bd) (hs : SLL w H a cap bd) (hH : H ≤ w.heap.size) :
    Calls Tryz.prog 43 #[.agg #[.int .i64 2, .int .i64 l, .int .i64 d, .slice a bd.length cap], .bool t] w (RetB w (stF (.mk 2 l d bd) t)) := by
  have h12 : ¬ l < -1 := by omega
  have h22 : ¬ 9 < l := by omega
  have e : stF (.mk 2 l d bd) t = (l == 0 && decide (bd.length < 3) && liB bd false) := by rw [stF]; simp [h12, h22]
  rw [e]
  clear e h12 h22
  have HL := Lib.hid hl
  clear hl
  cases hl0 : (l == 0) with
  | false =>
    go_enter Tryz.func43, Tryz.ntmps43
    go_wp2_with fail
    go_ret
    exact ⟨ret_eq (congrArg Value.bool (by simp)), (Below.refl _ _).alloc (Nat.le_refl _) _⟩
  | true =>
    by_cases hlen : bd.length < 3
    · rw [show decide (bd.length < 3) = true from by simpa using hlen]
      go_enter Tryz.func43, Tryz.ntmps43
      go_wp2_with fail
      refine (HL.out false 2 l d a cap H _ (hs.below ((Below.refl w.heap.size _).alloc (Nat.le_refl _) _) hH) (by simp; omega)).mono ?_
      rintro e w1 ⟨rfl, hb1⟩
      have hb1 : Below w.heap.size w w1 := ((Below.refl w.heap.size _).alloc (Nat.le_refl _) _).trans (hb1.mono (by simp))
      go_wp2_with fail
      go_ret
      exact ⟨ret_eq (congrArg Value.bool (by simp)), hb1⟩
    · rw [show decide (bd.length < 3) = false from by simpa using hlen]
      go_enter Tryz.func43, Tryz.ntmps43
      go_wp2_with fail
      go_ret
      exact ⟨ret_eq (congrArg Value.bool (by simp [lenz])), (Below.refl _ _).alloc (Nat.le_refl _) _⟩


set_option maxHeartbeats 1000000 in
theorem st_6 (l d : Int) (bd : List (List Fl)) (t : Bool) (a : Option Addr) (cap H : Nat) (w : World) (h1 : -1 ≤ l) (h2 : l ≤ 9) (hl : ListsC bd) (hs : SLL w H a cap bd) (hH : H ≤ w.heap.size) :
    Calls Tryz.prog 43 #[.agg #[.int .i64 6, .int .i64 l, .int .i64 d, .slice a bd.length cap], .bool t] w (RetB w (stF (.mk 6 l d bd) t)) := by
  have h12 : ¬ l < -1 := by omega
  have h22 : ¬ 9 < l := by omega
  have e : stF (.mk 6 l d bd) t = (l == 0 && liB bd true) := by rw [stF]; simp [h12, h22]
  rw [e]
  clear e h12 h22
  have HL := Lib.hid hl
  clear hl
  cases hl0 : (l == 0) with
  | false =>
    go_enter Tryz.func43, Tryz.ntmps43
    go_wp2_with fail
    go_ret
    exact ⟨ret_eq (congrArg Value.bool (by simp [lenz])), (Below.refl _ _).alloc (Nat.le_refl _) _⟩
  | true =>
    go_enter Tryz.func43, Tryz.ntmps43
    go_wp2_with fail
    refine (HL.out true 6 l d a cap H _ (hs.below ((Below.refl w.heap.size _).alloc (Nat.le_refl _) _) hH) (by simp; omega)).mono ?_
    rintro e w1 ⟨rfl, hb1⟩
    have hb1 : Below w.heap.size w w1 := ((Below.refl w.heap.size _).alloc (Nat.le_refl _) _).trans (hb1.mono (by simp))
    go_wp2_with fail
    go_ret
    exact ⟨ret_eq (congrArg Value.bool (by simp)), hb1⟩


set_option maxHeartbeats 1000000 in
theorem st_7 (l d : Int) (bd : List (List Fl)) (t : Bool) (a : Option Addr) (cap H : Nat) (w : World) (h1 : -1 ≤ l) (h2 : l ≤ 9) (hl : ListsC bd) (hs : SLL w H a cap bd) (hH : H ≤ w.heap.size) :
    Calls Tryz.prog 43 #[.agg #[.int .i64 7, .int .i64 l, .int .i64 d, .slice a bd.length cap], .bool t] w (RetB w (stF (.mk 7 l d bd) t)) := by
  have h12 : ¬ l < -1 := by omega
  have h22 : ¬ 9 < l := by omega
  have e : stF (.mk 7 l d bd) t = (l == 0 && liB bd false) := by rw [stF]; simp [h12, h22]
  rw [e]
  clear e h12 h22
  have HL := Lib.hid hl
  clear hl
  cases hl0 : (l == 0) with
  | false =>
    go_enter Tryz.func43, Tryz.ntmps43
    go_wp2_with fail
    go_ret
    exact ⟨ret_eq (congrArg Value.bool (by simp [lenz])), (Below.refl _ _).alloc (Nat.le_refl _) _⟩
  | true =>
    go_enter Tryz.func43, Tryz.ntmps43
    go_wp2_with fail
    refine (HL.out false 7 l d a cap H _ (hs.below ((Below.refl w.heap.size _).alloc (Nat.le_refl _) _) hH) (by simp; omega)).mono ?_
    rintro e w1 ⟨rfl, hb1⟩
    have hb1 : Below w.heap.size w w1 := ((Below.refl w.heap.size _).alloc (Nat.le_refl _) _).trans (hb1.mono (by simp))
    go_wp2_with fail
    go_ret
    exact ⟨ret_eq (congrArg Value.bool (by simp)), hb1⟩


set_option maxHeartbeats 1000000 in
theorem st_8 (l d : Int) (bd : List (List Fl)) (t : Bool) (a : Option Addr) (cap H : Nat) (w : World) (h1 : -1 ≤ l) (h2 : l ≤ 9) (hl : ListsC bd) (hs : SLL w H a cap bd) (hH : H ≤ w.heap.size) :
    Calls Tryz.prog 43 #[.agg #[.int .i64 8, .int .i64 l, .int .i64 d, .slice a bd.length cap], .bool t] w (RetB w (stF (.mk 8 l d bd) t)) := by
  have h12 : ¬ l < -1 := by omega
  have h22 : ¬ 9 < l := by omega
  have e : stF (.mk 8 l d bd) t = (l == 0 && liB bd false) := by rw [stF]; simp [h12, h22]
  rw [e]
  clear e h12 h22
  have HL := Lib.hid hl
  clear hl
  cases hl0 : (l == 0) with
  | false =>
    go_enter Tryz.func43, Tryz.ntmps43
    go_wp2_with fail
    go_ret
    exact ⟨ret_eq (congrArg Value.bool (by simp [lenz])), (Below.refl _ _).alloc (Nat.le_refl _) _⟩
  | true =>
    go_enter Tryz.func43, Tryz.ntmps43
    go_wp2_with fail
    refine (HL.out false 8 l d a cap H _ (hs.below ((Below.refl w.heap.size _).alloc (Nat.le_refl _) _) hH) (by simp; omega)).mono ?_
    rintro e w1 ⟨rfl, hb1⟩
    have hb1 : Below w.heap.size w w1 := ((Below.refl w.heap.size _).alloc (Nat.le_refl _) _).trans (hb1.mono (by simp))
    go_wp2_with fail
    go_ret
    exact ⟨ret_eq (congrArg Value.bool (by simp)), hb1⟩


set_option maxHeartbeats 1000000 in
theorem st_3 (l d : Int) (bd : List (List Fl)) (t : Bool) (a : Option Addr) (cap H : Nat) (w : World) (h1 : -1 ≤ l) (h2 : l ≤ 9) (hl : ListsC bd) (hs : SLL w H a cap bd) (hH : H ≤ w.heap.size) :
    Calls Tryz.prog 43 #[.agg #[.int .i64 3, .int .i64 l, .int .i64 d, .slice a bd.length cap], .bool t] w (RetB w (stF (.mk 3 l d bd) t)) := by
  have h12 : ¬ l < -1 := by omega
  have h22 : ¬ 9 < l := by omega
  have e : stF (.mk 3 l d bd) t = (l == 0 && decide (bd.length < 2) && liB bd false) := by rw [stF]; simp [h12, h22]
  rw [e]
  clear e h12 h22
  have HL := Lib.hid hl
  clear hl
  cases hl0 : (l == 0) with
  | false =>
    go_enter Tryz.func43, Tryz.ntmps43
    go_wp2_with fail
    go_ret
    exact ⟨ret_eq (congrArg Value.bool (by simp)), (Below.refl _ _).alloc (Nat.le_refl _) _⟩
  | true =>
    by_cases hlen : bd.length < 2
    · rw [show decide (bd.length < 2) = true from by simpa using hlen]
      go_enter Tryz.func43, Tryz.ntmps43
      go_wp2_with fail
      refine (HL.out false 3 l d a cap H _ (hs.below ((Below.refl w.heap.size _).alloc (Nat.le_refl _) _) hH) (by simp; omega)).mono ?_
      rintro e w1 ⟨rfl, hb1⟩
      have hb1 : Below w.heap.size w w1 := ((Below.refl w.heap.size _).alloc (Nat.le_refl _) _).trans (hb1.mono (by simp))
      go_wp2_with fail
      go_ret
      exact ⟨ret_eq (congrArg Value.bool (by simp)), hb1⟩
    · rw [show decide (bd.length < 2) = false from by simpa using hlen]
      go_enter Tryz.func43, Tryz.ntmps43
      go_wp2_with fail
      go_ret
      exact ⟨ret_eq (congrArg Value.bool (by simp [lenz])), (Below.refl _ _).alloc (Nat.le_refl _) _⟩


set_option maxHeartbeats 1000000 in
theorem st_4 (l d : Int) (bd : List (List Fl)) (t : Bool) (a : Option Addr) (cap H : Nat) (w : World) (h1 : -1 ≤ l) (h2 : l ≤ 9) (hl : ListsC bd) (hs : SLL w H a cap bd) (hH : H ≤ w.heap.size) :
    Calls Tryz.prog 43 #[.agg #[.int .i64 4, .int .i64 l, .int .i64 d, .slice a bd.length cap], .bool t] w (RetB w (stF (.mk 4 l d bd) t)) := by
  have h12 : ¬ l < -1 := by omega
  have h22 : ¬ 9 < l := by omega
  have e : stF (.mk 4 l d bd) t = (l == 0 && decide (bd.length < 2) && liB bd false) := by rw [stF]; simp [h12, h22]
  rw [e]
  clear e h12 h22
  have HL := Lib.hid hl
  clear hl
  cases hl0 : (l == 0) with
  | false =>
    go_enter Tryz.func43, Tryz.ntmps43
    go_wp2_with fail
    go_ret
    exact ⟨ret_eq (congrArg Value.bool (by simp)), (Below.refl _ _).alloc (Nat.le_refl _) _⟩
  | true =>
    by_cases hlen : bd.length < 2
    · rw [show decide (bd.length < 2) = true from by simpa using hlen]
      go_enter Tryz.func43, Tryz.ntmps43
      go_wp2_with fail
      refine (HL.out false 4 l d a cap H _ (hs.below ((Below.refl w.heap.size _).alloc (Nat.le_refl _) _) hH) (by simp; omega)).mono ?_
      rintro e w1 ⟨rfl, hb1⟩
      have hb1 : Below w.heap.size w w1 := ((Below.refl w.heap.size _).alloc (Nat.le_refl _) _).trans (hb1.mono (by simp))
      go_wp2_with fail
      go_ret
      exact ⟨ret_eq (congrArg Value.bool (by simp)), hb1⟩
    · rw [show decide (bd.length < 2) = false from by simpa using hlen]
      go_enter Tryz.func43, Tryz.ntmps43
      go_wp2_with fail
      go_ret
      exact ⟨ret_eq (congrArg Value.bool (by simp [lenz])), (Below.refl _ _).alloc (Nat.le_refl _) _⟩


set_option maxHeartbeats 1000000 in
theorem st_5 (l d : Int) (bd : List (List Fl)) (t : Bool) (a : Option Addr) (cap H : Nat) (w : World) (h1 : -1 ≤ l) (h2 : l ≤ 9) (hl : ListsC bd) (hs : SLL w H a cap bd) (hH : H ≤ w.heap.size) :
    Calls Tryz.prog 43 #[.agg #[.int .i64 5, .int .i64 l, .int .i64 d, .slice a bd.length cap], .bool t] w (RetB w (stF (.mk 5 l d bd) t)) := by
  have h12 : ¬ l < -1 := by omega
  have h22 : ¬ 9 < l := by omega
  have e : stF (.mk 5 l d bd) t = (l == 0 && decide (bd.length < 2) && liB bd false) := by rw [stF]; simp [h12, h22]
  rw [e]
  clear e h12 h22
  have HL := Lib.hid hl
  clear hl
  cases hl0 : (l == 0) with
  | false =>
    go_enter Tryz.func43, Tryz.ntmps43
    go_wp2_with fail
    go_ret
    exact ⟨ret_eq (congrArg Value.bool (by simp)), (Below.refl _ _).alloc (Nat.le_refl _) _⟩
  | true =>
    by_cases hlen : bd.length < 2
    · rw [show decide (bd.length < 2) = true from by simpa using hlen]
      go_enter Tryz.func43, Tryz.ntmps43
      go_wp2_with fail
      refine (HL.out false 5 l d a cap H _ (hs.below ((Below.refl w.heap.size _).alloc (Nat.le_refl _) _) hH) (by simp; omega)).mono ?_
      rintro e w1 ⟨rfl, hb1⟩
      have hb1 : Below w.heap.size w w1 := ((Below.refl w.heap.size _).alloc (Nat.le_refl _) _).trans (hb1.mono (by simp))
      go_wp2_with fail
      go_ret
      exact ⟨ret_eq (congrArg Value.bool (by simp)), hb1⟩
    · rw [show decide (bd.length < 2) = false from by simpa using hlen]
      go_enter Tryz.func43, Tryz.ntmps43
      go_wp2_with fail
      go_ret
      exact ⟨ret_eq (congrArg Value.bool (by simp [lenz])), (Below.refl _ _).alloc (Nat.le_refl _) _⟩


set_option maxHeartbeats 1000000 in
theorem st_9 (l d : Int) (bd : List (List Fl)) (t : Bool) (a : Option Addr) (cap H : Nat) (w : World) (h1 : -1 ≤ l) (h2 : l ≤ 9) (hl : ListsC bd) (hs : SLL w H a cap bd) (hH : H ≤ w.heap.size) :
    Calls Tryz.prog 43 #[.agg #[.int .i64 9, .int .i64 l, .int .i64 d, .slice a bd.length cap], .bool t] w (RetB w (stF (.mk 9 l d bd) t)) := by
  have h12 : ¬ l < -1 := by omega
  have h22 : ¬ 9 < l := by omega
  have e : stF (.mk 9 l d bd) t = (l == 0 && decide (bd.length < 2) && liB bd false) := by rw [stF]; simp [h12, h22]
  rw [e]
  clear e h12 h22
  have HL := Lib.hid hl
  clear hl
  cases hl0 : (l == 0) with
  | false =>
    go_enter Tryz.func43, Tryz.ntmps43
    go_wp2_with fail
    go_ret
    exact ⟨ret_eq (congrArg Value.bool (by simp)), (Below.refl _ _).alloc (Nat.le_refl _) _⟩
  | true =>
    by_cases hlen : bd.length < 2
    · rw [show decide (bd.length < 2) = true from by simpa using hlen]
      go_enter Tryz.func43, Tryz.ntmps43
      go_wp2_with fail
      refine (HL.out false 9 l d a cap H _ (hs.below ((Below.refl w.heap.size _).alloc (Nat.le_refl _) _) hH) (by simp; omega)).mono ?_
      rintro e w1 ⟨rfl, hb1⟩
      have hb1 : Below w.heap.size w w1 := ((Below.refl w.heap.size _).alloc (Nat.le_refl _) _).trans (hb1.mono (by simp))
      go_wp2_with fail
      go_ret
      exact ⟨ret_eq (congrArg Value.bool (by simp)), hb1⟩
    · rw [show decide (bd.length < 2) = false from by simpa using hlen]
      go_enter Tryz.func43, Tryz.ntmps43
      go_wp2_with fail
      go_ret
      exact ⟨ret_eq (congrArg Value.bool (by simp [lenz])), (Below.refl _ _).alloc (Nat.le_refl _) _⟩


set_option maxHeartbeats 1000000 in
theorem st_19 (l d : Int) (bd : List (List Fl)) (t : Bool) (a : Option Addr) (cap H : Nat) (w : World) (h1 : -1 ≤ l) (h2 : l ≤ 9) (hl : ListsC bd) (hs : SLL w H a cap bd) (hH : H ≤ w.heap.size) :
    Calls Tryz.prog 43 #[.agg #[.int .i64 19, .int .i64 l, .int .i64 d, .slice a bd.length cap], .bool t] w (RetB w (stF (.mk 19 l d bd) t)) := by
  have h12 : ¬ l < -1 := by omega
  have h22 : ¬ 9 < l := by omega
  have e : stF (.mk 19 l d bd) t = (l == 0 && decide (bd.length < 2) && liB bd false) := by rw [stF]; simp [h12, h22]
  rw [e]
  clear e h12 h22
  have HL := Lib.hid hl
  clear hl
  cases hl0 : (l == 0) with
  | false =>
    go_enter Tryz.func43, Tryz.ntmps43
    go_wp2_with fail
    go_ret
    exact ⟨ret_eq (congrArg Value.bool (by simp)), (Below.refl _ _).alloc (Nat.le_refl _) _⟩
  | true =>
    by_cases hlen : bd.length < 2
    · rw [show decide (bd.length < 2) = true from by simpa using hlen]
      go_enter Tryz.func43, Tryz.ntmps43
      go_wp2_with fail
      refine (HL.out false 19 l d a cap H _ (hs.below ((Below.refl w.heap.size _).alloc (Nat.le_refl _) _) hH) (by simp; omega)).mono ?_
      rintro e w1 ⟨rfl, hb1⟩
      have hb1 : Below w.heap.size w w1 := ((Below.refl w.heap.size _).alloc (Nat.le_refl _) _).trans (hb1.mono (by simp))
      go_wp2_with fail
      go_ret
      exact ⟨ret_eq (congrArg Value.bool (by simp)), hb1⟩
    · rw [show decide (bd.length < 2) = false from by simpa using hlen]
      go_enter Tryz.func43, Tryz.ntmps43
      go_wp2_with fail
      go_ret
      exact ⟨ret_eq (congrArg Value.bool (by simp [lenz])), (Below.refl _ _).alloc (Nat.le_refl _) _⟩


end Go.Proofs.YtpodifbgfcclbaaGreatDoor
