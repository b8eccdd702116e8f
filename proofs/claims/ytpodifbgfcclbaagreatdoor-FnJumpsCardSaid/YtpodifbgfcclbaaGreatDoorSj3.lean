/- The rules for labels: the lists within a statement. -/
import Derived.Test.YtpodifbgfcclbaaGreatDoorSj1
set_option linter.unusedVariables false
set_option linter.unusedSimpArgs false
namespace Go.Proofs.YtpodifbgfcclbaaGreatDoor
open Go.RowKit
attribute [local go_sem] Nat.lt_add_one_of_lt

theorem SLL.ups {w w' : World} {a : Option Addr} {cap : Nat} {l : List (List Fl)} (h : SLL w w.heap.size a cap l) (hb : Below w.heap.size w w') : SLL w' w'.heap.size a cap l := h.keep (fun k hk => hb.block k hk) hb.size
theorem SL.ups {w w' : World} {a : Option Addr} {cap : Nat} {l : List Fl} (h : SL w w.heap.size a cap l) (hb : Below w.heap.size w w') : SL w' w'.heap.size a cap l := h.keep (fun k hk => hb.block k hk) hb.size
def RetBl (H : Nat) (w : World) (bl : List (List Fl)) (e : Ending) (w' : World) : Prop := ∃ a cap, e = .returned (.slice a bl.length cap) ∧ SLL w' H a cap bl ∧ Below w.heap.size w w'
set_option maxHeartbeats 2000000 in
theorem bl_2 (l d : Int) (bd : List (List Fl)) (a : Option Addr) (cap : Nat) (H : Nat) (w : World) (hs : SLL w H a cap bd) (hH : H ≤ w.heap.size) (hn : bd.length < 3) : Calls Tryz.prog 52 #[.agg #[.int .i64 2, .int .i64 l, .int .i64 d, .slice a bd.length cap]] w (RetBl H w (bel (.mk 2 l d bd))) := by
  have e : bel (.mk 2 l d bd) = bd := by rw [bel, if_pos (by decide)]
  rw [e]
  clear e
  have hcap := hs.1
  rcases bd with _ | ⟨y, _ | ⟨z, _ | ⟨z2, r⟩⟩⟩
  · cases a with
    | none =>
      clear hs hH
      go_enter Tryz.func52, Tryz.ntmps52
      go_wp2_with fail
      refine bodyPost_ret (results_tmp rfl _ _ _) rfl ?_
      exact ⟨_, _, rfl, ⟨by simp, by simp, 0, 0, fun h => absurd rfl h, ELL_nil⟩, (Below.refl _ _).alloc (Nat.le_refl _) _⟩
    | some q =>
      clear hs hH
      by_cases hz : cap = 0
      · subst hz
        go_enter Tryz.func52, Tryz.ntmps52
        go_wp2_with fail
        refine bodyPost_ret (results_tmp rfl _ _ _) rfl ?_
        exact ⟨_, _, rfl, ⟨by simp, by simp, 0, 0, fun h => absurd rfl h, ELL_nil⟩, (Below.refl _ _).alloc (Nat.le_refl _) _⟩
      · go_enter Tryz.func52, Tryz.ntmps52
        go_wp2_with fail
        refine bodyPost_ret (results_tmp rfl _ _ _) rfl ?_
        exact ⟨_, _, rfl, ⟨by simp, by simp, 0, 0, fun h => absurd rfl h, ELL_nil⟩, (Below.refl _ _).alloc (Nat.le_refl _) _⟩
  · obtain ⟨q, hq⟩ : ∃ q, a = some q := by
      obtain ⟨_, _, b, o, h3, _⟩ := hs
      exact ⟨_, h3 (by simp)⟩
    subst hq
    have hs' := SLL.below ((Below.refl w.heap.size w).alloc (Nat.le_refl _) (.cells #[.int .i64 2, .int .i64 l, .int .i64 d, .slice (some q) 1 cap] 27)) hH hs
    have HS := Lib.hid hs'
    have hc1 : (1 : Int) ≤ (cap : Int) := by simp at hcap; omega
    have hz : ¬ cap = 0 := by simp at hcap; omega
    clear hs hs' hH
    go_enter Tryz.func52, Tryz.ntmps52
    go_wp2_with fail
    refine bodyPost_ret (results_tmp rfl _ _ _) rfl ?_
    exact ⟨_, _, rfl, HS.out, (Below.refl _ _).alloc (Nat.le_refl _) _⟩
  · obtain ⟨q, hq⟩ : ∃ q, a = some q := by
      obtain ⟨_, _, b, o, h3, _⟩ := hs
      exact ⟨_, h3 (by simp)⟩
    subst hq
    have hs' := SLL.below ((Below.refl w.heap.size w).alloc (Nat.le_refl _) (.cells #[.int .i64 2, .int .i64 l, .int .i64 d, .slice (some q) 2 cap] 27)) hH hs
    have HS := Lib.hid hs'
    have hc2 : (2 : Int) ≤ (cap : Int) := by simp at hcap; omega
    have hz : ¬ cap = 0 := by simp at hcap; omega
    clear hs hs' hH
    go_enter Tryz.func52, Tryz.ntmps52
    go_wp2_with fail
    refine bodyPost_ret (results_tmp rfl _ _ _) rfl ?_
    exact ⟨_, _, rfl, HS.out, (Below.refl _ _).alloc (Nat.le_refl _) _⟩
  · simp at hn; omega
set_option maxHeartbeats 2000000 in
theorem bl_3 (l d : Int) (bd : List (List Fl)) (a : Option Addr) (cap : Nat) (H : Nat) (w : World) (hs : SLL w H a cap bd) (hH : H ≤ w.heap.size) (hn : bd.length < 2) : Calls Tryz.prog 52 #[.agg #[.int .i64 3, .int .i64 l, .int .i64 d, .slice a bd.length cap]] w (RetBl H w (bel (.mk 3 l d bd))) := by
  have e : bel (.mk 3 l d bd) = bd := by rw [bel, if_pos (by decide)]
  rw [e]
  clear e
  have hcap := hs.1
  rcases bd with _ | ⟨y, _ | ⟨z, r⟩⟩
  · cases a with
    | none =>
      clear hs hH
      go_enter Tryz.func52, Tryz.ntmps52
      go_wp2_with fail
      refine bodyPost_ret (results_tmp rfl _ _ _) rfl ?_
      exact ⟨_, _, rfl, ⟨by simp, by simp, 0, 0, fun h => absurd rfl h, ELL_nil⟩, (Below.refl _ _).alloc (Nat.le_refl _) _⟩
    | some q =>
      clear hs hH
      by_cases hz : cap = 0
      · subst hz
        go_enter Tryz.func52, Tryz.ntmps52
        go_wp2_with fail
        refine bodyPost_ret (results_tmp rfl _ _ _) rfl ?_
        exact ⟨_, _, rfl, ⟨by simp, by simp, 0, 0, fun h => absurd rfl h, ELL_nil⟩, (Below.refl _ _).alloc (Nat.le_refl _) _⟩
      · go_enter Tryz.func52, Tryz.ntmps52
        go_wp2_with fail
        refine bodyPost_ret (results_tmp rfl _ _ _) rfl ?_
        exact ⟨_, _, rfl, ⟨by simp, by simp, 0, 0, fun h => absurd rfl h, ELL_nil⟩, (Below.refl _ _).alloc (Nat.le_refl _) _⟩
  · obtain ⟨q, hq⟩ : ∃ q, a = some q := by
      obtain ⟨_, _, b, o, h3, _⟩ := hs
      exact ⟨_, h3 (by simp)⟩
    subst hq
    have hs' := SLL.below ((Below.refl w.heap.size w).alloc (Nat.le_refl _) (.cells #[.int .i64 3, .int .i64 l, .int .i64 d, .slice (some q) 1 cap] 27)) hH hs
    have HS := Lib.hid hs'
    have hc1 : (1 : Int) ≤ (cap : Int) := by simp at hcap; omega
    have hz : ¬ cap = 0 := by simp at hcap; omega
    clear hs hs' hH
    go_enter Tryz.func52, Tryz.ntmps52
    go_wp2_with fail
    refine bodyPost_ret (results_tmp rfl _ _ _) rfl ?_
    exact ⟨_, _, rfl, HS.out, (Below.refl _ _).alloc (Nat.le_refl _) _⟩
  · simp at hn; omega
set_option maxHeartbeats 2000000 in
theorem bl_4 (l d : Int) (bd : List (List Fl)) (a : Option Addr) (cap : Nat) (H : Nat) (w : World) (hs : SLL w H a cap bd) (hH : H ≤ w.heap.size) (hn : bd.length < 2) : Calls Tryz.prog 52 #[.agg #[.int .i64 4, .int .i64 l, .int .i64 d, .slice a bd.length cap]] w (RetBl H w (bel (.mk 4 l d bd))) := by
  have e : bel (.mk 4 l d bd) = bd := by rw [bel, if_pos (by decide)]
  rw [e]
  clear e
  have hcap := hs.1
  rcases bd with _ | ⟨y, _ | ⟨z, r⟩⟩
  · cases a with
    | none =>
      clear hs hH
      go_enter Tryz.func52, Tryz.ntmps52
      go_wp2_with fail
      refine bodyPost_ret (results_tmp rfl _ _ _) rfl ?_
      exact ⟨_, _, rfl, ⟨by simp, by simp, 0, 0, fun h => absurd rfl h, ELL_nil⟩, (Below.refl _ _).alloc (Nat.le_refl _) _⟩
    | some q =>
      clear hs hH
      by_cases hz : cap = 0
      · subst hz
        go_enter Tryz.func52, Tryz.ntmps52
        go_wp2_with fail
        refine bodyPost_ret (results_tmp rfl _ _ _) rfl ?_
        exact ⟨_, _, rfl, ⟨by simp, by simp, 0, 0, fun h => absurd rfl h, ELL_nil⟩, (Below.refl _ _).alloc (Nat.le_refl _) _⟩
      · go_enter Tryz.func52, Tryz.ntmps52
        go_wp2_with fail
        refine bodyPost_ret (results_tmp rfl _ _ _) rfl ?_
        exact ⟨_, _, rfl, ⟨by simp, by simp, 0, 0, fun h => absurd rfl h, ELL_nil⟩, (Below.refl _ _).alloc (Nat.le_refl _) _⟩
  · obtain ⟨q, hq⟩ : ∃ q, a = some q := by
      obtain ⟨_, _, b, o, h3, _⟩ := hs
      exact ⟨_, h3 (by simp)⟩
    subst hq
    have hs' := SLL.below ((Below.refl w.heap.size w).alloc (Nat.le_refl _) (.cells #[.int .i64 4, .int .i64 l, .int .i64 d, .slice (some q) 1 cap] 27)) hH hs
    have HS := Lib.hid hs'
    have hc1 : (1 : Int) ≤ (cap : Int) := by simp at hcap; omega
    have hz : ¬ cap = 0 := by simp at hcap; omega
    clear hs hs' hH
    go_enter Tryz.func52, Tryz.ntmps52
    go_wp2_with fail
    refine bodyPost_ret (results_tmp rfl _ _ _) rfl ?_
    exact ⟨_, _, rfl, HS.out, (Below.refl _ _).alloc (Nat.le_refl _) _⟩
  · simp at hn; omega
set_option maxHeartbeats 2000000 in
theorem bl_5 (l d : Int) (bd : List (List Fl)) (a : Option Addr) (cap : Nat) (H : Nat) (w : World) (hs : SLL w H a cap bd) (hH : H ≤ w.heap.size) (hn : bd.length < 2) : Calls Tryz.prog 52 #[.agg #[.int .i64 5, .int .i64 l, .int .i64 d, .slice a bd.length cap]] w (RetBl H w (bel (.mk 5 l d bd))) := by
  have e : bel (.mk 5 l d bd) = bd := by rw [bel, if_pos (by decide)]
  rw [e]
  clear e
  have hcap := hs.1
  rcases bd with _ | ⟨y, _ | ⟨z, r⟩⟩
  · cases a with
    | none =>
      clear hs hH
      go_enter Tryz.func52, Tryz.ntmps52
      go_wp2_with fail
      refine bodyPost_ret (results_tmp rfl _ _ _) rfl ?_
      exact ⟨_, _, rfl, ⟨by simp, by simp, 0, 0, fun h => absurd rfl h, ELL_nil⟩, (Below.refl _ _).alloc (Nat.le_refl _) _⟩
    | some q =>
      clear hs hH
      by_cases hz : cap = 0
      · subst hz
        go_enter Tryz.func52, Tryz.ntmps52
        go_wp2_with fail
        refine bodyPost_ret (results_tmp rfl _ _ _) rfl ?_
        exact ⟨_, _, rfl, ⟨by simp, by simp, 0, 0, fun h => absurd rfl h, ELL_nil⟩, (Below.refl _ _).alloc (Nat.le_refl _) _⟩
      · go_enter Tryz.func52, Tryz.ntmps52
        go_wp2_with fail
        refine bodyPost_ret (results_tmp rfl _ _ _) rfl ?_
        exact ⟨_, _, rfl, ⟨by simp, by simp, 0, 0, fun h => absurd rfl h, ELL_nil⟩, (Below.refl _ _).alloc (Nat.le_refl _) _⟩
  · obtain ⟨q, hq⟩ : ∃ q, a = some q := by
      obtain ⟨_, _, b, o, h3, _⟩ := hs
      exact ⟨_, h3 (by simp)⟩
    subst hq
    have hs' := SLL.below ((Below.refl w.heap.size w).alloc (Nat.le_refl _) (.cells #[.int .i64 5, .int .i64 l, .int .i64 d, .slice (some q) 1 cap] 27)) hH hs
    have HS := Lib.hid hs'
    have hc1 : (1 : Int) ≤ (cap : Int) := by simp at hcap; omega
    have hz : ¬ cap = 0 := by simp at hcap; omega
    clear hs hs' hH
    go_enter Tryz.func52, Tryz.ntmps52
    go_wp2_with fail
    refine bodyPost_ret (results_tmp rfl _ _ _) rfl ?_
    exact ⟨_, _, rfl, HS.out, (Below.refl _ _).alloc (Nat.le_refl _) _⟩
  · simp at hn; omega
set_option maxHeartbeats 2000000 in
theorem bl_9 (l d : Int) (bd : List (List Fl)) (a : Option Addr) (cap : Nat) (H : Nat) (w : World) (hs : SLL w H a cap bd) (hH : H ≤ w.heap.size) (hn : bd.length < 2) : Calls Tryz.prog 52 #[.agg #[.int .i64 9, .int .i64 l, .int .i64 d, .slice a bd.length cap]] w (RetBl H w (bel (.mk 9 l d bd))) := by
  have e : bel (.mk 9 l d bd) = bd := by rw [bel, if_pos (by decide)]
  rw [e]
  clear e
  have hcap := hs.1
  rcases bd with _ | ⟨y, _ | ⟨z, r⟩⟩
  · cases a with
    | none =>
      clear hs hH
      go_enter Tryz.func52, Tryz.ntmps52
      go_wp2_with fail
      refine bodyPost_ret (results_tmp rfl _ _ _) rfl ?_
      exact ⟨_, _, rfl, ⟨by simp, by simp, 0, 0, fun h => absurd rfl h, ELL_nil⟩, (Below.refl _ _).alloc (Nat.le_refl _) _⟩
    | some q =>
      clear hs hH
      by_cases hz : cap = 0
      · subst hz
        go_enter Tryz.func52, Tryz.ntmps52
        go_wp2_with fail
        refine bodyPost_ret (results_tmp rfl _ _ _) rfl ?_
        exact ⟨_, _, rfl, ⟨by simp, by simp, 0, 0, fun h => absurd rfl h, ELL_nil⟩, (Below.refl _ _).alloc (Nat.le_refl _) _⟩
      · go_enter Tryz.func52, Tryz.ntmps52
        go_wp2_with fail
        refine bodyPost_ret (results_tmp rfl _ _ _) rfl ?_
        exact ⟨_, _, rfl, ⟨by simp, by simp, 0, 0, fun h => absurd rfl h, ELL_nil⟩, (Below.refl _ _).alloc (Nat.le_refl _) _⟩
  · obtain ⟨q, hq⟩ : ∃ q, a = some q := by
      obtain ⟨_, _, b, o, h3, _⟩ := hs
      exact ⟨_, h3 (by simp)⟩
    subst hq
    have hs' := SLL.below ((Below.refl w.heap.size w).alloc (Nat.le_refl _) (.cells #[.int .i64 9, .int .i64 l, .int .i64 d, .slice (some q) 1 cap] 27)) hH hs
    have HS := Lib.hid hs'
    have hc1 : (1 : Int) ≤ (cap : Int) := by simp at hcap; omega
    have hz : ¬ cap = 0 := by simp at hcap; omega
    clear hs hs' hH
    go_enter Tryz.func52, Tryz.ntmps52
    go_wp2_with fail
    refine bodyPost_ret (results_tmp rfl _ _ _) rfl ?_
    exact ⟨_, _, rfl, HS.out, (Below.refl _ _).alloc (Nat.le_refl _) _⟩
  · simp at hn; omega
set_option maxHeartbeats 2000000 in
theorem bl_6 (l d : Int) (bd : List (List Fl)) (a : Option Addr) (cap : Nat) (H : Nat) (w : World) (hs : SLL w H a cap bd) (hH : H ≤ w.heap.size) : Calls Tryz.prog 52 #[.agg #[.int .i64 6, .int .i64 l, .int .i64 d, .slice a bd.length cap]] w (RetBl H w (bel (.mk 6 l d bd))) := by
  have e : bel (.mk 6 l d bd) = bd := by rw [bel, if_pos (by decide)]
  rw [e]
  clear e
  have hs' := SLL.below ((Below.refl w.heap.size w).alloc (Nat.le_refl _) (.cells #[.int .i64 6, .int .i64 l, .int .i64 d, .slice a bd.length cap] 27)) hH hs
  have HS := Lib.hid hs'
  clear hs hs' hH
  go_enter Tryz.func52, Tryz.ntmps52
  go_wp2_with fail
  refine bodyPost_ret (results_tmp rfl _ _ _) rfl ?_
  exact ⟨_, _, rfl, HS.out, (Below.refl _ _).alloc (Nat.le_refl _) _⟩
set_option maxHeartbeats 2000000 in
theorem bl_7 (l d : Int) (bd : List (List Fl)) (a : Option Addr) (cap : Nat) (H : Nat) (w : World) (hs : SLL w H a cap bd) (hH : H ≤ w.heap.size) : Calls Tryz.prog 52 #[.agg #[.int .i64 7, .int .i64 l, .int .i64 d, .slice a bd.length cap]] w (RetBl H w (bel (.mk 7 l d bd))) := by
  have e : bel (.mk 7 l d bd) = bd := by rw [bel, if_pos (by decide)]
  rw [e]
  clear e
  have hs' := SLL.below ((Below.refl w.heap.size w).alloc (Nat.le_refl _) (.cells #[.int .i64 7, .int .i64 l, .int .i64 d, .slice a bd.length cap] 27)) hH hs
  have HS := Lib.hid hs'
  clear hs hs' hH
  go_enter Tryz.func52, Tryz.ntmps52
  go_wp2_with fail
  refine bodyPost_ret (results_tmp rfl _ _ _) rfl ?_
  exact ⟨_, _, rfl, HS.out, (Below.refl _ _).alloc (Nat.le_refl _) _⟩
set_option maxHeartbeats 2000000 in
theorem bl_8 (l d : Int) (bd : List (List Fl)) (a : Option Addr) (cap : Nat) (H : Nat) (w : World) (hs : SLL w H a cap bd) (hH : H ≤ w.heap.size) : Calls Tryz.prog 52 #[.agg #[.int .i64 8, .int .i64 l, .int .i64 d, .slice a bd.length cap]] w (RetBl H w (bel (.mk 8 l d bd))) := by
  have e : bel (.mk 8 l d bd) = bd := by rw [bel, if_pos (by decide)]
  rw [e]
  clear e
  have hs' := SLL.below ((Below.refl w.heap.size w).alloc (Nat.le_refl _) (.cells #[.int .i64 8, .int .i64 l, .int .i64 d, .slice a bd.length cap] 27)) hH hs
  have HS := Lib.hid hs'
  clear hs hs' hH
  go_enter Tryz.func52, Tryz.ntmps52
  go_wp2_with fail
  refine bodyPost_ret (results_tmp rfl _ _ _) rfl ?_
  exact ⟨_, _, rfl, HS.out, (Below.refl _ _).alloc (Nat.le_refl _) _⟩
set_option maxHeartbeats 2000000 in
theorem bl_oth (k : Int) (l d : Int) (bd : List (List Fl)) (a : Option Addr) (cap : Nat) (H : Nat) (w : World) (hs : SLL w H a cap bd) (hH : H ≤ w.heap.size) (h2 : ¬ k = 2) (h3 : ¬ k = 3) (h4 : ¬ k = 4) (h5 : ¬ k = 5) (h9 : ¬ k = 9) (h6 : ¬ k = 6) (h7 : ¬ k = 7) (h8 : ¬ k = 8) : Calls Tryz.prog 52 #[.agg #[.int .i64 k, .int .i64 l, .int .i64 d, .slice a bd.length cap]] w (RetBl H w (bel (.mk k l d bd))) := by
  have e : bel (.mk k l d bd) = [] := by
    rw [bel, if_neg]
    unfold in1 in2
    simp [h2, h3, h4, h5, h9, h6, h7, h8]
  rw [e]
  have q2 : (k == 2) = false := by simpa using h2
  have q3 : (k == 3) = false := by simpa using h3
  have q4 : (k == 4) = false := by simpa using h4
  have q5 : (k == 5) = false := by simpa using h5
  have q9 : (k == 9) = false := by simpa using h9
  have q6 : (k == 6) = false := by simpa using h6
  have q7 : (k == 7) = false := by simpa using h7
  have q8 : (k == 8) = false := by simpa using h8
  clear e hs hH h2 h3 h4 h5 h9 h6 h7 h8
  go_enter Tryz.func52, Tryz.ntmps52
  go_wp2_with fail
  refine bodyPost_ret (results_tmp rfl _ _ _) rfl ?_
  exact ⟨_, _, rfl, SLL.nil, (Below.refl _ _).alloc (Nat.le_refl _) _⟩
theorem below_any (k : Int) (l d : Int) (bd : List (List Fl)) (a : Option Addr) (cap : Nat) (H : Nat) (w : World) (hs : SLL w H a cap bd) (hH : H ≤ w.heap.size) (h1 : k = 2 → bd.length < 3) (h2 : k = 3 ∨ k = 4 ∨ k = 5 ∨ k = 9 → bd.length < 2) : Calls Tryz.prog 52 #[.agg #[.int .i64 k, .int .i64 l, .int .i64 d, .slice a bd.length cap]] w (RetBl H w (bel (.mk k l d bd))) := by
  by_cases q2 : k = 2
  · subst q2; exact bl_2 l d bd a cap H w hs hH (h1 rfl)
  by_cases q3 : k = 3
  · subst q3; exact bl_3 l d bd a cap H w hs hH (h2 (by simp))
  by_cases q4 : k = 4
  · subst q4; exact bl_4 l d bd a cap H w hs hH (h2 (by simp))
  by_cases q5 : k = 5
  · subst q5; exact bl_5 l d bd a cap H w hs hH (h2 (by simp))
  by_cases q9 : k = 9
  · subst q9; exact bl_9 l d bd a cap H w hs hH (h2 (by simp))
  by_cases q6 : k = 6
  · subst q6; exact bl_6 l d bd a cap H w hs hH
  by_cases q7 : k = 7
  · subst q7; exact bl_7 l d bd a cap H w hs hH
  by_cases q8 : k = 8
  · subst q8; exact bl_8 l d bd a cap H w hs hH
  exact bl_oth k l d bd a cap H w hs hH q2 q3 q4 q5 q9 q6 q7 q8
end Go.Proofs.YtpodifbgfcclbaaGreatDoor
