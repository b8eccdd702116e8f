/- What is reported: the checker in memory. -/
import Derived.Test.YtpodifbgfcclbaaGreatDoorMk5
import Derived.Test.YtpodifbgfcclbaaGreatDoorTa
import Derived.Test.YtpodifbgfcclbaaGreatDoorJmp1
import Derived.Deep.RegionHeld3
import Derived.Deep.RegionLaw
import Derived.Deep.AppendLies
import Derived.OwnWalk
import Derived.LoopN
set_option linter.unusedVariables false
set_option linter.unusedSimpArgs false
namespace Go.Proofs.YtpodifbgfcclbaaGreatDoor
open Go.RowKit
attribute [local go_sem] Nat.lt_add_one_of_lt

theorem info201 : ∃ j z, Tryz.prog.info? 201 = some j ∧ j.zero = some z ∧ z.cells.size = 3 ∧ j.size = 3 ∧ j.bytes = 40 := by
  have h : (Tryz.prog.info? 201).map (fun j => (j.zero.map (fun z => z.cells.size), j.size, j.bytes)) = some (some 3, 3, 40) := by kernel_rfl
  cases hj : Tryz.prog.info? 201 with
  | none => rw [hj] at h; cases h
  | some j =>
    rw [hj] at h
    simp only [Option.map_some, Option.some.injEq, Prod.mk.injEq] at h
    obtain ⟨h1, h2, h3⟩ := h
    cases hz : j.zero with
    | none => rw [hz] at h1; cases h1
    | some z => rw [hz] at h1; simp at h1; exact ⟨j, z, rfl, hz, h1, h2, h3⟩
theorem ta_9 (X : Nat) (v : Value) (w : World) : (Instr.typeAssert (.iface 9 v) X 9 true).run Tryz.prog w = .ok (.tuple #[v, .bool true]) w := by
  simp [Instr.typeAssert, go_sem]
theorem row_blk {w : World} {base e size n : Nat} {v : Value} {xs : List Value} (h : w.ownsRow base e size v n xs) {g : Nat} (hg : v.ownBlock = some g) : base ≤ g ∧ g < w.heap.size ∧ ∃ cur, w.heap[g]? = some (.cells cur e (0, 0)) := by
  rcases h.2 with ⟨rfl, _⟩ | ⟨g', cap, cur, rfl, h1, h2, _⟩
  · cases hg
  · cases hg
    exact ⟨h1, (Array.getElem?_eq_some_iff.1 h2).1, cur, h2⟩
theorem row_keep {w w' : World} {base e size n : Nat} {v : Value} {xs : List Value} (h : w.ownsRow base e size v n xs) (hk : ∀ g, v.ownBlock = some g → w'.heap[g]? = w.heap[g]?) : w'.ownsRow base e size v n xs := by
  refine ⟨h.1, ?_⟩
  rcases h.2 with h2 | ⟨g, cap, cur, hv, h1, h2, h3⟩
  · exact .inl h2
  · exact .inr ⟨g, cap, cur, hv, h1, (hk g (by rw [hv]; rfl)).trans h2, h3⟩
/-- The checker C has reported k times. -/
def Chk (H0 C : Nat) (k : Nat) (w : World) : Prop := H0 ≤ C ∧ ∃ v xs, w.heap[C]? = some (.cells #[.map none, v] 72) ∧ w.ownsRow H0 201 3 v k xs
/-- Old blocks are as they were, but for the checker and its row. -/
def ChkF (H0 C : Nat) (w w' : World) : Prop := ∃ r : Option Nat, (∀ g, r = some g → H0 ≤ g ∧ ∃ cs f, w.heap[g]? = some (.cells cs 201 f)) ∧ w'.os = w.os ∧ w'.tape = w.tape ∧ w'.output = w.output ∧ w.heap.size ≤ w'.heap.size ∧ ∀ k, k < w.heap.size → k ≠ C → some k ≠ r → w'.heap[k]? = w.heap[k]?

set_option maxRecDepth 100000 in
set_option maxHeartbeats 4000000 in
theorem errorf_any (H0 C k b m cap : Nat) (at_ : Int) (code fmt s : ByteArray) (w : World) (hc : Chk H0 C k w) (hH : H0 ≤ w.heap.size) (hb : w.cell? ⟨b, 0, none⟩ = some (.iface 9 (.string s))) (hm : 1 ≤ m) (hk : k ≤ 100000) :
    Calls Tryz.prog 59 #[.pointer (some ⟨C, 0, none⟩), .int .i64 at_, .string code, .string fmt, .slice (some ⟨b, 0, none⟩) m cap] w fun e w' => e = .returned (.tuple #[]) ∧ Chk H0 C (k + 1) w' ∧ ChkF H0 C w w' := by
  obtain ⟨hHC, v, xs, hC, hown⟩ := hc
  obtain ⟨j, z, hj, hz, hzs, hj1, hj2⟩ := info201
  have hbl := World.block_lt_of_cell? w _ hb
  have hCl : C < w.heap.size := (Array.getElem?_eq_some_iff.1 hC).1
  have hm0 : (0 : Int) < (m : Int) := by omega
  have hC0 : w.cell? ⟨C, 0, none⟩ = some (.map none) := by simp [World.cell?, hC]
  have hC1 : w.cell? ⟨C, 1, none⟩ = some v := by simp [World.cell?, hC]
  have hCf : ∀ o, w.frozen? ⟨C, o, none⟩ = false := fun o => by simp [World.frozen?, hC]
  have hta := ta_9
  go_enter Tryz.func59, Tryz.ntmps59
  go_wp2_with fail
  refine wp_loop_rounds 1 ?_
  rw [rounds_succ]
  go_wp2_with fail
  have hne : some C ≠ v.ownBlock := fun e => by
    obtain ⟨_, _, cs, h⟩ := row_blk hown e.symm
    rw [h] at hC
    cases hC
  go_region_law (first
    | (refine step_append_lies _ (by rfl) _ _ _ (by rfl) H0 201 j z 3 40 Tryz.underlying48 hj hz hj1 hj2 hzs (by omega) v k xs (by rfl) (by first | exact ((hown.alloc _).alloc _).drew | exact (hown.alloc _).drew.alloc _)
        ⟨w.heap.size + 1, 0, none⟩ 1 1 [.string code, .string s, .int .i64 at_] (by rfl) (by rfl) (World.news_of_block (cs := #[.string code, .string s, .int .i64 at_]) (t := 201) (fr := (0, 0)) (by have h9 := heap_alloc_new (w.alloc (.cells #[.string code, .string s, .int .i64 at_] 201)) (.cells #[.string code, .string s, .int .i64 at_] 201); simp only [World.size_alloc] at h9; exact h9)) (by simp [Value.oneCell']) (by omega) (by unfold maxLen; omega) (by omega) (by simp; omega) _ rfl ?_; intro gg cap1 w1 hown1 hgrow hat hlt
       have hc1 : w1.cell? ⟨C, 1, none⟩ = some v := (hgrow.cell_far ⟨C, 1, none⟩ (by simp; omega) hne).trans ((World.cell?_alloc_past _ _ _ (by simp; omega)).trans ((World.cell?_alloc_past _ _ _ hCl).trans hC1))
       have hf1 : w1.frozen? ⟨C, 1, none⟩ = false := (hgrow.frozen_far ⟨C, 1, none⟩ (by simp; omega) hne).trans ((World.frozen?_alloc_past _ _ _ (by simp; omega)).trans ((World.frozen?_alloc_past _ _ _ hCl).trans (hCf 1)))))
  all_goals
    have hb1 : ∀ j, j < w.heap.size → some j ≠ v.ownBlock → w1.heap[j]? = w.heap[j]? := fun j h1 h2 => (hgrow.block j (by simp; omega) h2).trans (((Below.heap_alloc _ _ _ (by simp; omega))).trans (Below.heap_alloc _ _ _ h1))
    have hC2 : w1.heap[C]? = some (.cells #[.map none, v] 72) := (hb1 C hCl hne).trans hC
    have hown2 : (w1.setCell ⟨C, 1, none⟩ (.slice (some ⟨gg, 0, none⟩) (k + 1) cap1)).ownsRow H0 201 3 (.slice (some ⟨gg, 0, none⟩) (k + 1) cap1) (k + 1) (xs ++ [.string code, .string s, .int .i64 at_]) := row_keep hown1 fun g hg => by
      obtain ⟨_, _, cs, h⟩ := row_blk hown1 hg
      refine blk_far _ ?_
      rintro rfl
      rw [h] at hC2
      cases hC2
    have hsz := hgrow.size
    simp at hsz
    have H1 := Lib.hid hown2
    have H2 := Lib.hid hb1
    have H3 := Lib.hid hC2
    have H4 := Lib.hid hgrow
    clear hown2 hb1 hC2 hgrow hown1 hc1 hf1
    go_wp2_with fail
    go_end0
    refine ⟨rfl, ⟨hHC, _, _, ?_, H1.out⟩, v.ownBlock, fun g hg => ?_, ?_, ?_, ?_, ?_, fun j h1 h2 h3 => ?_⟩
    · rw [blk_set H3.out]; rfl
    · obtain ⟨r1, _, cs, h⟩ := row_blk hown hg
      exact ⟨r1, cs, _, h⟩
    · exact H4.out.os
    · exact H4.out.tape
    · exact H4.out.output
    · simp; omega
    · rw [blk_far _ h2]
      exact H2.out j h1 h3
end Go.Proofs.YtpodifbgfcclbaaGreatDoor

/- The small functions of the checker. -/
set_option linter.unusedVariables false
set_option linter.unusedSimpArgs false
namespace Go.Proofs.YtpodifbgfcclbaaGreatDoor
open Go.RowKit
attribute [local go_sem] Nat.lt_add_one_of_lt

theorem softErrorf_any (H0 C k b m cap : Nat) (at_ : Int) (code fmt s : ByteArray) (w : World) (hc : Chk H0 C k w) (hH : H0 ≤ w.heap.size) (hb : w.cell? ⟨b, 0, none⟩ = some (.iface 9 (.string s))) (hm : 1 ≤ m) (hk : k ≤ 100000) :
    Calls Tryz.prog 62 #[.pointer (some ⟨C, 0, none⟩), .int .i64 at_, .string code, .string fmt, .slice (some ⟨b, 0, none⟩) m cap] w fun e w' => e = .returned (.tuple #[]) ∧ Chk H0 C (k + 1) w' ∧ ChkF H0 C w w' := by
  go_enter Tryz.func62, Tryz.ntmps62
  go_wp2_with fail
  refine (errorf_any H0 C k b m cap at_ code fmt s w hc hH hb hm hk).mono ?_
  rintro e w1 ⟨rfl, h1, h2⟩
  go_wp2_with fail
  go_end0
  exact ⟨rfl, h1, h2⟩
theorem identPos_any (i : Nat) (q : Int) (w : World) (h : w.cell? ⟨i, 0, none⟩ = some (.int .i64 q)) :
    Calls Tryz.prog 60 #[.pointer (some ⟨i, 0, none⟩)] w fun e w' => e = .returned (.int .i64 q) ∧ w' = w := by
  go_enter Tryz.func60, Tryz.ntmps60
  go_wp2_with fail
  go_ret
  exact ⟨rfl, rfl⟩
theorem labelPos_any (i : Nat) (q : Int) (w : World) (h : w.cell? ⟨i, 0, none⟩ = some (.int .i64 q)) :
    Calls Tryz.prog 63 #[.pointer (some ⟨i, 0, none⟩)] w fun e w' => e = .returned (.int .i64 q) ∧ w' = w := by
  go_enter Tryz.func63, Tryz.ntmps63
  go_wp2_with fail
  go_ret
  exact ⟨rfl, rfl⟩
theorem recordDef_any (a b c : Value) (w : World) :
    Calls Tryz.prog 84 #[a, b, c] w fun e w' => e = .returned (.tuple #[]) ∧ w' = w := by
  go_enter Tryz.func84, Tryz.ntmps84
  go_wp2_with fail
  go_end0
  exact ⟨rfl, rfl⟩
theorem recordUse_any (a b c : Value) (w : World) :
    Calls Tryz.prog 85 #[a, b, c] w fun e w' => e = .returned (.tuple #[]) ∧ w' = w := by
  go_enter Tryz.func85, Tryz.ntmps85
  go_wp2_with fail
  go_end0
  exact ⟨rfl, rfl⟩
theorem altDecl_any (a b : Value) (w : World) :
    Calls Tryz.prog 81 #[a, b] w fun e w' => e = .returned (.tuple #[]) ∧ w' = w := by
  go_enter Tryz.func81, Tryz.ntmps81
  go_wp2_with fail
  go_end0
  exact ⟨rfl, rfl⟩
theorem isValid_any (p : Int) (w : World) :
    Calls Tryz.prog 73 #[.int .i64 p] w fun e w' => e = .returned (.bool (p != 0)) ∧ w' = w := by
  go_enter Tryz.func73, Tryz.ntmps73
  go_wp2_with fail
  go_ret
  exact ⟨rfl, rfl⟩
theorem newLabel_any (p : Int) (s : ByteArray) (w : World) :
    Calls Tryz.prog 77 #[.int .i64 p, .agg #[], .string s] w fun e w' => e = .returned (.pointer (some ⟨w.heap.size + 1, 0, none⟩)) ∧ w' = (w.alloc (.cells #[] 70)).alloc (.cells #[.int .i64 p, .string s, .bool false] 107) := by
  go_enter Tryz.func77, Tryz.ntmps77
  go_wp2_with fail
  go_ret
  exact ⟨rfl, rfl⟩
theorem newError_any (C : Nat) (s : ByteArray) (w : World) :
    Calls Tryz.prog 79 #[.pointer (some ⟨C, 0, none⟩), .string s] w fun e w' => e = .returned (.pointer (some ⟨w.heap.size, 0, none⟩)) ∧ w' = w.alloc (.cells #[.pointer (some ⟨C, 0, none⟩), .string s, .bool false, .int .i64 0, .string ⟨#[]⟩] 183) := by
  go_enter Tryz.func79, Tryz.ntmps79
  go_wp2_with fail
  go_ret
  exact ⟨rfl, rfl⟩
theorem addf_any (E C : Nat) (code fmt nm0 s : ByteArray) (q p : Int) (f : Bool) (w : World) (h : w.heap[E]? = some (.cells #[.pointer (some ⟨C, 0, none⟩), .string code, .bool f, .int .i64 q, .string nm0] 183)) :
    Calls Tryz.prog 80 #[.pointer (some ⟨E, 0, none⟩), .int .i64 p, .string fmt, .string s] w fun e w' => e = .returned (.tuple #[]) ∧ w' = (w.setCell ⟨E, 3, none⟩ (.int .i64 p)).setCell ⟨E, 4, none⟩ (.string s) := by
  have hE : E < w.heap.size := (Array.getElem?_eq_some_iff.1 h).1
  have hc : ∀ o, w.cell? ⟨E, o, none⟩ = _ := blk_cell h
  have hf : ∀ o, w.frozen? ⟨E, o, none⟩ = false := blk_frz h
  go_enter Tryz.func80, Tryz.ntmps80
  go_wp2_with fail
  go_end0
  exact ⟨rfl, rfl⟩
set_option maxHeartbeats 1000000 in
theorem Chk.keep {H0 C k : Nat} {w w' : World} (h : Chk H0 C k w) (hk : ∀ (j : Nat) (cs : Array Value) (T : Nat) (f : Nat × Nat), w.heap[j]? = some (Obj.cells cs T f) → T = 72 ∨ T = 201 → w'.heap[j]? = w.heap[j]?) : Chk H0 C k w' := by
  obtain ⟨h1, v, xs, h2, h3⟩ := h
  refine ⟨h1, v, xs, (hk C _ _ _ h2 (.inl rfl)).trans h2, row_keep h3 fun g hg => ?_⟩
  obtain ⟨_, _, cs, h4⟩ := row_blk h3 hg
  exact hk g _ _ _ h4 (.inr rfl)
theorem Chk.alloc {H0 C k : Nat} {w : World} (h : Chk H0 C k w) (o : Obj) : Chk H0 C k (w.alloc o) := h.keep fun j cs T f hj _ => Below.heap_alloc _ _ _ (Array.getElem?_eq_some_iff.1 hj).1
theorem Chk.drew {H0 C k : Nat} {w : World} (h : Chk H0 C k w) : Chk H0 C k w.drew := h
/-- What a call leaves that was made behind new blocks. -/
theorem ChkF.from_alloc {H0 C : Nat} {w w' : World} {o : Obj} (h : ChkF H0 C (w.alloc o) w') (hn : ∀ (cs : Array Value) (f : Nat × Nat), o ≠ .cells cs 201 f) : ChkF H0 C w w' := by
  obtain ⟨r, h1, h2, h3, h4, h5, h6⟩ := h
  refine ⟨r, fun g hg => ?_, h2, h3, h4, by simp at h5; omega, fun k a b c => (h6 k (by simp; omega) b c).trans (Below.heap_alloc _ _ _ a)⟩
  obtain ⟨q1, cs, f, q2⟩ := h1 g hg
  refine ⟨q1, cs, f, ?_⟩
  rcases Nat.lt_or_ge g w.heap.size with hlt | hge
  · rw [← q2]; exact (Below.heap_alloc _ _ _ hlt).symm
  · have hg2 := (Array.getElem?_eq_some_iff.1 q2).1
    simp at hg2
    have : g = w.heap.size := by omega
    subst this
    have := heap_alloc_new w o
    rw [this] at q2
    cases q2
    exact absurd rfl (hn _ _)
theorem ChkF.from_drew {H0 C : Nat} {w w' : World} (h : ChkF H0 C w.drew w') : ChkF H0 C w w' := h
theorem ChkF.typ {H0 C k : Nat} {w w' : World} (hc : Chk H0 C k w) (h : ChkF H0 C w w') {E T : Nat} {cs : Array Value} {f : Nat × Nat} (hE : w.heap[E]? = some (.cells cs T f)) (h1 : T ≠ 72) (h2 : T ≠ 201) : w'.heap[E]? = some (.cells cs T f) := by
  obtain ⟨r, g1, _, _, _, _, g6⟩ := h
  obtain ⟨_, v, xs, hC, _⟩ := hc
  refine (g6 E (Array.getElem?_eq_some_iff.1 hE).1 ?_ ?_).trans hE
  · rintro rfl
    rw [hE] at hC
    cases hC
    exact h1 rfl
  · intro e
    obtain ⟨_, cs', f', q⟩ := g1 E e.symm
    rw [hE] at q
    cases q
    exact h2 rfl
set_option maxHeartbeats 1000000 in
theorem report_any (H0 C k E : Nat) (code s : ByteArray) (p : Int) (f : Bool) (w : World) (hc : Chk H0 C k w) (hH : H0 ≤ w.heap.size) (hk : k ≤ 100000) (h : w.heap[E]? = some (.cells #[.pointer (some ⟨C, 0, none⟩), .string code, .bool f, .int .i64 p, .string s] 183)) :
    Calls Tryz.prog 82 #[.pointer (some ⟨E, 0, none⟩)] w fun e w' => e = .returned (.tuple #[]) ∧ Chk H0 C (k + 1) w' ∧ ChkF H0 C w w' := by
  have hE : E < w.heap.size := (Array.getElem?_eq_some_iff.1 h).1
  have hc' : ∀ o, w.cell? ⟨E, o, none⟩ = _ := blk_cell h
  have HC := Lib.hid hc
  clear hc
  go_enter Tryz.func82, Tryz.ntmps82
  go_wp2_with fail
  go_region_held3 (fun w' => w'.cell? ⟨E, 0, none⟩ = some (.pointer (some ⟨C, 0, none⟩)) ∧ w'.cell? ⟨E, 1, none⟩ = some (.string code) ∧ w'.cell? ⟨E, 3, none⟩ = some (.int .i64 p) ∧ w'.cell? ⟨E, 4, none⟩ = some (.string s)) (first | go_keep | exact hcE)
    (first | (go_at_call 59; refine (errorf_any H0 C k _ 1 1 p code _ s _ (by first | exact HC.out.drew.alloc _ | exact (HC.out.alloc _).drew) (by simp; omega) (by simp) (by omega) hk).mono ?_; rintro e w1 ⟨rfl, g1, g2⟩; have hcE : w1.cell? ⟨E, 0, none⟩ = some (.pointer (some ⟨C, 0, none⟩)) ∧ w1.cell? ⟨E, 1, none⟩ = some (.string code) ∧ w1.cell? ⟨E, 3, none⟩ = some (.int .i64 p) ∧ w1.cell? ⟨E, 4, none⟩ = some (.string s) := (by have hE2 := ChkF.typ (by first | exact HC.out.drew.alloc _ | exact (HC.out.alloc _).drew) g2 ((Below.heap_alloc _ _ _ hE).trans h) (by decide) (by decide); refine ⟨?_, ?_, ?_, ?_⟩ <;> rw [blk_cell hE2] <;> rfl)))
  all_goals
    go_wp2_with fail
    go_end0
    exact ⟨rfl, g1, (by first | exact (ChkF.from_alloc g2 (by simp)).from_drew | exact ChkF.from_alloc g2.from_drew (by simp))⟩
end Go.Proofs.YtpodifbgfcclbaaGreatDoor
