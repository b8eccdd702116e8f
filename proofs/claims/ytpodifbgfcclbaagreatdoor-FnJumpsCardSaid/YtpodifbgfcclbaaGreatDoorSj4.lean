/- The rules for labels: a goto. -/
import Derived.Test.YtpodifbgfcclbaaGreatDoorSj3
import Derived.Test.YtpodifbgfcclbaaGreatDoorVal4
import Derived.ArgAppend
set_option linter.unusedVariables false
set_option linter.unusedSimpArgs false
namespace Go.Proofs.YtpodifbgfcclbaaGreatDoor
open Go.RowKit
attribute [local go_sem] Nat.lt_add_one_of_lt

def upv (adr : Pth → Nat) : Pth → Value
  | [] => .pointer none
  | _ :: q => .pointer (some ⟨adr q, 0, none⟩)
def atv : Pth → Nat
  | [] => 0
  | (i, _) :: _ => i
/-- The block of the list at a path. -/
def NodeC (w : World) (H0 : Nat) (adr : Pth → Nat) (p : Pth) (xs : List Fl) (dn : Nat) : Prop :=
  ∃ a cap, w.heap[adr p]? = some (.cells #[upv adr p, .int .i64 (atv p), .slice a xs.length cap, .map (some dn)] 65 (0, 0)) ∧ SL w H0 a cap xs
/-- Where labels are declared, as the maps say. -/
def WM (w : World) (M1 M2 : Nat) (adr : Pth → Nat) (D : List (Int × Pth × Nat)) : Prop :=
  ∃ k1 k2, IM w M1 k1 ∧ IM w M2 k2 ∧ ∀ n, iget k1 n = (whr D n).map (fun q => .pointer (some ⟨adr q.1, 0, none⟩)) ∧ iget k2 n = (whr D n).map (fun q => .int .i64 q.2)
/-- All that the jumps are looked at with. -/
structure LE (w : World) (H0 H1 J M1 M2 M3 : Nat) (adr dnf : Pth → Nat) (root : List Fl) : Prop where
  node : ∀ q ys, getL root q = some ys → NodeC w H0 adr q ys (dnf q) ∧ adr q < H1 ∧ dnf q < H1 ∧ dnf q ≠ M3 ∧ adr q ≠ M3
  inj : ∀ q q' ys ys', getL root q = some ys → getL root q' = some ys' → adr q = adr q' → q = q'
  down : ∀ q ys, getL root q = some ys → ∃ kvs, DM w (dnf q) kvs ∧ ∀ i k zs, getL root ((i, k) :: q) = some zs → dget kvs (i, k) = some (.pointer (some ⟨adr ((i, k) :: q), 0, none⟩))
  h01 : H0 ≤ H1
  h1 : H1 ≤ w.heap.size
  wm : WM w M1 M2 adr (dpL [] 0 root)
  m1 : M1 < H1 ∧ M1 ≠ M3
  m2 : M2 < H1 ∧ M2 ≠ M3
  jl : H0 ≤ J ∧ H0 ≤ M3
  jc : ∃ b, JC w J M1 M2 M3 b
theorem LE.keep {w w' : World} {H0 H1 J M1 M2 M3 : Nat} {adr dnf : Pth → Nat} {root : List Fl} (h : LE w H0 H1 J M1 M2 M3 adr dnf root) (hf : Fx [J, M3] H1 w w') (hj : ∃ b, JC w' J M1 M2 M3 b) : LE w' H0 H1 J M1 M2 M3 adr dnf root := by
  obtain ⟨b0, hj0⟩ := h.jc
  have hnJ : ∀ q ys, getL root q = some ys → adr q ≠ J := by
    intro q ys hq e
    obtain ⟨⟨a, cap, h1, _⟩, _⟩ := h.node q ys hq
    unfold JC at hj0
    rw [e, hj0] at h1
    simp at h1
  have hnM : ∀ R, (∃ es clk, w.heap[R]? = some (.map es clk)) → R ≠ J := by
    rintro R ⟨es, clk, h1⟩ rfl
    unfold JC at hj0
    rw [hj0] at h1
    cases h1
  have hlow : ∀ k, k < H0 → w'.heap[k]? = w.heap[k]? := fun k hk => hf.blk k (by have := h.h01; omega) (by have := h.jl; simp; omega)
  refine ⟨fun q ys hq => ?_, h.inj, fun q ys hq => ?_, h.h01, Nat.le_trans h.h1 hf.size, ?_, h.m1, h.m2, h.jl, hj⟩
  · obtain ⟨⟨a, cap, h1, h2⟩, h3, h4, h5, h6⟩ := h.node q ys hq
    refine ⟨⟨a, cap, ?_, h2.keep hlow (Nat.le_refl _)⟩, h3, h4, h5, h6⟩
    rw [hf.blk (adr q) h3 (by have := hnJ q ys hq; simp [this, h6])]; exact h1
  · obtain ⟨kvs, h1, h2⟩ := h.down q ys hq
    obtain ⟨_, _, h4, h5, _⟩ := h.node q ys hq
    have hJ : dnf q ≠ J := hnM _ (by obtain ⟨es, clk, h3, _⟩ := h1; exact ⟨es, clk, h3⟩)
    exact ⟨kvs, h1.keep (hf.blk _ h4 (by simp [hJ, h5])), h2⟩
  · obtain ⟨k1, k2, h1, h2, h3⟩ := h.wm
    have e1 : M1 ≠ J := hnM _ (by obtain ⟨es, clk, h4, _⟩ := h1; exact ⟨es, clk, h4⟩)
    have e2 : M2 ≠ J := hnM _ (by obtain ⟨es, clk, h4, _⟩ := h2; exact ⟨es, clk, h4⟩)
    exact ⟨k1, k2, h1.keep (hf.blk _ h.m1.1 (by simp [e1, h.m1.2])), h2.keep (hf.blk _ h.m2.1 (by simp [e2, h.m2.2])), h3⟩
theorem dp_valid {root : List Fl} : ∀ (n : Nat) (xs : List Fl), rkL xs < n → ∀ (p : Pth), getL root p = some xs → ∀ e ∈ dpL p 0 xs, ∃ ys, getL root e.2.1 = some ys ∧ ∃ x, ys[e.2.2]? = some x
  | 0, xs, h, _, _, _, _ => by omega
  | n + 1, xs, h, p, hp, e, he => by
    obtain ⟨a, x, h1, h2⟩ := (mem_dpL p e xs 0).1 he
    rcases h2 with ⟨h2, _⟩ | ⟨j, y, h2, h3⟩
    · rw [h2, Nat.zero_add]; exact ⟨xs, hp, x, h1⟩
    · have q1 := rkL_at h1
      have q2 := rkB_at h2
      have q3 : rkB (bel (inF x)) < rk x := bel_rk x
      rw [Nat.zero_add] at h3
      exact dp_valid n y (by omega) ((a, j) :: p) (by rw [getL, hp]; simp [h1, h2]) e h3
theorem whr_mem {D : List (Int × Pth × Nat)} {n : Int} {q : Pth × Nat} (h : whr D n = some q) : (n, q) ∈ D := by
  unfold whr at h
  rw [Option.map_eq_some_iff] at h
  obtain ⟨e, h1, h2⟩ := h
  have h3 := List.mem_of_find?_eq_some h1
  have h4 := List.find?_some h1
  simp only [beq_iff_eq] at h4
  rw [List.mem_reverse] at h3
  rw [← h2, ← h4]; exact h3
theorem whr_valid {root : List Fl} {n : Int} {to : Pth} {a : Nat} (h : whr (dpL [] 0 root) n = some (to, a)) : ∃ ys, getL root to = some ys ∧ a < ys.length := by
  obtain ⟨ys, h1, x, h2⟩ := dp_valid _ root (Nat.lt_succ_self _) [] rfl _ (whr_mem h)
  exact ⟨ys, h1, (List.getElem?_eq_some_iff.1 h2).1⟩
theorem inI_inner : ∀ bd : List (List Fl), inI bd = inF (innerB bd)
  | (x :: xs) :: ys => by rw [inI]; rfl
  | [] => by rw [inI]; simp [innerB, emptyFl, inF]
  | [] :: ys => by rw [inI]; simp [innerB, emptyFl, inF]
def mea (x : Fl) : Nat := 2 * rk x + (if x.kind = 10 then 1 else 0)
theorem mea_inner (l d : Int) (bd : List (List Fl)) : mea (innerB bd) < mea (.mk 10 l d bd) := by
  unfold mea
  rw [rk_mk]
  have e10 : (Fl.mk 10 l d bd).kind = 10 := rfl
  rw [if_pos e10]
  rcases bd with _ | ⟨_ | ⟨y, ys⟩, yss⟩
  · have : (innerB []) = emptyFl := rfl
    rw [this, emptyFl, rk_mk, rkB]
    simp [Fl.kind]
  · have : (innerB ([] :: yss)) = emptyFl := rfl
    rw [this, emptyFl, rk_mk, rkB, rkB]
    simp [Fl.kind]
    omega
  · have : (innerB ((y :: ys) :: yss)) = y := rfl
    rw [this, rkB, rkL]
    split <;> omega
theorem und62 : Tryz.prog.underlying 62 = some (.pointer 65) := by kernel_rfl
theorem info65 : ∃ j, Tryz.prog.info? 65 = some j ∧ j.size = 4 := by
  have h : (Tryz.prog.info? 65).map (fun j => j.size) = some 4 := by kernel_rfl
  cases hj : Tryz.prog.info? 65 with
  | none => rw [hj] at h; cases h
  | some j => rw [hj] at h; exact ⟨j, rfl, by simpa using h⟩
theorem run_neq62 (a b : Nat) (w : World) (ha : Own w a 65) (hb : Own w b 65) :
    (binOp .neq 62 (.pointer (some ⟨a, 0, none⟩)) (.pointer (some ⟨b, 0, none⟩))).run Tryz.prog w = .ok (.bool (!(a == b))) w := by
  obtain ⟨j, hj, hs⟩ := info65
  obtain ⟨ca, ha⟩ := ha
  obtain ⟨cb, hb⟩ := hb
  have hp := und62
  by_cases h : a = b
  · subst h
    have h : ∀ d : Nat, (Op.equalIn (d + 1) 62 (.pointer (some ⟨a, 0, none⟩)) (.pointer (some ⟨a, 0, none⟩))).run Tryz.prog w = .ok true w := fun d => by
      simp [Op.equalIn, run_underlying hp, sizeOf, typeInfo, hj, run_sameAddr_same]
    simp [binOp, Op.equal, Op.maxDepth, h 9999]
  · have hne : (⟨a, 0, none⟩ : Addr) ≠ ⟨b, 0, none⟩ := by simp [h]
    have h2 : ∀ d : Nat, (Op.equalIn (d + 1) 62 (.pointer (some ⟨a, 0, none⟩)) (.pointer (some ⟨b, 0, none⟩))).run Tryz.prog w = .ok false w := fun d => by
      simp [Op.equalIn, run_underlying hp, sizeOf, typeInfo, hj, hs, run_sameAddr_other w hne ha hb]
    have h3 : (a == b) = false := by simpa using h
    simp [binOp, Op.equal, Op.maxDepth, h2 9999, h3]
end Go.Proofs.YtpodifbgfcclbaaGreatDoor

/- The rules for labels: what a goto does. -/
set_option linter.unusedVariables false
set_option linter.unusedSimpArgs false
namespace Go.Proofs.YtpodifbgfcclbaaGreatDoor
open Go.RowKit
attribute [local go_sem] Nat.lt_add_one_of_lt

theorem getL_up {root : List Fl} {i k : Nat} {q : Pth} {ys : List Fl} (h : getL root ((i, k) :: q) = some ys) : ∃ zs, getL root q = some zs := by
  rw [getL] at h
  cases hq : getL root q with
  | none => rw [hq] at h; cases h
  | some zs => exact ⟨zs, rfl⟩
set_option maxRecDepth 100000 in
set_option maxHeartbeats 8000000 in
theorem jump_none (H0 H1 J M1 M2 M3 : Nat) (adr dnf : Pth → Nat) (root : List Fl) (n : Int) (hn : whr (dpL [] 0 root) n = none) (q : Pth) (xs : List Fl) (hq : getL root q = some xs) (at0 : Nat) (bad : Bool) (U : Int → Bool) (w : World) (E : LE w H0 H1 J M1 M2 M3 adr dnf root) (hJ : JC w J M1 M2 M3 bad) (hU : UM w M3 U) :
    Calls Tryz.prog 54 #[.pointer (some ⟨J, 0, none⟩), .int .i64 n, .pointer (some ⟨adr q, 0, none⟩), .int .i64 at0] w fun e w' => e = .returned (.tuple #[]) ∧ JC w' J M1 M2 M3 true ∧ UM w' M3 (fun m => U m || m == n) ∧ Fx [J, M3] w.heap.size w w' := by
  have hJM : J ≠ M3 := by obtain ⟨kvs, h1, _⟩ := hU; exact hJ.ne h1
  obtain ⟨es, clk, hupd, hU1⟩ := hU.upd n
  obtain ⟨W1, hW1⟩ : ∃ W1, W1 = setObj w M3 (.map es clk) := ⟨_, rfl⟩
  rw [← hW1] at hupd hU1
  have hF1 : Fx [J, M3] w.heap.size w W1 := by rw [hW1]; exact (Fx.refl _ _ _).setObj (.inl (by simp)) _
  have hJ1 : JC W1 J M1 M2 M3 bad := hJ.keep (by rw [hW1]; exact setObj_heap _ _ _ _ hJM)
  have E1 := E.keep (hF1.mono E.h1 (fun k _ h => h)) ⟨_, hJ1⟩
  obtain ⟨k1, k2, hm1, hm2, hmm⟩ := E1.wm
  have hlk := run_lookI 57 62 (.pointer none) und57 zero62 M1 n k1 W1 hm1
  rw [(hmm n).1, hn] at hlk
  simp only [Option.map_none, Option.getD_none] at hlk
  have c2 : w.cell? ⟨J, 2, none⟩ = some (.map (some M3)) := blk_cell hJ 2
  have d0 : W1.cell? ⟨J, 0, none⟩ = some (.map (some M1)) := blk_cell hJ1 0
  have lJ : J < w.heap.size := hJ.lt
  have lJ1 : J < W1.heap.size := hJ1.lt
  have HE := Lib.hid E1
  have HJ := Lib.hid hJ1
  have HU := Lib.hid hU1
  have HF := Lib.hid hF1
  have HQ := Lib.hid hq

  clear hmm hm1 hm2 hn E E1 hJ hU hU1 hJ1 hF1 hW1 hq
  go_enter Tryz.func54, Tryz.ntmps54
  go_wp2_with fail
  clear hupd hlk c2 d0 lJ lJ1
  go_loopg [2, 3] (q.length + 1) (fun g vp va wr => (∃ q' ys' ai, getL root q' = some ys' ∧ vp = .pointer (some ⟨adr q', 0, none⟩) ∧ va = .int .i64 ai ∧ g = q'.length + 1 ∧ Fx [] W1.heap.size W1 wr) ∨ (vp = .pointer none ∧ g = 0 ∧ Fx [] W1.heap.size W1 wr))
  case atStart => exact .inl ⟨q, xs, at0, HQ.out, rfl, rfl, rfl, Fx.refl _ _ _⟩
  case round =>
    rcases hrel with ⟨q', ys', ai, hq', rfl, rfl, hg, hfx⟩ | ⟨rfl, hg, hfx⟩
    · have hJr := HJ.out.keep (hfx.blk J HJ.out.lt (by simp))
      have Er := HE.out.keep (hfx.mono HE.out.h1 (fun k _ h => by cases h)) ⟨_, hJr⟩
      obtain ⟨⟨a, cap, hnode, _⟩, hal, _⟩ := Er.node q' ys' hq'
      have n0 : ∀ o, wr.cell? ⟨adr q', o, none⟩ = _ := blk_cell hnode
      have ln : adr q' < wr.heap.size := by have := Er.h1; omega
      have HFX := Lib.hid hfx
      have HQ' := Lib.hid hq'
      have HG := Lib.hid hg
      obtain ⟨C, hC⟩ : ∃ C, C = adr q' := ⟨_, rfl⟩
      rw [← hC] at n0 ln ⊢
      cases q' with
      | nil =>
        have m0 : wr.cell? ⟨C, 0, none⟩ = some (.pointer none) := n0 0
        have m1 : wr.cell? ⟨C, 1, none⟩ = some (.int .i64 0) := n0 1
        clear hfx hJr Er hnode hal n0 hq' hg hC
        go_wp2_with fail
        go_region
        go_wp2_with fail
        go_roundg 0
        case measure => have := HG.out; omega
        exact .inr ⟨rfl, rfl, HFX.out.drew⟩
      | cons e q'' =>
        obtain ⟨i, k⟩ := e
        obtain ⟨zs, hzs⟩ := getL_up hq'
        have m0 : wr.cell? ⟨C, 0, none⟩ = some (.pointer (some ⟨adr q'', 0, none⟩)) := n0 0
        have m1 : wr.cell? ⟨C, 1, none⟩ = some (.int .i64 i) := n0 1
        have HZ := Lib.hid hzs
        clear hfx hJr Er hnode hal n0 hq' hg hC hzs
        go_wp2_with fail
        go_region
        go_wp2_with fail
        go_roundg (q''.length + 1)
        case measure => have := HG.out; simp at this; omega
        exact .inl ⟨q'', zs, i, HZ.out, rfl, rfl, rfl, HFX.out.drew⟩
    · have hJr := HJ.out.keep (hfx.blk J HJ.out.lt (by simp))
      have j0 : ∀ o, wr.cell? ⟨J, o, none⟩ = _ := blk_cell hJr
      have f0 : ∀ o, wr.frozen? ⟨J, o, none⟩ = false := blk_frz hJr
      have c3 : wr.cell? ⟨J, 3, none⟩ = some (.bool bad) := j0 3
      have lJ : J < wr.heap.size := hJr.lt
      have HJR := Lib.hid hJr
      have HFX := Lib.hid hfx
      clear hfx hJr j0 hg
      go_wp2_with fail
      refine bodyPost_ret (results_none rfl _ _ _) rfl ?_
      exact ⟨rfl, HJR.out.bad true, (HU.out.keep (HFX.out.blk M3 HU.out.lt (by simp))).keep (Below.heap_setCell _ _ _ _ (by show M3 ≠ J; omega)), (HF.out.trans (Fx.mono HFX.out HF.out.size (fun k _ hk => by cases hk))).setCell (.inl (by simp)) _⟩
theorem getL_idx {root : List Fl} {i k : Nat} {q : Pth} {ys zs : List Fl} (h : getL root ((i, k) :: q) = some ys) (hz : getL root q = some zs) : i < zs.length := by
  rw [getL, hz] at h
  rcases Nat.lt_or_ge i zs.length with h1 | h1
  · exact h1
  · simp [List.getElem?_eq_none h1] at h
theorem noDec_snoc {xs : List Fl} {lo i : Nat} {x : Fl} (h : lo ≤ i) (hx : xs[i]? = some x) : noDec xs lo (i + 1) = (noDec xs lo i && !(decF x)) := by
  unfold noDec
  rw [show i + 1 - lo = (i - lo) + 1 by omega, List.take_add_one, List.getElem?_drop, show lo + (i - lo) = i by omega, hx, List.all_append]
  simp
theorem noDec_ge {xs : List Fl} {lo i : Nat} (h : i ≤ lo) : noDec xs lo i = true := by
  unfold noDec
  rw [show i - lo = 0 by omega]; rfl
theorem clm_self (to : Pth) (a : Nat) : clm to to a = some a := by
  cases to with
  | nil => simp [clm]
  | cons e q => obtain ⟨i, k⟩ := e; simp [clm]
theorem clm_nil {to : Pth} (h : [] ≠ to) (a : Nat) : clm to [] a = none := by simp [clm, h]
theorem clm_cons {to : Pth} {i k : Nat} {q : Pth} (h : (i, k) :: q ≠ to) (a : Nat) : clm to ((i, k) :: q) a = clm to q i := by simp [clm, h]
theorem inF_of {k l d : Int} {bd : List (List Fl)} (h : ¬ k = 10) : inF (.mk k l d bd) = .mk k l d bd := by rw [inF, if_neg h]
theorem inF_10 (l d : Int) (bd : List (List Fl)) : inF (.mk 10 l d bd) = inF (innerB bd) := by rw [inF, if_pos rfl, inI_inner]
set_option maxRecDepth 100000 in
set_option maxHeartbeats 16000000 in
theorem jump_some (H0 H1 J M1 M2 M3 : Nat) (adr dnf : Pth → Nat) (root : List Fl) (n : Int) (to : Pth) (a : Nat) (hn : whr (dpL [] 0 root) n = some (to, a)) (q : Pth) (xs0 : List Fl) (hq : getL root q = some xs0) (at0 : Nat) (hat0 : at0 < 4611686018427387904) (bad : Bool) (U : Int → Bool) (w : World) (E : LE w H0 H1 J M1 M2 M3 adr dnf root) (hJ : JC w J M1 M2 M3 bad) (hU : UM w M3 U) :
    Calls Tryz.prog 54 #[.pointer (some ⟨J, 0, none⟩), .int .i64 n, .pointer (some ⟨adr q, 0, none⟩), .int .i64 at0] w fun e w' => e = .returned (.tuple #[]) ∧ JC w' J M1 M2 M3 (bad || !(jOk (dpL [] 0 root) root n q at0)) ∧ UM w' M3 (fun m => U m || m == n) ∧ Fx [J, M3] w.heap.size w w' := by
  have hJM : J ≠ M3 := by obtain ⟨kvs, h1, _⟩ := hU; exact hJ.ne h1
  obtain ⟨es, clk, hupd, hU1⟩ := hU.upd n
  obtain ⟨W1, hW1⟩ : ∃ W1, W1 = setObj w M3 (.map es clk) := ⟨_, rfl⟩
  rw [← hW1] at hupd hU1
  have hF1 : Fx [J, M3] w.heap.size w W1 := by rw [hW1]; exact (Fx.refl _ _ _).setObj (.inl (by simp)) _
  have hJ1 : JC W1 J M1 M2 M3 bad := hJ.keep (by rw [hW1]; exact setObj_heap _ _ _ _ hJM)
  have E1 := E.keep (hF1.mono E.h1 (fun k _ h => h)) ⟨_, hJ1⟩
  obtain ⟨k1, k2, hm1, hm2, hmm⟩ := E1.wm
  have hM2J : J ≠ M2 := hJ1.ne hm2
  have hlk := run_lookI 57 62 (.pointer none) und57 zero62 M1 n k1 W1 hm1
  rw [(hmm n).1, hn] at hlk
  simp only [Option.map_some, Option.getD_some] at hlk
  have hi2 : iget k2 n = some (.int .i64 a) := by rw [(hmm n).2, hn]; rfl
  obtain ⟨xs, hto, hax⟩ := whr_valid hn
  have hjok : jOk (dpL [] 0 root) root n q at0 = match clm to q at0 with
    | none => false
    | some i => noDec xs (i + 1) a := by
    unfold jOk
    rw [hn]
    simp only [hto]
    cases clm to q at0 <;> rfl
  have c2 : w.cell? ⟨J, 2, none⟩ = some (.map (some M3)) := blk_cell hJ 2
  have d0 : W1.cell? ⟨J, 0, none⟩ = some (.map (some M1)) := blk_cell hJ1 0
  have lJ : J < w.heap.size := hJ.lt
  have lJ1 : J < W1.heap.size := hJ1.lt
  obtain ⟨CT, hCT⟩ : ∃ CT, CT = adr to := ⟨_, rfl⟩
  rw [← hCT] at hlk
  have HE := Lib.hid E1
  have HJ := Lib.hid hJ1
  have HU := Lib.hid hU1
  have HF := Lib.hid hF1
  have HQ := Lib.hid hq
  have HTO := Lib.hid hto
  have HJOK := Lib.hid hjok
  have HI2 := Lib.hid hi2
  have HM2 := Lib.hid hm2
  have HCT := Lib.hid hCT
  clear hmm hm1 hm2 hn E E1 hJ hU hU1 hJ1 hF1 hW1 hq hto hjok hi2 hCT
  go_enter Tryz.func54, Tryz.ntmps54
  go_wp2_with fail
  clear hupd hlk c2 d0 lJ lJ1
  go_loopg [2, 3] (q.length + 1) (fun g vp va wr => (∃ (q' : Pth) (ys' : List Fl) (ai : Nat), getL root q' = some ys' ∧ vp = .pointer (some ⟨adr q', 0, none⟩) ∧ va = .int .i64 ai ∧ ai < 4611686018427387904 ∧ clm to q at0 = clm to q' ai ∧ g = q'.length + 1 ∧ Fx [] W1.heap.size W1 wr) ∨ (vp = .pointer none ∧ clm to q at0 = none ∧ g = 0 ∧ Fx [] W1.heap.size W1 wr))
  case atStart => exact .inl ⟨q, xs0, at0, HQ.out, rfl, rfl, hat0, rfl, rfl, Fx.refl _ _ _⟩
  case round =>
    rcases hrel with ⟨q', ys', ai, hq', rfl, rfl, hai, hclm, hg, hfx⟩ | ⟨rfl, hclm, hg, hfx⟩
    · have hJr := HJ.out.keep (hfx.blk J HJ.out.lt (by simp))
      have Er := HE.out.keep (hfx.mono HE.out.h1 (fun k _ h => by cases h)) ⟨_, hJr⟩
      obtain ⟨⟨ax, cap, hnode, _⟩, hal, _⟩ := Er.node q' ys' hq'
      obtain ⟨⟨aT, capT, hnodeT, hslT⟩, halT, _⟩ := Er.node to xs HTO.out
      have n0 : ∀ o, wr.cell? ⟨adr q', o, none⟩ = _ := blk_cell hnode
      have ln : adr q' < wr.heap.size := by have := Er.h1; omega
      have hneq := run_neq62 (adr q') (adr to) wr ⟨_, hnode⟩ ⟨_, hnodeT⟩
      have HFX := Lib.hid hfx
      have HQ' := Lib.hid hq'
      have HG := Lib.hid hg
      have HCLM := Lib.hid hclm
      by_cases hqt : q' = to
      · have e1 : (adr q' == adr to) = true := by rw [hqt]; simp
        rw [e1, Bool.not_true, hqt, ← HCT.out] at hneq
        have HQT := Lib.hid hqt
        have HER := Lib.hid Er
        have HJR := Lib.hid hJr
        have hvp : adr q' = CT := by rw [hqt, HCT.out]
        rw [hvp]
        have HNT := Lib.hid hnodeT
        have HST := Lib.hid hslT
        clear hfx hJr Er hnode hal n0 hq' hg ln e1 hqt hvp hclm hnodeT hslT
        have hjv : jOk (dpL [] 0 root) root n q at0 = noDec xs (ai + 1) a := by
          rw [HJOK.out, HCLM.out, HQT.out, clm_self]
        have HJV := Lib.hid hjv
        clear hjv
        go_wp2_with fail
        clear hneq
        obtain ⟨hiN, hhi⟩ : ∃ hiN, hiN = max (ai + 1) a := ⟨_, rfl⟩
        have hlo : ai + 1 ≤ hiN := by omega
        have hha : a ≤ hiN := by omega
        have hhd : hiN = ai + 1 ∨ hiN = a := by omega
        have HHD := Lib.hid hhd
        clear hhd hhi
        have hgh : (hiN - (ai + 1)) + (ai + 1) = hiN := by omega
        have HGH := Lib.hid hgh
        clear hgh
        go_loopg [9] (hiN - (ai + 1)) (fun g vi wq => ∃ i : Nat, i + g = hiN ∧ ai + 1 ≤ i ∧ vi = .int .i64 i ∧ JC wq J M1 M2 M3 (bad || !(noDec xs (ai + 1) i)) ∧ Fx [J] wr.heap.size wr wq)
        case atStart => exact ⟨ai + 1, by have := HGH.out; omega, by omega, by simp, by rw [noDec_ge (Nat.le_refl _), Bool.not_true, Bool.or_false]; exact HJR.out, Fx.refl _ _ _⟩
        case round =>
          obtain ⟨i, hi, hloi, rfl, hJq, hfq⟩ := hrel
          have hszq := hfq.size
          have hsz1 := HFX.out.size
          have hM2l : IM wr M2 k2 := (HM2.out.keep (HFX.out.blk M2 HM2.out.lt (by simp))).keep (hfq.blk M2 (by have := HM2.out.lt; omega) (by simp; omega))
          have hlk2 := run_lookI 58 3 (.int .i64 0) und58 zero3 M2 n k2 wr hM2l
          rw [HI2.out] at hlk2
          simp only [Option.getD_some] at hlk2
          have j0 : ∀ o, wr.cell? ⟨J, o, none⟩ = _ := blk_cell hJq
          have j1 : wr.cell? ⟨J, 1, none⟩ = some (.map (some M2)) := j0 1
          have lJ : J < wr.heap.size := hJq.lt
          by_cases hlt : i < a
          · have hxs48 : xs.length * 48 ≤ 140737488355328 := HST.out.2.1
            obtain ⟨_, _, bx, ox, hsa, he⟩ := HST.out
            obtain ⟨hbH, k, lb, d, bd, a', cap', _, hxi, x0, x1, x2, x3, hsl⟩ := he.at i (by omega)
            obtain rfl := hsa (by rintro rfl; simp at hax)
            have hH01 := HER.out.h01
            have hH1w := HER.out.h1
            have hJH := HER.out.jl.1
            have y0 : wr.cell? ⟨bx, ox + i * 4, none⟩ = _ := (hfq.cell (p := ⟨bx, ox + i * 4, none⟩) (by show bx < _; omega) (by show bx ∉ _; simp; omega)).trans x0
            have y1 : wr.cell? ⟨bx, ox + i * 4 + 1, none⟩ = _ := (hfq.cell (p := ⟨bx, ox + i * 4 + 1, none⟩) (by show bx < _; omega) (by show bx ∉ _; simp; omega)).trans x1
            have y2 : wr.cell? ⟨bx, ox + i * 4 + 2, none⟩ = _ := (hfq.cell (p := ⟨bx, ox + i * 4 + 2, none⟩) (by show bx < _; omega) (by show bx ∉ _; simp; omega)).trans x2
            have y3 : wr.cell? ⟨bx, ox + i * 4 + 3, none⟩ = _ := (hfq.cell (p := ⟨bx, ox + i * 4 + 3, none⟩) (by show bx < _; omega) (by show bx ∉ _; simp; omega)).trans x3
            have hCJ : CT ≠ J := by
              rintro rfl
              have h1 := HNT.out
              rw [← HCT.out] at h1
              have h2 := HJR.out
              unfold JC at h2
              rw [h1] at h2
              simp at h2
            have hCl : CT < wr.heap.size ∧ wr.cell? ⟨CT, 2, none⟩ = some (.slice (some ⟨bx, ox, none⟩) xs.length capT) := by
              have h1 := HNT.out
              rw [← HCT.out] at h1
              have h2 := (Array.getElem?_eq_some_iff.1 h1).1
              exact ⟨by omega, (hfq.cell (p := ⟨CT, 2, none⟩) h2 (by show CT ∉ _; simp [hCJ])).trans (blk_cell h1 2)⟩
            obtain ⟨hCl1, hCl2⟩ := hCl
            have hbr : bx < wr.heap.size := by omega
            have hiI : (i : Int) < (a : Int) := by omega
            have hiI2 : (i : Int) < (xs.length : Int) := by omega
            have hi0 : (0 : Int) ≤ (i : Int) := by omega
            obtain ⟨B, hB⟩ : ∃ B, B = wr.heap.size := ⟨_, rfl⟩
            have hslq : SLL wr H0 a' cap' bd := hsl.keep (fun r hr => hfq.blk r (by omega) (by simp; omega)) (Nat.le_refl _)
            have hn1 := blk_new wr #[.int .i64 k, .int .i64 lb, .int .i64 d, .slice a' bd.length cap'] 27
            rw [← hB] at hn1
            have HN1 := Lib.hid hn1
            have HXI := Lib.hid hxi
            have HSL := Lib.hid hslq
            have HBB := Lib.hid hB
            have HFQ := Lib.hid hfq
            have HJQ := Lib.hid hJq
            obtain ⟨g0, hg0⟩ : ∃ g0, g0 = gk := ⟨_, rfl⟩
            have HI := Lib.hid hi
            obtain ⟨WQ, hWQ⟩ : ∃ WQ, WQ = wr := ⟨_, rfl⟩
            have HWQ := Lib.hid hWQ
            clear hsl hslq hn1 hxi hB hfq hJq hsa he x0 x1 x2 x3 j0 hM2l hi hWQ
            go_wp2_with fail
            clear hlk2 hCl2 y0 y1 y2 y3
            rw [← HBB.out]
            have hlJB : J < B := by rw [HBB.out]; exact lJ
            have hH0B : H0 ≤ B := by rw [HBB.out]; omega
            have hbs : Below B wr (wr.alloc (.cells #[.int .i64 k, .int .i64 lb, .int .i64 d, .slice a' bd.length cap'] 27)) := by rw [HBB.out]; exact (Below.refl _ _).alloc (Nat.le_refl _) _
            have HBS := Lib.hid hbs
            clear hbs
            go_loopg [] (mea (.mk k lb d bd)) (fun g wq => ∃ k2 l2 d2 bd2 a2 cap2, mea (.mk k2 l2 d2 bd2) ≤ g ∧ inF (.mk k2 l2 d2 bd2) = inF (.mk k lb d bd) ∧ wq.heap[B]? = some (.cells #[.int .i64 k2, .int .i64 l2, .int .i64 d2, .slice a2 bd2.length cap2] 27 (0, 0)) ∧ SLL wq H0 a2 cap2 bd2 ∧ Below B wr wq)
            case atStart => exact ⟨k, lb, d, bd, a', cap', Nat.le_refl _, rfl, HN1.out, HSL.out.keep (fun r hr => HBS.out.block r (by omega)) (Nat.le_refl _), HBS.out⟩
            case round =>
              obtain ⟨k2, l2, d2, bd2, a2, cap2, hme, hinf, hB2, hsl2, hb2⟩ := hrel
              have e0 : ∀ o, wr.cell? ⟨B, o, none⟩ = _ := blk_cell hB2
              have lB : B < wr.heap.size := (Array.getElem?_eq_some_iff.1 hB2).1
              have E0 : wr.cell? ⟨B, 0, none⟩ = some (.int .i64 k2) := e0 0
              have E1 : wr.cell? ⟨B, 1, none⟩ = some (.int .i64 l2) := e0 1
              have E2 : wr.cell? ⟨B, 2, none⟩ = some (.int .i64 d2) := e0 2
              have E3 : wr.cell? ⟨B, 3, none⟩ = some (.slice a2 bd2.length cap2) := e0 3
              by_cases hk : k2 = 10
              · subst hk
                have ci := inner_any 10 l2 d2 bd2 a2 cap2 H0 wr hsl2 (by omega)
                have CI := Lib.hid ci
                have HB2 := Lib.hid hB2
                have HBL := Lib.hid hb2
                have HINF := Lib.hid hinf
                have HME := Lib.hid hme
                clear ci hB2 hsl2 hb2 hinf hme e0
                go_wp2_with fail
                refine (CI.out).mono ?_
                rintro e w1 ⟨k3, l3, d3, bd3, a3, cap3, hx3, rfl, hs3, hb3⟩
                have hB3 := (hb3.block B lB).trans HB2.out
                have g0' : ∀ o, w1.cell? ⟨B, o, none⟩ = _ := blk_cell hB3
                have f0' : ∀ o, w1.frozen? ⟨B, o, none⟩ = false := blk_frz hB3
                have G0 : w1.cell? ⟨B, 0, none⟩ = some (.int .i64 10) := g0' 0
                have G1 : w1.cell? ⟨B, 1, none⟩ = some (.int .i64 l2) := g0' 1
                have G2 : w1.cell? ⟨B, 2, none⟩ = some (.int .i64 d2) := g0' 2
                have G3 : w1.cell? ⟨B, 3, none⟩ = some (.slice a2 bd2.length cap2) := g0' 3
                have lB1 : B < w1.heap.size := by have := hb3.size; omega
                have hbw : Below B _ w1 := HBL.out.trans (Below.mono hb3 (by omega))
                have HB3 := Lib.hid hB3
                have HX3 := Lib.hid hx3
                have HS3 := Lib.hid hs3
                have HBW := Lib.hid hbw
                clear hB3 hx3 hs3 hb3 hbw g0' E0 E1 E2 E3
                go_wp2_with fail
                have hset : Below B w1 ((((w1.setCell ⟨B, 0, none⟩ (.int .i64 k3)).setCell ⟨B, 1, none⟩ (.int .i64 l3)).setCell ⟨B, 2, none⟩ (.int .i64 d3)).setCell ⟨B, 3, none⟩ (.slice a3 bd3.length cap3)) := ((((Below.refl B w1).setCell (Nat.le_refl _) _).setCell (Nat.le_refl _) _).setCell (Nat.le_refl _) _).setCell (Nat.le_refl _) _
                go_roundg (mea (.mk k3 l3 d3 bd3))
                case measure => rw [← HX3.out]; have := mea_inner l2 d2 bd2; have := HME.out; omega
                exact ⟨k3, l3, d3, bd3, a3, cap3, Nat.le_refl _, by rw [← HINF.out, inF_10, HX3.out], by rw [blk_set (blk_set (blk_set (blk_set HB3.out _) _) _) _]; rfl, HS3.out.keep (fun r hr => hset.block r (by omega)) (Nat.le_refl _), HBW.out.trans hset⟩
              · have hdec : decF (.mk k lb d bd) = (k2 == 15 || k2 == 16) := by rw [decF_in, ← hinf, inF_of hk]; rfl
                have hsn := noDec_snoc hloi HXI.out
                rw [hdec] at hsn
                have q10 : (k2 == 10) = false := by simpa using hk
                have hJr := HJQ.out.keep (hb2.block J hlJB)
                have j0 : ∀ o, wr.cell? ⟨J, o, none⟩ = _ := blk_cell hJr
                have f0 : ∀ o, wr.frozen? ⟨J, o, none⟩ = false := blk_frz hJr
                have c3 := j0 3
                have lJ : J < wr.heap.size := hJr.lt
                have hszB := hb2.size
                have HJR2 := Lib.hid hJr
                have HSN := Lib.hid hsn
                have hfx2 := HFQ.out.trans (Fx.of (X := [J]) (hb2.mono (by rw [HBB.out]; exact hszq)))
                have HFX2 := Lib.hid hfx2
                by_cases h15 : k2 = 15
                · have q15 : (k2 == 15) = true := by simpa using h15
                  have hv : noDec xs (ai + 1) (i + 1) = false := by rw [HSN.out, q15]; simp
                  have HV := Lib.hid hv
                  clear hdec hsn hJr j0 hinf hB2 hsl2 hb2 hme hk h15 hv hfx2 e0
                  go_wp2_with fail
                  go_roundg (g0 - 1)
                  case measure => have := HI.out; omega
                  have := HI.out
                  exact ⟨i + 1, by omega, by omega, by simp, by rw [HV.out, Bool.not_false, Bool.or_true]; exact HJR2.out.bad true, HFX2.out.setCell (.inl (by simp)) _⟩
                · have q15 : (k2 == 15) = false := by simpa using h15
                  by_cases h16 : k2 = 16
                  · have q16 : (k2 == 16) = true := by simpa using h16
                    have hv : noDec xs (ai + 1) (i + 1) = false := by rw [HSN.out, q16]; simp
                    have HV := Lib.hid hv
                    clear hdec hsn hJr j0 hinf hB2 hsl2 hb2 hme hk h15 h16 hv hfx2 e0
                    go_wp2_with fail
                    go_roundg (g0 - 1)
                    case measure => have := HI.out; omega
                    have := HI.out
                    exact ⟨i + 1, by omega, by omega, by simp, by rw [HV.out, Bool.not_false, Bool.or_true]; exact HJR2.out.bad true, HFX2.out.setCell (.inl (by simp)) _⟩
                  · have q16 : (k2 == 16) = false := by simpa using h16
                    have hv : noDec xs (ai + 1) (i + 1) = noDec xs (ai + 1) i := by rw [HSN.out, q15, q16]; simp
                    have HV := Lib.hid hv
                    clear hdec hsn hJr j0 hinf hB2 hsl2 hb2 hme hk h15 h16 hv hfx2 e0
                    go_wp2_with fail
                    go_roundg (g0 - 1)
                    case measure => have := HI.out; omega
                    have := HI.out
                    exact ⟨i + 1, by omega, by omega, by simp, by rw [HV.out]; exact HJR2.out, HFX2.out⟩
          · have hiI : ¬ (i : Int) < (a : Int) := by omega
            have hend : noDec xs (ai + 1) i = noDec xs (ai + 1) a := by
              rcases HHD.out with h1 | h1
              · rw [noDec_ge (by omega), noDec_ge (by omega)]
              · rw [show i = a by omega]
            have HEND := Lib.hid hend
            have HJQ := Lib.hid hJq
            have HFQ := Lib.hid hfq
            clear hend hJq hfq j0 hM2l
            go_wp2_with fail
            go_end0
            refine ⟨rfl, by rw [HJV.out, ← HEND.out]; exact HJQ.out, (HU.out.keep (HFX.out.blk M3 HU.out.lt (by simp))).keep (HFQ.out.blk M3 (by have := HU.out.lt; omega) (by simp; omega)), ?_⟩
            exact (HF.out.trans (Fx.mono HFX.out HF.out.size (fun k _ hk => by cases hk))).trans (Fx.mono HFQ.out (by have := HF.out.size; omega) (fun k _ hk => by simp at hk; simp [hk]))
      · have e1 : (adr q' == adr to) = false := by
          rw [Bool.eq_false_iff]
          intro h
          exact hqt (Er.inj _ _ _ _ hq' HTO.out (by simpa using h))
        rw [e1, Bool.not_false, ← HCT.out] at hneq
        obtain ⟨C, hC⟩ : ∃ C, C = adr q' := ⟨_, rfl⟩
        rw [← hC] at n0 ln hneq ⊢
        have HQT := Lib.hid hqt
        cases q' with
        | nil =>
          have m0 : wr.cell? ⟨C, 0, none⟩ = some (.pointer none) := n0 0
          have m1 : wr.cell? ⟨C, 1, none⟩ = some (.int .i64 0) := n0 1
          clear hfx hJr Er hnode hal n0 hq' hg hC e1 hqt hclm hnodeT hslT halT
          go_wp2_with fail
          clear hneq
          go_region
          go_wp2_with fail
          go_roundg 0
          case measure => have := HG.out; omega
          exact .inr ⟨rfl, by rw [HCLM.out]; exact clm_nil HQT.out _, rfl, HFX.out.drew⟩
        | cons e q'' =>
          obtain ⟨i, k⟩ := e
          obtain ⟨zs, hzs⟩ := getL_up hq'
          have m0 : wr.cell? ⟨C, 0, none⟩ = some (.pointer (some ⟨adr q'', 0, none⟩)) := n0 0
          have m1 : wr.cell? ⟨C, 1, none⟩ = some (.int .i64 i) := n0 1
          have hil : i < 4611686018427387904 := by
            obtain ⟨⟨_, _, _, hsz⟩, _⟩ := Er.node q'' zs hzs
            have h1 := getL_idx hq' hzs
            have h2 := hsz.2.1
            omega
          have HZ := Lib.hid hzs
          clear hfx hJr Er hnode hal n0 hq' hg hC hzs e1 hqt hclm hnodeT hslT halT
          go_wp2_with fail
          clear hneq
          go_region
          go_wp2_with fail
          go_roundg (q''.length + 1)
          case measure => have := HG.out; simp at this; omega
          exact .inl ⟨q'', zs, i, HZ.out, rfl, rfl, hil, by rw [HCLM.out]; exact clm_cons HQT.out _, rfl, HFX.out.drew⟩
    · have hJr := HJ.out.keep (hfx.blk J HJ.out.lt (by simp))
      have j0 : ∀ o, wr.cell? ⟨J, o, none⟩ = _ := blk_cell hJr
      have f0 : ∀ o, wr.frozen? ⟨J, o, none⟩ = false := blk_frz hJr
      have c3 : wr.cell? ⟨J, 3, none⟩ = some (.bool bad) := j0 3
      have lJ : J < wr.heap.size := hJr.lt
      have hjv : jOk (dpL [] 0 root) root n q at0 = false := by rw [HJOK.out, hclm]
      have HJV := Lib.hid hjv
      have HJR := Lib.hid hJr
      have HFX := Lib.hid hfx
      clear hfx hJr j0 hg hclm hjv
      go_wp2_with fail
      refine bodyPost_ret (results_none rfl _ _ _) rfl ?_
      exact ⟨rfl, by rw [HJV.out, Bool.not_false, Bool.or_true]; exact HJR.out.bad true, (HU.out.keep (HFX.out.blk M3 HU.out.lt (by simp))).keep (Below.heap_setCell _ _ _ _ (by show M3 ≠ J; omega)), (HF.out.trans (Fx.mono HFX.out HF.out.size (fun k _ hk => by cases hk))).setCell (.inl (by simp)) _⟩
end Go.Proofs.YtpodifbgfcclbaaGreatDoor

/- The rules for labels: looking at the jumps of a list. -/
set_option linter.unusedVariables false
set_option linter.unusedSimpArgs false
namespace Go.Proofs.YtpodifbgfcclbaaGreatDoor
open Go.RowKit
attribute [local go_sem] Nat.lt_add_one_of_lt

theorem jump_any (H0 H1 J M1 M2 M3 : Nat) (adr dnf : Pth → Nat) (root : List Fl) (n : Int) (q : Pth) (xs0 : List Fl) (hq : getL root q = some xs0) (at0 : Nat) (hat0 : at0 < 4611686018427387904) (bad : Bool) (U : Int → Bool) (w : World) (E : LE w H0 H1 J M1 M2 M3 adr dnf root) (hJ : JC w J M1 M2 M3 bad) (hU : UM w M3 U) :
    Calls Tryz.prog 54 #[.pointer (some ⟨J, 0, none⟩), .int .i64 n, .pointer (some ⟨adr q, 0, none⟩), .int .i64 at0] w fun e w' => e = .returned (.tuple #[]) ∧ JC w' J M1 M2 M3 (bad || !(jOk (dpL [] 0 root) root n q at0)) ∧ UM w' M3 (fun m => U m || m == n) ∧ Fx [J, M3] w.heap.size w w' := by
  cases hn : whr (dpL [] 0 root) n with
  | none =>
    have h := jump_none H0 H1 J M1 M2 M3 adr dnf root n hn q xs0 hq at0 bad U w E hJ hU
    have e : jOk (dpL [] 0 root) root n q at0 = false := by unfold jOk; rw [hn]
    rw [e, Bool.not_false, Bool.or_true]
    exact h
  | some t =>
    obtain ⟨tt, a⟩ := t
    exact jump_some H0 H1 J M1 M2 M3 adr dnf root n tt a hn q xs0 hq at0 hat0 bad U w E hJ hU
theorem UM.congr {w : World} {M3 : Nat} {U U' : Int → Bool} (h : UM w M3 U) (he : ∀ m, U m = U' m) : UM w M3 U' := by
  obtain ⟨kvs, h1, h2⟩ := h
  exact ⟨kvs, h1, fun n => by rw [h2, he]⟩
theorem info88 : ∃ j z, Tryz.prog.info? 88 = some j ∧ j.zero = some z ∧ z.cells.size = 2 ∧ j.size = 2 ∧ j.bytes = 16 := by
  have h : (Tryz.prog.info? 88).map (fun j => (j.zero.map (fun z => z.cells.size), j.size, j.bytes)) = some (some 2, 2, 16) := by kernel_rfl
  cases hj : Tryz.prog.info? 88 with
  | none => rw [hj] at h; cases h
  | some j =>
    rw [hj] at h
    simp only [Option.map_some, Option.some.injEq, Prod.mk.injEq] at h
    obtain ⟨h1, h2, h3⟩ := h
    cases hz : j.zero with
    | none => rw [hz] at h1; cases h1
    | some z => rw [hz] at h1; simp at h1; exact ⟨j, z, rfl, hz, h1, h2, h3⟩
theorem sadd_pl (b o n : Nat) : Addr.add ⟨b, o, none⟩ n = ⟨b, o + n, none⟩ := by
  unfold Addr.add
  split
  · subst_vars; rfl
  · rfl
def arV (ar : List (Int × Bool)) : List Value := ar.flatMap fun t => [.int .i64 t.1, .bool t.2]
theorem arV_len : ∀ ar : List (Int × Bool), (arV ar).length = ar.length * 2
  | [] => rfl
  | t :: ar => by rw [arV, List.flatMap_cons, List.length_append, ← arV, arV_len ar]; simp; omega
theorem arV_at : ∀ (ar : List (Int × Bool)) (j : Nat) (u : Value), (arV ar)[j]? = some u → ∃ i t, ar[i]? = some t ∧ ((j = i * 2 ∧ u = .int .i64 t.1) ∨ (j = i * 2 + 1 ∧ u = .bool t.2))
  | [], j, u, h => by simp [arV] at h
  | t :: ar, 0, u, h => by
    simp [arV] at h
    exact ⟨0, t, rfl, .inl ⟨rfl, h.symm⟩⟩
  | t :: ar, 1, u, h => by
    simp [arV] at h
    exact ⟨0, t, rfl, .inr ⟨rfl, h.symm⟩⟩
  | t :: ar, j + 2, u, h => by
    have h2 : (arV ar)[j]? = some u := by simpa [arV] using h
    obtain ⟨i, t', h3, h4⟩ := arV_at ar j u h2
    refine ⟨i + 1, t', by simpa using h3, ?_⟩
    rcases h4 with ⟨h4, h5⟩ | ⟨h4, h5⟩
    · exact .inl ⟨by omega, h5⟩
    · exact .inr ⟨by omega, h5⟩
theorem arV_get : ∀ (ar : List (Int × Bool)) (i : Nat) (t : Int × Bool), ar[i]? = some t → (arV ar)[i * 2]? = some (.int .i64 t.1) ∧ (arV ar)[i * 2 + 1]? = some (.bool t.2)
  | [], i, t, h => by simp at h
  | t0 :: ar, 0, t, h => by
    simp at h
    subst h
    simp [arV]
  | t0 :: ar, i + 1, t, h => by
    have := arV_get ar i t (by simpa using h)
    rw [show (i + 1) * 2 = i * 2 + 2 by omega]
    simpa [arV] using this
/-- One more statement around. -/
theorem wpList_AR {w : World} {ops : Array Oper} {rest : List Oper} {o : Oper} {act : Act} {Q : Exit → Act → World → Prop} (hgd : o.guard = none) (s x : Operand)
    (ho : o.op = .call { callee := .builtin .append, args := #[s, x], argTypes := #[86, 86] }) {ar : List (Int × Bool)} {ao : Option Addr} {cap H T : Nat} (hA : AR w H ao cap ar) (hs : act.eval s = .slice ao ar.length ar.length) {c : Nat} {lb : Int} {b : Bool} (hx : act.eval x = .slice (some ⟨c, 0, none⟩) 1 1)
    (hc : w.heap[c]? = some (.cells #[.int .i64 lb, .bool b] T (0, 0))) (hlen : ar.length ≤ 1000000)
    (h : ∀ g cap' w', AR w' w'.heap.size (some ⟨g, 0, none⟩) cap' (ar ++ [(lb, b)]) → w.heap.size ≤ g → Below w.heap.size w w' → wpList Tryz.prog ops Q rest (act.put o.dst (.slice (some ⟨g, 0, none⟩) (ar ++ [(lb, b)]).length cap')) w') : wpList Tryz.prog ops Q (o :: rest) act w := by
  obtain ⟨j, z, hj, hz, hzs, hj1, hj2⟩ := info88
  obtain ⟨a1, a2, bb, oo, a3, a4⟩ := hA
  have hread : ∀ b', ao = some b' → ∀ j u, (arV ar)[j]? = some u → w.cell? (b'.add j) = some u := by
    intro b' e j u hu
    obtain ⟨i, t, h1, h2⟩ := arV_at ar j u hu
    obtain ⟨g1, _⟩ := a3 (by rintro rfl; simp at h1)
    rw [g1] at e
    obtain rfl := Option.some.inj e
    obtain ⟨q1, q2⟩ := a4 i t h1
    rw [sadd_pl]
    rcases h2 with ⟨rfl, rfl⟩ | ⟨rfl, rfl⟩
    · exact q1
    · rw [show oo + (i * 2 + 1) = oo + i * 2 + 1 by omega]; exact q2
  refine wpList_append_grows w hgd s x 86 ho 88 j z 2 16 Tryz.underlying86 hj hz hj1 hj2 hzs (by decide) ao ar.length ar.length (arV ar) hs (fun e => ?_) (arV_len ar) hread ⟨c, 0, none⟩ 1 1 [.int .i64 lb, .bool b] hx rfl (fun j u hu => ?_) (by simp [Value.oneCell']) (by omega) (by unfold maxLen; omega) (by omega) ?_
  · subst e
    have : ar = [] := by
      by_cases h : ar = []
      · exact h
      · obtain ⟨h1, _⟩ := a3 h; cases h1
    subst this; exact ⟨rfl, rfl⟩
  · rw [sadd_pl, Nat.zero_add, blk_cell hc]
    rw [← hu]; simp
  · intro v w' hown hgr
    have hb : Below w.heap.size w w' := ⟨hgr.os, hgr.tape, hgr.output, hgr.size, fun k hk => hgr.block k hk (by simp)⟩
    obtain ⟨g, cap', rfl⟩ : ∃ g cap', v = .slice (some ⟨g, 0, none⟩) (ar.length + 1) cap' := by
      rcases hown.2 with ⟨_, h0⟩ | ⟨g', cap', cur, h1, _⟩
      · omega
      · exact ⟨g', cap', h1⟩
    obtain ⟨r1, r2, r3, r4⟩ : w.heap.size ≤ g ∧ g < w'.heap.size ∧ ar.length + 1 ≤ cap' ∧ ∀ j, j < (ar.length + 1) * 2 → w'.cell? ⟨g, j, none⟩ = (arV ar ++ [.int .i64 lb, .bool b])[j]? := by
      rcases hown.2 with ⟨h1, _⟩ | ⟨g', cap'', cur, h1, h2, h3, h4, h5, h6, h7⟩
      · cases h1
      · cases h1
        refine ⟨h2, (Array.getElem?_eq_some_iff.1 h3).1, h4, fun j hj => ?_⟩
        rw [blk_cell h3, ← h7, List.getElem?_take, if_pos hj]
        simp
    have hE : arV ar ++ [.int .i64 lb, .bool b] = arV (ar ++ [(lb, b)]) := by
      unfold arV
      rw [List.flatMap_append]; rfl
    have hl : (ar ++ [(lb, b)]).length = ar.length + 1 := by simp
    have := h g cap' w' ⟨by rw [hl]; exact r3, by rw [hl]; omega, g, 0, fun _ => ⟨rfl, r2⟩, fun i t hi => ?_⟩ r1 hb
    · rw [hl] at this; exact this
    · have hil : i < ar.length + 1 := by have := (List.getElem?_eq_some_iff.1 hi).1; rw [hl] at this; exact this
      obtain ⟨g1, g2⟩ := arV_get _ i t hi
      rw [← hE] at g1 g2
      exact ⟨by rw [Nat.zero_add, r4 _ (by omega)]; exact g1, by rw [Nat.zero_add, r4 _ (by omega)]; exact g2⟩
/-! Lists, in their order. -/
theorem gtL_app (D : List (Int × Pth × Nat)) (root : List Fl) (p : Pth) (m : List Fl) : ∀ (l : List Fl) (o : Nat), gtL D root p o (l ++ m) = (gtL D root p o l && gtL D root p (o + l.length) m)
  | [], o => by rw [gtL]; rfl
  | x :: l, o => by
    rw [List.cons_append, gtL, gtL, gtL_app D root p m l (o + 1), List.length_cons, show o + 1 + l.length = o + (l.length + 1) by omega, Bool.and_assoc]
theorem gtL_take {D : List (Int × Pth × Nat)} {root : List Fl} {p : Pth} {xs : List Fl} {i : Nat} {x : Fl} (h : xs[i]? = some x) : gtL D root p 0 (xs.take (i + 1)) = (gtL D root p 0 (xs.take i) && gtF D root p i x) := by
  have hl : (xs.take i).length = i := by rw [List.length_take]; have := (List.getElem?_eq_some_iff.1 h).1; omega
  rw [List.take_add_one, h, gtL_app, hl, Nat.zero_add]
  simp [gtL]
theorem gtB_app (D : List (Int × Pth × Nat)) (root : List Fl) (p : Pth) (i : Nat) (m : List (List Fl)) : ∀ (l : List (List Fl)) (o : Nat), gtB D root p i o (l ++ m) = (gtB D root p i o l && gtB D root p i (o + l.length) m)
  | [], o => by rw [gtB]; rfl
  | x :: l, o => by
    rw [List.cons_append, gtB, gtB, gtB_app D root p i m l (o + 1), List.length_cons, show o + 1 + l.length = o + (l.length + 1) by omega, Bool.and_assoc]
theorem gtB_take {D : List (Int × Pth × Nat)} {root : List Fl} {p : Pth} {i : Nat} {b : List (List Fl)} {j : Nat} {y : List Fl} (h : b[j]? = some y) : gtB D root p i 0 (b.take (j + 1)) = (gtB D root p i 0 (b.take j) && gtL D root ((i, j) :: p) 0 y) := by
  have hl : (b.take j).length = j := by rw [List.length_take]; have := (List.getElem?_eq_some_iff.1 h).1; omega
  rw [List.take_add_one, h, gtB_app, hl, Nat.zero_add]
  simp [gtB]
theorem lsL_app (ar : List (Int × Bool)) (m : List Fl) : ∀ (l : List Fl), lsL ar (l ++ m) = (lsL ar l && lsL ar m)
  | [] => by rw [lsL]; rfl
  | x :: l => by rw [List.cons_append, lsL, lsL, lsL_app ar m l, Bool.and_assoc]
theorem lsL_take {ar : List (Int × Bool)} {xs : List Fl} {i : Nat} {x : Fl} (h : xs[i]? = some x) : lsL ar (xs.take (i + 1)) = (lsL ar (xs.take i) && lsF ar 0 x) := by
  rw [List.take_add_one, h, lsL_app]
  simp [lsL]
theorem lsB_app (ar : List (Int × Bool)) (m : List (List Fl)) : ∀ (l : List (List Fl)), lsB ar (l ++ m) = (lsB ar l && lsB ar m)
  | [] => by rw [lsB]; rfl
  | x :: l => by rw [List.cons_append, lsB, lsB, lsB_app ar m l, Bool.and_assoc]
theorem lsB_take {ar : List (Int × Bool)} {b : List (List Fl)} {j : Nat} {y : List Fl} (h : b[j]? = some y) : lsB ar (b.take (j + 1)) = (lsB ar (b.take j) && lsL ar y) := by
  rw [List.take_add_one, h, lsB_app]
  simp [lsB]
theorem usL_app (m : List Fl) : ∀ (l : List Fl), usL (l ++ m) = usL l ++ usL m
  | [] => by rw [usL]; rfl
  | x :: l => by rw [List.cons_append, usL, usL, usL_app m l, List.append_assoc]
theorem usL_take {xs : List Fl} {i : Nat} {x : Fl} (h : xs[i]? = some x) : usL (xs.take (i + 1)) = usL (xs.take i) ++ usF x := by
  rw [List.take_add_one, h, usL_app]
  simp [usL]
theorem usB_app (m : List (List Fl)) : ∀ (l : List (List Fl)), usB (l ++ m) = usB l ++ usB m
  | [] => by rw [usB]; rfl
  | x :: l => by rw [List.cons_append, usB, usB, usB_app m l, List.append_assoc]
theorem usB_take {b : List (List Fl)} {j : Nat} {y : List Fl} (h : b[j]? = some y) : usB (b.take (j + 1)) = usB (b.take j) ++ usL y := by
  rw [List.take_add_one, h, usB_app]
  simp [usB]
theorem cont_app (a b : List Int) (m : Int) : (a ++ b).contains m = (a.contains m || b.contains m) := List.contains_append ..
/-! Behind a label. -/
theorem lsF_10 (ar : List (Int × Bool)) (lb l d : Int) (bd : List (List Fl)) : lsF ar lb (.mk 10 l d bd) = lsF ar l (innerB bd) := by
  rw [lsF, if_pos rfl]
  rcases bd with _ | ⟨_ | ⟨y, ys⟩, yss⟩
  · rw [lsI]; simp [innerB, emptyFl, lsF, in1, in2, isLp]
  · rw [lsI]; simp [innerB, emptyFl, lsF, in1, in2, isLp]
  · rw [lsI]; rfl
theorem gtF_10 (D : List (Int × Pth × Nat)) (root : List Fl) (p : Pth) (i : Nat) (l d : Int) (bd : List (List Fl)) : gtF D root p i (.mk 10 l d bd) = gtF D root p i (innerB bd) := by
  rw [gtF, if_pos rfl]
  rcases bd with _ | ⟨_ | ⟨y, ys⟩, yss⟩
  · rw [gtI]; simp [innerB, emptyFl, gtF, in1, in2]
  · rw [gtI]; simp [innerB, emptyFl, gtF, in1, in2]
  · rw [gtI]; rfl
theorem usF_10 (l d : Int) (bd : List (List Fl)) : usF (.mk 10 l d bd) = usF (innerB bd) := by
  rw [usF, if_pos rfl]
  rcases bd with _ | ⟨_ | ⟨y, ys⟩, yss⟩
  · rw [usI]; simp [innerB, emptyFl, usF, in1, in2]
  · rw [usI]; simp [innerB, emptyFl, usF, in1, in2]
  · rw [usI]; rfl
theorem stF_10 {l d : Int} {bd : List (List Fl)} {t : Bool} (h : stF (.mk 10 l d bd) t = true) : stF (innerB bd) t = true := by
  have h2 : stI bd t = true := by
    rw [stF] at h
    simp at h
    exact h.2.2.1.2
  rw [stI_inner] at h2
  exact h2
theorem st_lbl {k l d : Int} {b : List (List Fl)} {t : Bool} (h : stF (.mk k l d b) t = true) : -1 ≤ l ∧ l ≤ 9 := by
  by_cases h1 : k < 0 ∨ 20 < k ∨ l < -1 ∨ 9 < l
  · rw [stF_out _ _ _ _ _ h1] at h; cases h
  · omega
theorem st_bel {k l d : Int} {b : List (List Fl)} {t : Bool} (h : stF (.mk k l d b) t = true) : (k = 2 → b.length < 3) ∧ (k = 3 ∨ k = 4 ∨ k = 5 ∨ k = 9 → b.length < 2) ∧ (in1 k = true ∨ in2 k = true → ∃ u, liB b u = true) := by
  refine ⟨?_, ?_, ?_⟩
  · rintro rfl
    rw [stF] at h
    simp at h
    exact h.2.2.1.2
  · intro hk
    rw [stF] at h
    rcases hk with rfl | rfl | rfl | rfl <;> simp at h <;> exact h.2.2.1.2
  · intro hk
    rw [stF] at h
    have hk' : k = 2 ∨ k = 3 ∨ k = 4 ∨ k = 5 ∨ k = 9 ∨ k = 6 ∨ k = 7 ∨ k = 8 := by
      rcases hk with hk | hk
      · rcases (in1_iff k).1 hk with h | h | h | h | h <;> simp [h]
      · rcases (in2_iff k).1 hk with h | h | h <;> simp [h]
    rcases hk' with rfl | rfl | rfl | rfl | rfl | rfl | rfl | rfl <;> simp at h
    all_goals first | exact ⟨false, h.2.2.2⟩ | exact ⟨true, h.2.2.2⟩
theorem liB_mem {b : List (List Fl)} : ∀ {u : Bool}, liB b u = true → ∀ y ∈ b, ∃ t, fiL y t = true := by
  induction b with
  | nil => intro u _ y hy; cases hy
  | cons z zs ih =>
    intro u h y hy
    rw [liB_cons, Bool.and_eq_true] at h
    rcases List.mem_cons.1 hy with rfl | hy
    · exact ⟨_, h.1⟩
    · exact ih h.2 y hy
theorem fiL_mem {xs : List Fl} : ∀ {u : Bool}, fiL xs u = true → ∀ x ∈ xs, ∃ t, stF x t = true := by
  induction xs with
  | nil => intro u _ y hy; cases hy
  | cons z zs ih =>
    intro u h y hy
    rw [fiL_cons, Bool.and_eq_true] at h
    rcases List.mem_cons.1 hy with rfl | hy
    · exact ⟨_, h.1⟩
    · exact ih h.2 y hy
theorem ctL_at : ∀ {l : List Fl} {i : Nat} {x : Fl}, l[i]? = some x → ct x ≤ ctL l
  | y :: ys, 0, x, h => by simp at h; subst h; rw [ctL]; omega
  | y :: ys, i + 1, x, h => by have := ctL_at (l := ys) (i := i) (x := x) (by simpa using h); rw [ctL]; omega
theorem ctB_at : ∀ {b : List (List Fl)} {i : Nat} {y : List Fl}, b[i]? = some y → ctL y ≤ ctB b
  | z :: zs, 0, x, h => by simp at h; subst h; rw [ctB]; omega
  | z :: zs, i + 1, x, h => by have := ctB_at (b := zs) (i := i) (y := x) (by simpa using h); rw [ctB]; omega
theorem ct_mk (k l d : Int) (b : List (List Fl)) : ct (.mk k l d b) = ctB b + 1 := by rw [ct]
mutual
theorem inF_ct : ∀ x : Fl, ct (inF x) ≤ ct x
  | .mk k l d b => by
    rw [inF]
    by_cases h : k = 10
    · rw [if_pos h, ct_mk]; exact inI_ct b
    · rw [if_neg h]; exact Nat.le_refl _
theorem inI_ct : ∀ b : List (List Fl), ct (inI b) ≤ ctB b + 1
  | (x :: xs) :: ys => by rw [inI, ctB, ctL]; have := inF_ct x; omega
  | [] => by rw [inI, emptyFl, ct_mk, ctB]; omega
  | [] :: ys => by rw [inI, emptyFl, ct_mk, ctB]; omega
end
theorem bel_ct (x : Fl) : ctB (bel (inF x)) + 1 ≤ ct x := by
  have h := inF_ct x
  have h2 : ∀ y : Fl, ctB (bel y) + 1 ≤ ct y := by
    intro y
    cases y with
    | mk k l d b =>
      rw [bel, ct_mk]
      split
      · omega
      · rw [ctB]; omega
  have := h2 (inF x)
  omega
def LookC (H0 H1 J M1 M2 M3 : Nat) (adr dnf : Pth → Nat) (root : List Fl) (q : Pth) (xs : List Fl) : Prop :=
  ∀ (ar : List (Int × Bool)) (a : Option Addr) (cap : Nat) (bad : Bool) (U : Int → Bool) (w : World), LE w H0 H1 J M1 M2 M3 adr dnf root → JC w J M1 M2 M3 bad → UM w M3 U → AR w w.heap.size a cap ar → (∀ b, a = some b → b.block ≠ J ∧ b.block ≠ M3) → (a = none → cap = 0) → ar.length + ctL xs ≤ 50000 →
    Calls Tryz.prog 42 #[.pointer (some ⟨J, 0, none⟩), .pointer (some ⟨adr q, 0, none⟩), .slice a ar.length cap] w fun e w' => e = .returned (.tuple #[]) ∧ JC w' J M1 M2 M3 (bad || !(gtL (dpL [] 0 root) root q 0 xs && lsL ar xs)) ∧ UM w' M3 (fun m => U m || (usL xs).contains m) ∧ Fx [J, M3] w.heap.size w w'
end Go.Proofs.YtpodifbgfcclbaaGreatDoor
