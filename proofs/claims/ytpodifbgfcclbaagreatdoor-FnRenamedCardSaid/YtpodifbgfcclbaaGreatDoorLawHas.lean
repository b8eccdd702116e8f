/- Whether a label occurs in statements. -/
import Derived.Test.YtpodifbgfcclbaaGreatDoorVal1
import Derived.Test.YtpodifbgfcclbaaGreatDoorJmp1
set_option linter.unusedVariables false
set_option linter.unusedSimpArgs false
namespace Go.Proofs.YtpodifbgfcclbaaGreatDoor
open Go.RowKit
attribute [local go_sem] Nat.lt_add_one_of_lt

theorem hasL_app (n : Int) (b : List Fl) : ∀ a : List Fl, hasL n (a ++ b) = (hasL n a || hasL n b) := fun a => hasL_append n b a
theorem hasL_take {n : Int} {l : List Fl} {i : Nat} {x : Fl} (h : l[i]? = some x) : hasL n (l.take (i + 1)) = (hasL n (l.take i) || hasF n x) := by
  rw [List.take_add_one, h, hasL_append]
  simp [hasL]
theorem hasB_append (n : Int) (b : List (List Fl)) : ∀ a : List (List Fl), hasB n (a ++ b) = (hasB n a || hasB n b)
  | [] => rfl
  | x :: a => by rw [List.cons_append, hasB, hasB, hasB_append n b a, Bool.or_assoc]
theorem hasB_take {n : Int} {l : List (List Fl)} {i : Nat} {x : List Fl} (h : l[i]? = some x) : hasB n (l.take (i + 1)) = (hasB n (l.take i) || hasL n x) := by
  rw [List.take_add_one, h, hasB_append]
  simp [hasB]
theorem hasL_mem {n : Int} {l : List Fl} {i : Nat} {x : Fl} (h : l[i]? = some x) (hx : hasF n x = true) : hasL n l = true := by
  rw [← List.take_append_drop (i + 1) l, hasL_append, hasL_take h, hx]; simp
theorem hasB_mem {n : Int} {l : List (List Fl)} {i : Nat} {x : List Fl} (h : l[i]? = some x) (hx : hasL n x = true) : hasB n l = true := by
  rw [← List.take_append_drop (i + 1) l, hasB_append, hasB_take h, hx]; simp
set_option maxHeartbeats 4000000 in
theorem has_any (n : Int) : ∀ (fuel : Nat) (l : List Fl), rkL l < fuel → ∀ (a : Option Addr) (cap H : Nat) (w : World), SL w H a cap l → H ≤ w.heap.size → Calls Tryz.prog 21 #[.slice a l.length cap, .int .i64 n] w (RetB w (hasL n l)) := by
  intro fuel
  induction fuel with
  | zero => intro l h; omega
  | succ fuel ih =>
    intro l hrk a cap H w hs hH
    have hlen : l.length * 48 ≤ 140737488355328 := hs.2.1
    obtain ⟨_, _, b, o, hsa, he⟩ := hs
    have HE := Lib.hid he
    have HSA := Lib.hid hsa
    have IH := Lib.hid ih
    clear he hsa ih
    go_enter Tryz.func21, Tryz.ntmps21
    go_wp2_with fail
    go_loopg [11] l.length (fun g vi wr => ∃ i : Nat, i + g = l.length ∧ vi = .int .i64 i ∧ hasL n (l.take i) = false ∧ Below w.heap.size w wr)
    case atStart => exact ⟨0, by omega, rfl, rfl, Below.refl _ _⟩
    case round =>
      obtain ⟨i, hi, rfl, hf, hb⟩ := hrel
      by_cases hlt : i < l.length
      · obtain ⟨hbH, k, lb, d, bd, a', cap', _, hx, c0, c1, c2, c3, hsl⟩ := HE.out.at i hlt
        obtain rfl := HSA.out (by rintro rfl; simp at hlt)
        have hbw : b < w.heap.size := by omega
        have d0 : wr.cell? ⟨b, o + i * 4, none⟩ = _ := (hb.cell (p := ⟨b, o + i * 4, none⟩) hbw).trans c0
        have d1 : wr.cell? ⟨b, o + i * 4 + 1, none⟩ = _ := (hb.cell (p := ⟨b, o + i * 4 + 1, none⟩) hbw).trans c1
        have d2 : wr.cell? ⟨b, o + i * 4 + 2, none⟩ = _ := (hb.cell (p := ⟨b, o + i * 4 + 2, none⟩) hbw).trans c2
        have d3 : wr.cell? ⟨b, o + i * 4 + 3, none⟩ = _ := (hb.cell (p := ⟨b, o + i * 4 + 3, none⟩) hbw).trans c3
        have hbr : b < wr.heap.size := by have := hb.size; omega
        have hiI : (i : Int) < (l.length : Int) := by omega
        have hi0 : (0 : Int) ≤ (i : Int) := by omega
        have HF := Lib.hid hf
        have HB := Lib.hid hb
        have HX := Lib.hid hx
        have HSL := Lib.hid hsl
        clear hf hb hx hsl c0 c1 c2 c3
        by_cases hln : lb = n
        · subst hln
          go_wp2_with fail
          refine bodyPost_ret (results_tmp rfl _ _ _) rfl ?_
          refine ⟨?_, HB.out.alloc (by have := HB.out.size; omega) _⟩
          rw [hasL_mem HX.out (by rw [hasF]; simp)]; rfl
        · obtain ⟨g0, hg0⟩ : ∃ g0, g0 = gk := ⟨_, rfl⟩
          have hszr : w.heap.size ≤ wr.heap.size := HB.out.size
          obtain ⟨b2, o2, hsa2, hell⟩ := HSL.out.2.2
          have hlen2 : bd.length * 24 ≤ 140737488355328 := HSL.out.2.1
          have HELL := Lib.hid hell
          have HSA2 := Lib.hid hsa2
          have HB1 := Lib.hid (HB.out.alloc (by omega) (.cells #[.int .i64 k, .int .i64 lb, .int .i64 d, .slice a' bd.length cap'] 27))
          clear hell hsa2
          go_wp2_with fail
          go_loopg [22] bd.length (fun g vj wq => ∃ j : Nat, j + g = bd.length ∧ vj = .int .i64 j ∧ hasB n (bd.take j) = false ∧ Below w.heap.size w wq)
          case atStart => exact ⟨0, by omega, rfl, rfl, HB1.out⟩
          case round =>
            obtain ⟨j, hj, rfl, hfb, hbq⟩ := hrel
            by_cases hltj : j < bd.length
            · obtain ⟨hb2H, y, a3, cap3, _, hy, cy, hsy⟩ := HELL.out.at j hltj
              obtain rfl := HSA2.out (by rintro rfl; simp at hltj)
              have hbw2 : b2 < w.heap.size := by omega
              have dy : wr.cell? ⟨b2, o2 + j, none⟩ = _ := (hbq.cell (p := ⟨b2, o2 + j, none⟩) hbw2).trans cy
              have hbr2 : b2 < wr.heap.size := by have := hbq.size; omega
              have hjI : (j : Int) < (bd.length : Int) := by omega
              have hj0 : (0 : Int) ≤ (j : Int) := by omega
              have hry : rkL y < fuel := by
                have q1 := rkL_at HX.out
                have q2 := rkB_at hy
                rw [rk_mk] at q1
                omega
              have hcall := IH.out y hry a3 cap3 H wr (hsy.keep (fun q hq => hbq.block q (by omega)) (Nat.le_refl _)) (by have := hbq.size; omega)
              have HC := Lib.hid hcall
              have HFB := Lib.hid hfb
              have HBQ := Lib.hid hbq
              have HY := Lib.hid hy
              clear hcall hfb hbq hy cy hsy
              cases hyn : hasL n y with
              | true =>
                rw [hyn] at HC
                go_wp2_with fail
                refine (HC.out).mono ?_
                rintro e w5 ⟨rfl, hb5⟩
                have HB5 := Lib.hid hb5
                clear hb5
                go_wp2_with fail
                refine bodyPost_ret (results_tmp rfl _ _ _) rfl ?_
                refine ⟨?_, HBQ.out.trans (Below.mono HB5.out HBQ.out.size)⟩
                rw [hasL_mem HX.out (by rw [hasF, hasB_mem HY.out hyn]; simp)]; rfl
              | false =>
                rw [hyn] at HC
                go_wp2_with fail
                refine (HC.out).mono ?_
                rintro e w5 ⟨rfl, hb5⟩
                have HB5 := Lib.hid hb5
                clear hb5
                go_wp2_with fail
                go_roundg (gk - 1)
                case measure => omega
                exact ⟨j + 1, by omega, by simp, by rw [hasB_take HY.out, HFB.out, hyn]; rfl, HBQ.out.trans (Below.mono HB5.out HBQ.out.size)⟩
            · have hjI : ¬ (j : Int) < (bd.length : Int) := by omega
              obtain rfl : j = bd.length := by omega
              rw [List.take_length] at hfb
              have HFB := Lib.hid hfb
              have HBQ := Lib.hid hbq
              clear hfb hbq
              go_wp2_with fail
              go_roundg (g0 - 1)
              case measure => omega
              refine ⟨i + 1, by omega, by simp, ?_, HBQ.out⟩
              have hz : (lb == n) = false := by simpa using hln
              rw [hasL_take HX.out, HF.out, hasF, HFB.out, hz]; rfl
      · have hiI : ¬ (i : Int) < (l.length : Int) := by omega
        obtain rfl : i = l.length := by omega
        rw [List.take_length] at hf
        have HF := Lib.hid hf
        clear hf
        go_wp2_with fail
        go_ret
        exact ⟨by rw [HF.out]; rfl, hb⟩
end Go.Proofs.YtpodifbgfcclbaaGreatDoor
