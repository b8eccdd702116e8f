/- Whether statements declare a variable of their block. -/
import Derived.Test.YtpodifbgfcclbaaGreatDoorVal1
import Derived.Test.YtpodifbgfcclbaaGreatDoorJm1
set_option linter.unusedVariables false
set_option linter.unusedSimpArgs false
namespace Go.Proofs.YtpodifbgfcclbaaGreatDoor
open Go.RowKit
attribute [local go_sem] Nat.lt_add_one_of_lt

set_option maxRecDepth 100000 in
set_option maxHeartbeats 8000000 in
theorem declares_any (l : List Fl) (a : Option Addr) (cap H : Nat) (w : World) (hs : SL w H a cap l) (hH : H ≤ w.heap.size) : Calls Tryz.prog 30 #[.slice a l.length cap] w (RetB w (l.any decF)) := by
  have hlen : l.length * 48 ≤ 140737488355328 := hs.2.1
  obtain ⟨_, _, b, o, hsa, he⟩ := hs
  have HE := Lib.hid he
  have HSA := Lib.hid hsa
  clear he hsa
  go_enter Tryz.func30, Tryz.ntmps30
  go_wp2_with fail
  go_loopg [7] l.length (fun g vi wr => ∃ i : Nat, i + g = l.length ∧ vi = .int .i64 i ∧ (l.take i).any decF = false ∧ Below w.heap.size w wr)
  case atStart => exact ⟨0, by omega, rfl, rfl, Below.refl _ _⟩
  case round =>
    obtain ⟨i, hi, rfl, hf, hb⟩ := hrel
    by_cases hlt : i < l.length
    · obtain ⟨hbH, k, lb, d, bd, a', cap', _, hx, c0, c1, c2, c3, hsl⟩ := HE.out.at i hlt
      obtain rfl := HSA.out (by rintro rfl; simp at hlt)
      have hbw : b < w.heap.size := by omega
      have d0 : wr.cell? ⟨b, o + i * 4, none⟩ = _ := (hb.cell (p := ⟨b, o + i * 4, none⟩) hbw).trans c0
      have d1 : wr.cell? ⟨b, o + i * 4 + 1, none⟩ = _ := (hb.cell (p := ⟨b, o + i * 4 + 1, none⟩) hbw).trans c1
      have d2 : wr.cell? ⟨b, o + i * 4 + 2, none⟩ = _ := (hb.cell (p := ⟨b, o + i * 4 + 2, none⟩) hbw).trans c2
      have d3 : wr.cell? ⟨b, o + i * 4 + 3, none⟩ = _ := (hb.cell (p := ⟨b, o + i * 4 + 3, none⟩) hbw).trans c3
      have hbr : b < wr.heap.size := by have := hb.size; omega
      have hiI : (i : Int) < (l.length : Int) := by omega
      have hi0 : (0 : Int) ≤ (i : Int) := by omega
      have hszr : w.heap.size ≤ wr.heap.size := hb.size
      obtain ⟨B, hB⟩ : ∃ B, B = wr.heap.size := ⟨_, rfl⟩
      have HF := Lib.hid hf
      have hb1 := hb.alloc (by omega) (.cells #[.int .i64 k, .int .i64 lb, .int .i64 d, .slice a' bd.length cap'] 27)
      have hn1 := blk_new wr #[.int .i64 k, .int .i64 lb, .int .i64 d, .slice a' bd.length cap'] 27
      rw [← hB] at hn1
      have HB1 := Lib.hid hb1
      have HN1 := Lib.hid hn1
      have HX := Lib.hid hx
      have HSL := Lib.hid hsl
      have HBB := Lib.hid hB
      obtain ⟨g0, hg0⟩ : ∃ g0, g0 = gk := ⟨_, rfl⟩
      clear hf hb hx hsl c0 c1 c2 c3 hb1 hn1 hB
      go_wp2_with fail
      rw [← HBB.out]
      go_loopg [27] (rk (.mk k lb d bd)) (fun g vp wq => ∃ k2 l2 d2 bd2 a2 cap2, rk (.mk k2 l2 d2 bd2) ≤ g ∧ decF (.mk k2 l2 d2 bd2) = decF (.mk k lb d bd) ∧ wq.heap[B]? = some (.cells #[.int .i64 k2, .int .i64 l2, .int .i64 d2, .slice a2 bd2.length cap2] 27) ∧ SLL w H a2 cap2 bd2 ∧ Below w.heap.size w wq)
      case atStart => exact ⟨k, lb, d, bd, a', cap', Nat.le_refl _, rfl, HN1.out, HSL.out, HB1.out⟩
      case round =>
        obtain ⟨k2, l2, d2, bd2, a2, cap2, hrk, hdec, hB2, hsl2, hb2⟩ := hrel
        have e0 : ∀ o, wr.cell? ⟨B, o, none⟩ = _ := blk_cell hB2
        have f0 : ∀ o, wr.frozen? ⟨B, o, none⟩ = false := blk_frz hB2
        have lB : B < wr.heap.size := (Array.getElem?_eq_some_iff.1 hB2).1
        have hBw : w.heap.size ≤ B := by rw [HBB.out]; omega
        have HB2 := Lib.hid hB2
        have HSL2 := Lib.hid hsl2
        have HBL := Lib.hid hb2
        have HD := Lib.hid hdec
        clear hB2 hsl2 hb2 hdec
        by_cases hk : k2 = 10
        · subst hk
          rcases bd2 with _ | ⟨_ | ⟨⟨k3, l3, d3, bd3⟩, xs⟩, ys⟩
          · have E0 : wr.cell? ⟨B, 0, none⟩ = some (.int .i64 10) := e0 0
            have E3 : wr.cell? ⟨B, 3, none⟩ = some (.slice a2 0 cap2) := e0 3
            clear e0
            go_wp2_with fail
            go_roundg (g0 - 1)
            case measure => omega
            refine ⟨i + 1, by omega, by simp, ?_, HBL.out⟩
            rw [List.take_add_one, HX.out, List.any_append, HF.out]
            have : decF (.mk k lb d bd) = false := by rw [← HD.out, decF, if_pos rfl, decI]
            simp [this]
          · obtain ⟨b3, o3, hs3, hl3⟩ := HSL2.out.2.2
            obtain rfl := hs3 (by simp)
            obtain ⟨q1, ⟨a3, cap3, q2, q3⟩, _⟩ := ELL_cons.1 hl3
            have e3 : wr.cell? ⟨b3, o3, none⟩ = _ := (HBL.out.cell (p := ⟨b3, o3, none⟩) (by show b3 < w.heap.size; omega)).trans q2
            have lb3 : b3 < wr.heap.size := by omega
            have E0 : wr.cell? ⟨B, 0, none⟩ = some (.int .i64 10) := e0 0
            obtain ⟨n2, hn2, E3⟩ : ∃ n2 : Nat, 0 < n2 ∧ wr.cell? ⟨B, 3, none⟩ = some (.slice (some ⟨b3, o3, none⟩) n2 cap2) := ⟨_, by simp, e0 3⟩
            have hn2I : (0 : Int) < (n2 : Int) := by omega
            have e3' : wr.cell? ⟨b3, o3, none⟩ = some (.slice a3 0 cap3) := e3
            clear hs3 hl3 q2 q3 e0 e3
            go_wp2_with fail
            go_roundg (g0 - 1)
            case measure => omega
            refine ⟨i + 1, by omega, by simp, ?_, HBL.out⟩
            rw [List.take_add_one, HX.out, List.any_append, HF.out]
            have : decF (.mk k lb d bd) = false := by rw [← HD.out, decF, if_pos rfl, decI]
            simp [this]
          · obtain ⟨b3, o3, hs3, hl3⟩ := HSL2.out.2.2
            obtain rfl := hs3 (by simp)
            obtain ⟨q1, ⟨a3, cap3, q2, q3⟩, _⟩ := ELL_cons.1 hl3
            obtain ⟨_, _, b4, o4, hs4, hl4⟩ := q3
            obtain rfl := hs4 (by simp)
            obtain ⟨p1, p2, p3, p4, ⟨a5, cap5, p5, p6⟩, _⟩ := EL_cons.1 hl4
            have e3 : wr.cell? ⟨b3, o3, none⟩ = _ := (HBL.out.cell (p := ⟨b3, o3, none⟩) (by show b3 < w.heap.size; omega)).trans q2
            have lb3 : b3 < wr.heap.size := by omega
            have lb4 : b4 < wr.heap.size := by omega
            have g1 : wr.cell? ⟨b4, o4, none⟩ = _ := (HBL.out.cell (p := ⟨b4, o4, none⟩) (by show b4 < w.heap.size; omega)).trans p2
            have g2 : wr.cell? ⟨b4, o4 + 1, none⟩ = _ := (HBL.out.cell (p := ⟨b4, o4 + 1, none⟩) (by show b4 < w.heap.size; omega)).trans p3
            have g3 : wr.cell? ⟨b4, o4 + 2, none⟩ = _ := (HBL.out.cell (p := ⟨b4, o4 + 2, none⟩) (by show b4 < w.heap.size; omega)).trans p4
            have g4 : wr.cell? ⟨b4, o4 + 3, none⟩ = _ := (HBL.out.cell (p := ⟨b4, o4 + 3, none⟩) (by show b4 < w.heap.size; omega)).trans p5
            have P6 := Lib.hid p6
            have E0 : wr.cell? ⟨B, 0, none⟩ = some (.int .i64 10) := e0 0
            have E1 : wr.cell? ⟨B, 1, none⟩ = some (.int .i64 l2) := e0 1
            have E2 : wr.cell? ⟨B, 2, none⟩ = some (.int .i64 d2) := e0 2
            obtain ⟨n2, hn2, E3⟩ : ∃ n2 : Nat, 0 < n2 ∧ wr.cell? ⟨B, 3, none⟩ = some (.slice (some ⟨b3, o3, none⟩) n2 cap2) := ⟨_, by simp, e0 3⟩
            have hn2I : (0 : Int) < (n2 : Int) := by omega
            obtain ⟨n3, hn3, e3'⟩ : ∃ n3 : Nat, 0 < n3 ∧ wr.cell? ⟨b3, o3, none⟩ = some (.slice (some ⟨b4, o4, none⟩) n3 cap3) := ⟨_, by simp, e3⟩
            have hn3I : (0 : Int) < (n3 : Int) := by omega
            clear hs3 hl3 q2 hs4 hl4 p2 p3 p4 p5 p6 e0 e3
            go_wp2_with fail
            go_roundg (gk - 1)
            case measure => rw [rk_mk, rkB, rkL] at hrk; omega
            refine ⟨k3, l3, d3, bd3, a5, cap5, ?_, ?_, ?_, P6.out, (((HBL.out.setCell hBw _).setCell hBw _).setCell hBw _).setCell hBw _⟩
            · rw [rk_mk, rkB, rkL] at hrk; omega
            · rw [← HD.out]
              conv => rhs; rw [decF, if_pos rfl, decI]
            · rw [blk_set (blk_set (blk_set (blk_set HB2.out _) _) _) _]; rfl
        · by_cases h15 : k2 = 15
          · subst h15
            go_wp2_with fail
            refine bodyPost_ret (results_tmp rfl _ _ _) rfl ?_
            refine ⟨?_, HBL.out⟩
            have : l.any decF = true := List.any_eq_true.2 ⟨_, List.mem_of_getElem? HX.out, by rw [← HD.out, decF]; rfl⟩
            rw [this]; rfl
          · by_cases h16 : k2 = 16
            · subst h16
              go_wp2_with fail
              refine bodyPost_ret (results_tmp rfl _ _ _) rfl ?_
              refine ⟨?_, HBL.out⟩
              have : l.any decF = true := List.any_eq_true.2 ⟨_, List.mem_of_getElem? HX.out, by rw [← HD.out, decF]; rfl⟩
              rw [this]; rfl
            · have q10 : (k2 == 10) = false := by simpa using hk
              have q15 : (k2 == 15) = false := by simpa using h15
              have q16 : (k2 == 16) = false := by simpa using h16
              go_wp2_with fail
              go_roundg (g0 - 1)
              case measure => omega
              refine ⟨i + 1, by omega, by simp, ?_, HBL.out⟩
              rw [List.take_add_one, HX.out, List.any_append, HF.out]
              have : decF (.mk k lb d bd) = false := by rw [← HD.out, decF, if_neg hk]; simp [h15, h16]
              simp [this]
    · have hiI : ¬ (i : Int) < (l.length : Int) := by omega
      obtain rfl : i = l.length := by omega
      rw [List.take_length] at hf
      have HF := Lib.hid hf
      clear hf
      go_wp2_with fail
      go_ret
      exact ⟨by rw [HF.out]; rfl, hb⟩
end Go.Proofs.YtpodifbgfcclbaaGreatDoor
