/- The rules for labels: looking at the jumps of a list, the walk. -/
import Derived.Test.YtpodifbgfcclbaaGreatDoorSj4
import Derived.Deep.CutRange
import Derived.Deep.CutBlock
set_option linter.unusedVariables false
set_option linter.unusedSimpArgs false
namespace Go.Proofs.YtpodifbgfcclbaaGreatDoor
open Go.RowKit
attribute [local go_sem] Nat.lt_add_one_of_lt

theorem one_cont (l m : Int) : ([l] : List Int).contains m = (m == l) := by
  rw [List.contains_cons, List.contains_nil, Bool.or_false]
theorem bool_mix (b g l g1 l1 gb lb : Bool) : (((b || !(g && l)) || !(g1 && l1)) || !(gb && lb)) = (b || !((g && (g1 && gb)) && (l && (l1 && lb)))) := by
  cases b <;> cases g <;> cases l <;> cases g1 <;> cases l1 <;> cases gb <;> cases lb <;> rfl
set_option maxRecDepth 100000 in
set_option maxHeartbeats 16000000 in
theorem look_any (H0 H1 J M1 M2 M3 : Nat) (adr dnf : Pth → Nat) (root : List Fl) : ∀ (fuel : Nat) (q : Pth) (xs : List Fl), getL root q = some xs → rkL xs < fuel → (∃ t, fiL xs t = true) → LookC H0 H1 J M1 M2 M3 adr dnf root q xs := by
  intro fuel
  induction fuel with
  | zero => intro q xs _ h; omega
  | succ fuel ih =>
    intro q xs hq hrk hfi ar a cap bad U w E hJ hU hA hAJ hcap0 hct
    obtain ⟨tf, hfi⟩ := hfi
    obtain ⟨⟨ax, capx, hnode, hsl⟩, hadl, _⟩ := E.node q xs hq
    have hH1w := E.h1
    have hH01 := E.h01
    have hJ0 := E.jl
    have n2 : w.cell? ⟨adr q, 2, none⟩ = some (.slice ax xs.length capx) := blk_cell hnode 2
    have lq : adr q < w.heap.size := by omega
    have hJl := hJ.lt
    have hMl := hU.lt
    have hlen : xs.length * 48 ≤ 140737488355328 := hsl.2.1
    have hcapI : ar.length ≤ cap := hA.1
    obtain ⟨_, _, bx, ox, hsx, he⟩ := hsl
    obtain ⟨CQ, hCQ⟩ : ∃ CQ, CQ = adr q := ⟨_, rfl⟩
    rw [← hCQ] at n2 lq ⊢
    have HE := Lib.hid E
    have HJ := Lib.hid hJ
    have HU := Lib.hid hU
    have HA := Lib.hid hA
    have HAJ := Lib.hid hAJ
    have HEL := Lib.hid he
    have HSX := Lib.hid hsx
    have HFI := Lib.hid hfi
    have HQ := Lib.hid hq
    have HCQ := Lib.hid hCQ
    have IH := Lib.hid ih
    have HC0 := Lib.hid hcap0
    have HNODE := Lib.hid hnode
    clear E hJ hU hA hAJ he hsx hfi hq hCQ ih hnode hcap0
    go_enter Tryz.func42, Tryz.ntmps42
    go_wp2_with fail
    clear n2
    go_loopg [16] xs.length (fun g vi wr => ∃ i : Nat, i + g = xs.length ∧ vi = .int .i64 i ∧ JC wr J M1 M2 M3 (bad || !(gtL (dpL [] 0 root) root q 0 (xs.take i) && lsL ar (xs.take i))) ∧ UM wr M3 (fun m => U m || (usL (xs.take i)).contains m) ∧ Fx [J, M3] w.heap.size w wr)
    case atStart => exact ⟨0, by omega, rfl, by rw [List.take_zero, gtL, lsL]; simpa using HJ.out, HU.out.congr (fun m => by rw [List.take_zero, usL]; simp), Fx.refl _ _ _⟩
    case round =>
      obtain ⟨i, hi, rfl, hJr, hUr, hfx⟩ := hrel
      by_cases hlt : i < xs.length
      · obtain ⟨hbH, k, lb, d, bd, a', cap', _, hx, c0, c1, c2, c3, hslx⟩ := HEL.out.at i hlt
        obtain rfl := HSX.out (by rintro rfl; simp at hlt)
        have hszr := hfx.size
        have d0 : wr.cell? ⟨bx, ox + i * 4, none⟩ = _ := (hfx.cell (p := ⟨bx, ox + i * 4, none⟩) (by show bx < _; omega) (by show bx ∉ _; simp; omega)).trans c0
        have d1 : wr.cell? ⟨bx, ox + i * 4 + 1, none⟩ = _ := (hfx.cell (p := ⟨bx, ox + i * 4 + 1, none⟩) (by show bx < _; omega) (by show bx ∉ _; simp; omega)).trans c1
        have d2 : wr.cell? ⟨bx, ox + i * 4 + 2, none⟩ = _ := (hfx.cell (p := ⟨bx, ox + i * 4 + 2, none⟩) (by show bx < _; omega) (by show bx ∉ _; simp; omega)).trans c2
        have d3 : wr.cell? ⟨bx, ox + i * 4 + 3, none⟩ = _ := (hfx.cell (p := ⟨bx, ox + i * 4 + 3, none⟩) (by show bx < _; omega) (by show bx ∉ _; simp; omega)).trans c3
        have hbr : bx < wr.heap.size := by omega
        have hiI : (i : Int) < (xs.length : Int) := by omega
        have hi0 : (0 : Int) ≤ (i : Int) := by omega
        obtain ⟨badr, hbadr⟩ : ∃ badr, badr = (bad || !(gtL (dpL [] 0 root) root q 0 (xs.take i) && lsL ar (xs.take i))) := ⟨_, rfl⟩
        obtain ⟨Ur, hUrd⟩ : ∃ Ur : Int → Bool, Ur = fun m => U m || (usL (xs.take i)).contains m := ⟨_, rfl⟩
        rw [← hbadr] at hJr
        rw [← hUrd] at hUr
        have hslr : SLL wr H0 a' cap' bd := hslx.keep (fun r hr => hfx.blk r (by omega) (by simp; omega)) (Nat.le_refl _)
        obtain ⟨tst, hst⟩ := fiL_mem HFI.out _ (List.mem_of_getElem? hx)
        have Er := HE.out.keep (hfx.mono hH1w (fun _ _ h => h)) ⟨_, hJr⟩
        have hAr : AR wr wr.heap.size a cap ar := HA.out.keep (fun b hb hbl => hfx.blk _ hbl (by have := HAJ.out b hb; simp [this.1, this.2])) hszr
        obtain ⟨B, hB⟩ : ∃ B, B = wr.heap.size := ⟨_, rfl⟩
        have hn1 := blk_new wr #[.int .i64 k, .int .i64 lb, .int .i64 d, .slice a' bd.length cap'] 27
        rw [← hB] at hn1
        have hbs : Below B wr (wr.alloc (.cells #[.int .i64 k, .int .i64 lb, .int .i64 d, .slice a' bd.length cap'] 27)) := by rw [hB]; exact (Below.refl _ _).alloc (Nat.le_refl _) _
        have hJlr := hJr.lt
        have hMlr := hUr.lt
        have hJB : J < B := by omega
        have hMB : M3 < B := by omega
        have hH0B : H0 ≤ B := by omega
        have hH1B : H1 ≤ B := by omega
        have HJR := Lib.hid hJr
        have HUR := Lib.hid hUr
        have HFX := Lib.hid hfx
        have HBADR := Lib.hid hbadr
        have HURD := Lib.hid hUrd
        have HSLR := Lib.hid hslr
        have HST := Lib.hid hst
        have HER := Lib.hid Er
        have HAR := Lib.hid hAr
        have HBB := Lib.hid hB
        have HN1 := Lib.hid hn1
        have HBS := Lib.hid hbs
        have HX := Lib.hid hx
        have HI := Lib.hid hi
        obtain ⟨g0, hg0⟩ : ∃ g0, g0 = gk := ⟨_, rfl⟩
        clear hJr hUr hfx hbadr hUrd hslr hst Er hAr hB hn1 hbs hx hslx c0 c1 c2 c3 hi
        go_wp2_with fail
        clear d0 d1 d2 d3
        rw [← HBB.out]
        go_loopg [9] (mea (.mk k lb d bd)) (fun g vl wq => ∃ k2 l2 d2 bd2 a2 cap2 lbv, vl = .int .i64 lbv ∧ mea (.mk k2 l2 d2 bd2) ≤ g ∧ inF (.mk k2 l2 d2 bd2) = inF (.mk k lb d bd) ∧ lsF ar lbv (.mk k2 l2 d2 bd2) = lsF ar 0 (.mk k lb d bd) ∧ stF (.mk k2 l2 d2 bd2) tst = true ∧ gtF (dpL [] 0 root) root q i (.mk k2 l2 d2 bd2) = gtF (dpL [] 0 root) root q i (.mk k lb d bd) ∧ usF (.mk k2 l2 d2 bd2) = usF (.mk k lb d bd) ∧ wq.heap[B]? = some (.cells #[.int .i64 k2, .int .i64 l2, .int .i64 d2, .slice a2 bd2.length cap2] 27 (0, 0)) ∧ SLL wq H0 a2 cap2 bd2 ∧ Below B wr wq)
        case atStart => exact ⟨k, lb, d, bd, a', cap', 0, rfl, Nat.le_refl _, rfl, rfl, HST.out, rfl, rfl, HN1.out, HSLR.out.keep (fun r hr => HBS.out.block r (by omega)) (Nat.le_refl _), HBS.out⟩
        case round =>
          obtain ⟨k2, l2, d2, bd2, a2, cap2, lbv, rfl, hme, hinf, hlsf, hstf, hgtf, husf, hB2, hsl2, hb2⟩ := hrel
          have e0 : ∀ o, wr.cell? ⟨B, o, none⟩ = _ := blk_cell hB2
          have lB : B < wr.heap.size := (Array.getElem?_eq_some_iff.1 hB2).1
          have E0 : wr.cell? ⟨B, 0, none⟩ = some (.int .i64 k2) := e0 0
          have E1 : wr.cell? ⟨B, 1, none⟩ = some (.int .i64 l2) := e0 1
          have E2 : wr.cell? ⟨B, 2, none⟩ = some (.int .i64 d2) := e0 2
          have E3 : wr.cell? ⟨B, 3, none⟩ = some (.slice a2 bd2.length cap2) := e0 3
          by_cases hk : k2 = 10
          · subst hk
            have ci := inner_any 10 l2 d2 bd2 a2 cap2 H0 wr hsl2 (by omega)
            have hst3 := stF_10 hstf
            rw [lsF_10] at hlsf
            rw [gtF_10] at hgtf
            rw [usF_10] at husf
            rw [inF_10] at hinf
            have CI := Lib.hid ci
            have HB2 := Lib.hid hB2
            have HBL := Lib.hid hb2
            have HINF := Lib.hid hinf
            have HME := Lib.hid hme
            have HLSF := Lib.hid hlsf
            have HGTF := Lib.hid hgtf
            have HUSF := Lib.hid husf
            have HST3 := Lib.hid hst3
            clear ci hB2 hsl2 hb2 hinf hme e0 hlsf hgtf husf hst3 hstf
            go_wp2_with fail
            refine (CI.out).mono ?_
            rintro e w1 ⟨k3, l3, d3, bd3, a3, cap3, hx3, rfl, hs3, hb3⟩
            have hB3 := (hb3.block B lB).trans HB2.out
            have g0' : ∀ o, w1.cell? ⟨B, o, none⟩ = _ := blk_cell hB3
            have f0' : ∀ o, w1.frozen? ⟨B, o, none⟩ = false := blk_frz hB3
            have G0 : w1.cell? ⟨B, 0, none⟩ = some (.int .i64 10) := g0' 0
            have G1 : w1.cell? ⟨B, 1, none⟩ = some (.int .i64 l2) := g0' 1
            have G2 : w1.cell? ⟨B, 2, none⟩ = some (.int .i64 d2) := g0' 2
            have G3 : w1.cell? ⟨B, 3, none⟩ = some (.slice a2 bd2.length cap2) := g0' 3
            have lB1 : B < w1.heap.size := by have := hb3.size; omega
            have hbw : Below B _ w1 := HBL.out.trans (Below.mono hb3 (by omega))
            have HB3 := Lib.hid hB3
            have HX3 := Lib.hid hx3
            have HS3 := Lib.hid hs3
            have HBW := Lib.hid hbw
            clear hB3 hx3 hs3 hb3 hbw g0' E0 E1 E2 E3
            go_wp2_with fail
            have hset : Below B w1 ((((w1.setCell ⟨B, 0, none⟩ (.int .i64 k3)).setCell ⟨B, 1, none⟩ (.int .i64 l3)).setCell ⟨B, 2, none⟩ (.int .i64 d3)).setCell ⟨B, 3, none⟩ (.slice a3 bd3.length cap3)) := ((((Below.refl B w1).setCell (Nat.le_refl _) _).setCell (Nat.le_refl _) _).setCell (Nat.le_refl _) _).setCell (Nat.le_refl _) _
            go_roundg (mea (.mk k3 l3 d3 bd3))
            case measure => rw [← HX3.out]; have := mea_inner l2 d2 bd2; have := HME.out; omega
            exact ⟨k3, l3, d3, bd3, a3, cap3, l2, rfl, Nat.le_refl _, by rw [← HX3.out]; exact HINF.out, by rw [← HX3.out]; exact HLSF.out, by rw [← HX3.out]; exact HST3.out, by rw [← HX3.out]; exact HGTF.out, by rw [← HX3.out]; exact HUSF.out, by rw [blk_set (blk_set (blk_set (blk_set HB3.out _) _) _) _]; rfl, HS3.out.keep (fun r hr => hset.block r (by omega)) (Nat.le_refl _), HBW.out.trans hset⟩
          · have q10 : (k2 == 10) = false := by simpa using hk
            have hJq := HJR.out.keep (hb2.block J hJB)
            have hUq := HUR.out.keep (hb2.block M3 hMB)
            have hszB := hb2.size
            have hfq : Fx [J, M3] w.heap.size w wr := HFX.out.trans (Fx.of (hb2.mono (by rw [HBB.out]; exact hszr)))
            have Eq := HER.out.keep (Fx.of (X := [J, M3]) (hb2.mono hH1B)) ⟨_, hJq⟩
            have hAq : AR wr B a cap ar := by
              have h1 := HAR.out
              rw [← HBB.out] at h1
              exact h1.keep (fun b hb hbl => hb2.block _ hbl) (Nat.le_refl _)
            have hlb := st_lbl hstf
            have hl1 := hlb.1
            have HJQ := Lib.hid hJq
            have HUQ := Lib.hid hUq
            have HFQ := Lib.hid hfq
            have HEQ := Lib.hid Eq
            have HAQ := Lib.hid hAq
            have HLSF := Lib.hid hlsf
            have HGTF := Lib.hid hgtf
            have HUSF := Lib.hid husf
            have HSTF := Lib.hid hstf
            have HINF := Lib.hid hinf
            have HB2 := Lib.hid hB2
            have HSL2 := Lib.hid hsl2
            have hctx : ar.length ≤ 50000 := by omega
            clear hJq hUq hfq Eq hAq hlsf hgtf husf hstf hinf hB2 hsl2 hb2 hme e0 hlb
            go_upto_block 4 with fail
            go_cut [8] from 31 to 76 (fun s8 wx => ∃ (ar' : List (Int × Bool)) (a8 : Option Addr) (cap8 : Nat) (g1 l1 : Bool) (u1 : List Int), s8 = .slice a8 ar'.length cap8 ∧ AR wx wx.heap.size a8 cap8 ar' ∧ (∀ b, a8 = some b → b.block ≠ J ∧ b.block ≠ M3) ∧ (a8 = none → cap8 = 0) ∧ ar'.length ≤ ar.length + 1 ∧ gtF (dpL [] 0 root) root q i (.mk k2 l2 d2 bd2) = (g1 && gtB (dpL [] 0 root) root q i 0 (bel (.mk k2 l2 d2 bd2))) ∧ lsF ar lbv (.mk k2 l2 d2 bd2) = (l1 && lsB ar' (bel (.mk k2 l2 d2 bd2))) ∧ (∀ m, (usF (.mk k2 l2 d2 bd2)).contains m = (u1.contains m || (usB (bel (.mk k2 l2 d2 bd2))).contains m)) ∧ JC wx J M1 M2 M3 (badr || !(g1 && l1)) ∧ UM wx M3 (fun m => Ur m || u1.contains m) ∧ Fx [J, M3] wr.heap.size wr wx)
            case first =>
              by_cases h3 : k2 = 3
              · subst h3
                cases a with
                | none =>
                  obtain rfl : ar = [] := List.length_eq_zero_iff.1 (by have := HC0.out rfl; omega)
                  have hc0 := HC0.out rfl
                  subst hc0
                  obtain ⟨W7, hW7⟩ : ∃ W7, W7 = wr.alloc (.cells #[.int .i64 lbv, .bool true] 88) := ⟨_, rfl⟩
                  have hb7 : Below wr.heap.size wr W7 := by rw [hW7]; exact (Below.refl _ _).alloc (Nat.le_refl _) _
                  have hz7 : W7.heap.size = wr.heap.size + 1 := by rw [hW7]; simp
                  have hc7 : W7.heap[wr.heap.size]? = some (.cells #[.int .i64 lbv, .bool true] 88 (0, 0)) := by rw [hW7]; exact blk_new _ _ _
                  have HB7 := Lib.hid hb7
                  have HZ7 := Lib.hid hz7
                  have HC7 := Lib.hid hc7
                  have HW7 := Lib.hid hW7
                  have HA7 := Lib.hid (HAQ.out.keep (w' := W7) (fun b hb hbl => hb7.block _ (by omega)) (Nat.le_refl _))
                  clear hb7 hz7 hc7 hW7
                  go_wp2_with (at_builtin; rw [← HW7.out]; refine wpList_AR rfl _ _ rfl HA7.out (by rfl) (by rfl) HC7.out (by omega) ?_)
                  intro g8 cap8 w8 hA8 hg8 hb8
                  have hz7 := HZ7.out
                  have HA8 := Lib.hid hA8
                  have HB8 := Lib.hid ((HB7.out.trans (Below.mono hb8 HB7.out.size)))
                  clear hA8 hb8 hz7
                  go_wp2_with fail
                  go_meet
                  have hz7 := HZ7.out
                  exact ⟨([] : List (Int × Bool)) ++ [(lbv, true)], some ⟨g8, 0, none⟩, cap8, true, true, [], (by first | rfl | simp), HA8.out, (fun b hb => by cases hb; exact ⟨by show g8 ≠ J; omega, by show g8 ≠ M3; omega⟩), (fun h => by cases h), (by simp), (by simp [gtF, bel, in1, in2]), (by simp [lsF, bel, in1, in2, isLp]), (fun m => by simp [usF, bel, in1, in2]), by simpa using HJQ.out.keep (HB8.out.block J (by omega)), (HUQ.out.keep (HB8.out.block M3 (by omega))).congr (fun m => by simp), Fx.of HB8.out⟩
                | some pa =>
                  have hcapJ : (ar.length : Int) ≤ (cap : Int) := by omega
                  obtain ⟨W7, hW7⟩ : ∃ W7, W7 = wr.alloc (.cells #[.int .i64 lbv, .bool true] 88) := ⟨_, rfl⟩
                  have hb7 : Below wr.heap.size wr W7 := by rw [hW7]; exact (Below.refl _ _).alloc (Nat.le_refl _) _
                  have hz7 : W7.heap.size = wr.heap.size + 1 := by rw [hW7]; simp
                  have hc7 : W7.heap[wr.heap.size]? = some (.cells #[.int .i64 lbv, .bool true] 88 (0, 0)) := by rw [hW7]; exact blk_new _ _ _
                  have HB7 := Lib.hid hb7
                  have HZ7 := Lib.hid hz7
                  have HC7 := Lib.hid hc7
                  have HW7 := Lib.hid hW7
                  have HA7 := Lib.hid (HAQ.out.keep (w' := W7) (fun b hb hbl => hb7.block _ (by omega)) (Nat.le_refl _))
                  clear hb7 hz7 hc7 hW7
                  go_wp2_with (at_builtin; rw [← HW7.out]; refine wpList_AR rfl _ _ rfl HA7.out (by rfl) (by rfl) HC7.out (by omega) ?_)
                  intro g8 cap8 w8 hA8 hg8 hb8
                  have hz7 := HZ7.out
                  have HA8 := Lib.hid hA8
                  have HB8 := Lib.hid ((HB7.out.trans (Below.mono hb8 HB7.out.size)))
                  clear hA8 hb8 hz7
                  go_wp2_with fail
                  go_meet
                  have hz7 := HZ7.out
                  exact ⟨ar ++ [(lbv, true)], some ⟨g8, 0, none⟩, cap8, true, true, [], (by first | rfl | simp), HA8.out, (fun b hb => by cases hb; exact ⟨by show g8 ≠ J; omega, by show g8 ≠ M3; omega⟩), (fun h => by cases h), (by simp), (by simp [gtF, bel, in1, in2]), (by simp [lsF, bel, in1, in2, isLp]), (fun m => by simp [usF, bel, in1, in2]), by simpa using HJQ.out.keep (HB8.out.block J (by omega)), (HUQ.out.keep (HB8.out.block M3 (by omega))).congr (fun m => by simp), Fx.of HB8.out⟩
              by_cases h4 : k2 = 4
              · subst h4
                cases a with
                | none =>
                  obtain rfl : ar = [] := List.length_eq_zero_iff.1 (by have := HC0.out rfl; omega)
                  have hc0 := HC0.out rfl
                  subst hc0
                  obtain ⟨W7, hW7⟩ : ∃ W7, W7 = wr.alloc (.cells #[.int .i64 lbv, .bool true] 88) := ⟨_, rfl⟩
                  have hb7 : Below wr.heap.size wr W7 := by rw [hW7]; exact (Below.refl _ _).alloc (Nat.le_refl _) _
                  have hz7 : W7.heap.size = wr.heap.size + 1 := by rw [hW7]; simp
                  have hc7 : W7.heap[wr.heap.size]? = some (.cells #[.int .i64 lbv, .bool true] 88 (0, 0)) := by rw [hW7]; exact blk_new _ _ _
                  have HB7 := Lib.hid hb7
                  have HZ7 := Lib.hid hz7
                  have HC7 := Lib.hid hc7
                  have HW7 := Lib.hid hW7
                  have HA7 := Lib.hid (HAQ.out.keep (w' := W7) (fun b hb hbl => hb7.block _ (by omega)) (Nat.le_refl _))
                  clear hb7 hz7 hc7 hW7
                  go_wp2_with (at_builtin; rw [← HW7.out]; refine wpList_AR rfl _ _ rfl HA7.out (by rfl) (by rfl) HC7.out (by omega) ?_)
                  intro g8 cap8 w8 hA8 hg8 hb8
                  have hz7 := HZ7.out
                  have HA8 := Lib.hid hA8
                  have HB8 := Lib.hid ((HB7.out.trans (Below.mono hb8 HB7.out.size)))
                  clear hA8 hb8 hz7
                  go_wp2_with fail
                  go_meet
                  have hz7 := HZ7.out
                  exact ⟨([] : List (Int × Bool)) ++ [(lbv, true)], some ⟨g8, 0, none⟩, cap8, true, true, [], (by first | rfl | simp), HA8.out, (fun b hb => by cases hb; exact ⟨by show g8 ≠ J; omega, by show g8 ≠ M3; omega⟩), (fun h => by cases h), (by simp), (by simp [gtF, bel, in1, in2]), (by simp [lsF, bel, in1, in2, isLp]), (fun m => by simp [usF, bel, in1, in2]), by simpa using HJQ.out.keep (HB8.out.block J (by omega)), (HUQ.out.keep (HB8.out.block M3 (by omega))).congr (fun m => by simp), Fx.of HB8.out⟩
                | some pa =>
                  have hcapJ : (ar.length : Int) ≤ (cap : Int) := by omega
                  obtain ⟨W7, hW7⟩ : ∃ W7, W7 = wr.alloc (.cells #[.int .i64 lbv, .bool true] 88) := ⟨_, rfl⟩
                  have hb7 : Below wr.heap.size wr W7 := by rw [hW7]; exact (Below.refl _ _).alloc (Nat.le_refl _) _
                  have hz7 : W7.heap.size = wr.heap.size + 1 := by rw [hW7]; simp
                  have hc7 : W7.heap[wr.heap.size]? = some (.cells #[.int .i64 lbv, .bool true] 88 (0, 0)) := by rw [hW7]; exact blk_new _ _ _
                  have HB7 := Lib.hid hb7
                  have HZ7 := Lib.hid hz7
                  have HC7 := Lib.hid hc7
                  have HW7 := Lib.hid hW7
                  have HA7 := Lib.hid (HAQ.out.keep (w' := W7) (fun b hb hbl => hb7.block _ (by omega)) (Nat.le_refl _))
                  clear hb7 hz7 hc7 hW7
                  go_wp2_with (at_builtin; rw [← HW7.out]; refine wpList_AR rfl _ _ rfl HA7.out (by rfl) (by rfl) HC7.out (by omega) ?_)
                  intro g8 cap8 w8 hA8 hg8 hb8
                  have hz7 := HZ7.out
                  have HA8 := Lib.hid hA8
                  have HB8 := Lib.hid ((HB7.out.trans (Below.mono hb8 HB7.out.size)))
                  clear hA8 hb8 hz7
                  go_wp2_with fail
                  go_meet
                  have hz7 := HZ7.out
                  exact ⟨ar ++ [(lbv, true)], some ⟨g8, 0, none⟩, cap8, true, true, [], (by first | rfl | simp), HA8.out, (fun b hb => by cases hb; exact ⟨by show g8 ≠ J; omega, by show g8 ≠ M3; omega⟩), (fun h => by cases h), (by simp), (by simp [gtF, bel, in1, in2]), (by simp [lsF, bel, in1, in2, isLp]), (fun m => by simp [usF, bel, in1, in2]), by simpa using HJQ.out.keep (HB8.out.block J (by omega)), (HUQ.out.keep (HB8.out.block M3 (by omega))).congr (fun m => by simp), Fx.of HB8.out⟩
              by_cases h5 : k2 = 5
              · subst h5
                cases a with
                | none =>
                  obtain rfl : ar = [] := List.length_eq_zero_iff.1 (by have := HC0.out rfl; omega)
                  have hc0 := HC0.out rfl
                  subst hc0
                  obtain ⟨W7, hW7⟩ : ∃ W7, W7 = wr.alloc (.cells #[.int .i64 lbv, .bool true] 88) := ⟨_, rfl⟩
                  have hb7 : Below wr.heap.size wr W7 := by rw [hW7]; exact (Below.refl _ _).alloc (Nat.le_refl _) _
                  have hz7 : W7.heap.size = wr.heap.size + 1 := by rw [hW7]; simp
                  have hc7 : W7.heap[wr.heap.size]? = some (.cells #[.int .i64 lbv, .bool true] 88 (0, 0)) := by rw [hW7]; exact blk_new _ _ _
                  have HB7 := Lib.hid hb7
                  have HZ7 := Lib.hid hz7
                  have HC7 := Lib.hid hc7
                  have HW7 := Lib.hid hW7
                  have HA7 := Lib.hid (HAQ.out.keep (w' := W7) (fun b hb hbl => hb7.block _ (by omega)) (Nat.le_refl _))
                  clear hb7 hz7 hc7 hW7
                  go_wp2_with (at_builtin; rw [← HW7.out]; refine wpList_AR rfl _ _ rfl HA7.out (by rfl) (by rfl) HC7.out (by omega) ?_)
                  intro g8 cap8 w8 hA8 hg8 hb8
                  have hz7 := HZ7.out
                  have HA8 := Lib.hid hA8
                  have HB8 := Lib.hid ((HB7.out.trans (Below.mono hb8 HB7.out.size)))
                  clear hA8 hb8 hz7
                  go_wp2_with fail
                  go_meet
                  have hz7 := HZ7.out
                  exact ⟨([] : List (Int × Bool)) ++ [(lbv, true)], some ⟨g8, 0, none⟩, cap8, true, true, [], (by first | rfl | simp), HA8.out, (fun b hb => by cases hb; exact ⟨by show g8 ≠ J; omega, by show g8 ≠ M3; omega⟩), (fun h => by cases h), (by simp), (by simp [gtF, bel, in1, in2]), (by simp [lsF, bel, in1, in2, isLp]), (fun m => by simp [usF, bel, in1, in2]), by simpa using HJQ.out.keep (HB8.out.block J (by omega)), (HUQ.out.keep (HB8.out.block M3 (by omega))).congr (fun m => by simp), Fx.of HB8.out⟩
                | some pa =>
                  have hcapJ : (ar.length : Int) ≤ (cap : Int) := by omega
                  obtain ⟨W7, hW7⟩ : ∃ W7, W7 = wr.alloc (.cells #[.int .i64 lbv, .bool true] 88) := ⟨_, rfl⟩
                  have hb7 : Below wr.heap.size wr W7 := by rw [hW7]; exact (Below.refl _ _).alloc (Nat.le_refl _) _
                  have hz7 : W7.heap.size = wr.heap.size + 1 := by rw [hW7]; simp
                  have hc7 : W7.heap[wr.heap.size]? = some (.cells #[.int .i64 lbv, .bool true] 88 (0, 0)) := by rw [hW7]; exact blk_new _ _ _
                  have HB7 := Lib.hid hb7
                  have HZ7 := Lib.hid hz7
                  have HC7 := Lib.hid hc7
                  have HW7 := Lib.hid hW7
                  have HA7 := Lib.hid (HAQ.out.keep (w' := W7) (fun b hb hbl => hb7.block _ (by omega)) (Nat.le_refl _))
                  clear hb7 hz7 hc7 hW7
                  go_wp2_with (at_builtin; rw [← HW7.out]; refine wpList_AR rfl _ _ rfl HA7.out (by rfl) (by rfl) HC7.out (by omega) ?_)
                  intro g8 cap8 w8 hA8 hg8 hb8
                  have hz7 := HZ7.out
                  have HA8 := Lib.hid hA8
                  have HB8 := Lib.hid ((HB7.out.trans (Below.mono hb8 HB7.out.size)))
                  clear hA8 hb8 hz7
                  go_wp2_with fail
                  go_meet
                  have hz7 := HZ7.out
                  exact ⟨ar ++ [(lbv, true)], some ⟨g8, 0, none⟩, cap8, true, true, [], (by first | rfl | simp), HA8.out, (fun b hb => by cases hb; exact ⟨by show g8 ≠ J; omega, by show g8 ≠ M3; omega⟩), (fun h => by cases h), (by simp), (by simp [gtF, bel, in1, in2]), (by simp [lsF, bel, in1, in2, isLp]), (fun m => by simp [usF, bel, in1, in2]), by simpa using HJQ.out.keep (HB8.out.block J (by omega)), (HUQ.out.keep (HB8.out.block M3 (by omega))).congr (fun m => by simp), Fx.of HB8.out⟩
              by_cases h6 : k2 = 6
              · subst h6
                cases a with
                | none =>
                  obtain rfl : ar = [] := List.length_eq_zero_iff.1 (by have := HC0.out rfl; omega)
                  have hc0 := HC0.out rfl
                  subst hc0
                  obtain ⟨W7, hW7⟩ : ∃ W7, W7 = wr.alloc (.cells #[.int .i64 lbv, .bool false] 88) := ⟨_, rfl⟩
                  have hb7 : Below wr.heap.size wr W7 := by rw [hW7]; exact (Below.refl _ _).alloc (Nat.le_refl _) _
                  have hz7 : W7.heap.size = wr.heap.size + 1 := by rw [hW7]; simp
                  have hc7 : W7.heap[wr.heap.size]? = some (.cells #[.int .i64 lbv, .bool false] 88 (0, 0)) := by rw [hW7]; exact blk_new _ _ _
                  have HB7 := Lib.hid hb7
                  have HZ7 := Lib.hid hz7
                  have HC7 := Lib.hid hc7
                  have HW7 := Lib.hid hW7
                  have HA7 := Lib.hid (HAQ.out.keep (w' := W7) (fun b hb hbl => hb7.block _ (by omega)) (Nat.le_refl _))
                  clear hb7 hz7 hc7 hW7
                  go_wp2_with (at_builtin; rw [← HW7.out]; refine wpList_AR rfl _ _ rfl HA7.out (by rfl) (by rfl) HC7.out (by omega) ?_)
                  intro g8 cap8 w8 hA8 hg8 hb8
                  have hz7 := HZ7.out
                  have HA8 := Lib.hid hA8
                  have HB8 := Lib.hid ((HB7.out.trans (Below.mono hb8 HB7.out.size)))
                  clear hA8 hb8 hz7
                  go_wp2_with fail
                  go_meet
                  have hz7 := HZ7.out
                  exact ⟨([] : List (Int × Bool)) ++ [(lbv, false)], some ⟨g8, 0, none⟩, cap8, true, true, [], (by first | rfl | simp), HA8.out, (fun b hb => by cases hb; exact ⟨by show g8 ≠ J; omega, by show g8 ≠ M3; omega⟩), (fun h => by cases h), (by simp), (by simp [gtF, bel, in1, in2]), (by simp [lsF, bel, in1, in2, isLp]), (fun m => by simp [usF, bel, in1, in2]), by simpa using HJQ.out.keep (HB8.out.block J (by omega)), (HUQ.out.keep (HB8.out.block M3 (by omega))).congr (fun m => by simp), Fx.of HB8.out⟩
                | some pa =>
                  have hcapJ : (ar.length : Int) ≤ (cap : Int) := by omega
                  obtain ⟨W7, hW7⟩ : ∃ W7, W7 = wr.alloc (.cells #[.int .i64 lbv, .bool false] 88) := ⟨_, rfl⟩
                  have hb7 : Below wr.heap.size wr W7 := by rw [hW7]; exact (Below.refl _ _).alloc (Nat.le_refl _) _
                  have hz7 : W7.heap.size = wr.heap.size + 1 := by rw [hW7]; simp
                  have hc7 : W7.heap[wr.heap.size]? = some (.cells #[.int .i64 lbv, .bool false] 88 (0, 0)) := by rw [hW7]; exact blk_new _ _ _
                  have HB7 := Lib.hid hb7
                  have HZ7 := Lib.hid hz7
                  have HC7 := Lib.hid hc7
                  have HW7 := Lib.hid hW7
                  have HA7 := Lib.hid (HAQ.out.keep (w' := W7) (fun b hb hbl => hb7.block _ (by omega)) (Nat.le_refl _))
                  clear hb7 hz7 hc7 hW7
                  go_wp2_with (at_builtin; rw [← HW7.out]; refine wpList_AR rfl _ _ rfl HA7.out (by rfl) (by rfl) HC7.out (by omega) ?_)
                  intro g8 cap8 w8 hA8 hg8 hb8
                  have hz7 := HZ7.out
                  have HA8 := Lib.hid hA8
                  have HB8 := Lib.hid ((HB7.out.trans (Below.mono hb8 HB7.out.size)))
                  clear hA8 hb8 hz7
                  go_wp2_with fail
                  go_meet
                  have hz7 := HZ7.out
                  exact ⟨ar ++ [(lbv, false)], some ⟨g8, 0, none⟩, cap8, true, true, [], (by first | rfl | simp), HA8.out, (fun b hb => by cases hb; exact ⟨by show g8 ≠ J; omega, by show g8 ≠ M3; omega⟩), (fun h => by cases h), (by simp), (by simp [gtF, bel, in1, in2]), (by simp [lsF, bel, in1, in2, isLp]), (fun m => by simp [usF, bel, in1, in2]), by simpa using HJQ.out.keep (HB8.out.block J (by omega)), (HUQ.out.keep (HB8.out.block M3 (by omega))).congr (fun m => by simp), Fx.of HB8.out⟩
              by_cases h7 : k2 = 7
              · subst h7
                cases a with
                | none =>
                  obtain rfl : ar = [] := List.length_eq_zero_iff.1 (by have := HC0.out rfl; omega)
                  have hc0 := HC0.out rfl
                  subst hc0
                  obtain ⟨W7, hW7⟩ : ∃ W7, W7 = wr.alloc (.cells #[.int .i64 lbv, .bool false] 88) := ⟨_, rfl⟩
                  have hb7 : Below wr.heap.size wr W7 := by rw [hW7]; exact (Below.refl _ _).alloc (Nat.le_refl _) _
                  have hz7 : W7.heap.size = wr.heap.size + 1 := by rw [hW7]; simp
                  have hc7 : W7.heap[wr.heap.size]? = some (.cells #[.int .i64 lbv, .bool false] 88 (0, 0)) := by rw [hW7]; exact blk_new _ _ _
                  have HB7 := Lib.hid hb7
                  have HZ7 := Lib.hid hz7
                  have HC7 := Lib.hid hc7
                  have HW7 := Lib.hid hW7
                  have HA7 := Lib.hid (HAQ.out.keep (w' := W7) (fun b hb hbl => hb7.block _ (by omega)) (Nat.le_refl _))
                  clear hb7 hz7 hc7 hW7
                  go_wp2_with (at_builtin; rw [← HW7.out]; refine wpList_AR rfl _ _ rfl HA7.out (by rfl) (by rfl) HC7.out (by omega) ?_)
                  intro g8 cap8 w8 hA8 hg8 hb8
                  have hz7 := HZ7.out
                  have HA8 := Lib.hid hA8
                  have HB8 := Lib.hid ((HB7.out.trans (Below.mono hb8 HB7.out.size)))
                  clear hA8 hb8 hz7
                  go_wp2_with fail
                  go_meet
                  have hz7 := HZ7.out
                  exact ⟨([] : List (Int × Bool)) ++ [(lbv, false)], some ⟨g8, 0, none⟩, cap8, true, true, [], (by first | rfl | simp), HA8.out, (fun b hb => by cases hb; exact ⟨by show g8 ≠ J; omega, by show g8 ≠ M3; omega⟩), (fun h => by cases h), (by simp), (by simp [gtF, bel, in1, in2]), (by simp [lsF, bel, in1, in2, isLp]), (fun m => by simp [usF, bel, in1, in2]), by simpa using HJQ.out.keep (HB8.out.block J (by omega)), (HUQ.out.keep (HB8.out.block M3 (by omega))).congr (fun m => by simp), Fx.of HB8.out⟩
                | some pa =>
                  have hcapJ : (ar.length : Int) ≤ (cap : Int) := by omega
                  obtain ⟨W7, hW7⟩ : ∃ W7, W7 = wr.alloc (.cells #[.int .i64 lbv, .bool false] 88) := ⟨_, rfl⟩
                  have hb7 : Below wr.heap.size wr W7 := by rw [hW7]; exact (Below.refl _ _).alloc (Nat.le_refl _) _
                  have hz7 : W7.heap.size = wr.heap.size + 1 := by rw [hW7]; simp
                  have hc7 : W7.heap[wr.heap.size]? = some (.cells #[.int .i64 lbv, .bool false] 88 (0, 0)) := by rw [hW7]; exact blk_new _ _ _
                  have HB7 := Lib.hid hb7
                  have HZ7 := Lib.hid hz7
                  have HC7 := Lib.hid hc7
                  have HW7 := Lib.hid hW7
                  have HA7 := Lib.hid (HAQ.out.keep (w' := W7) (fun b hb hbl => hb7.block _ (by omega)) (Nat.le_refl _))
                  clear hb7 hz7 hc7 hW7
                  go_wp2_with (at_builtin; rw [← HW7.out]; refine wpList_AR rfl _ _ rfl HA7.out (by rfl) (by rfl) HC7.out (by omega) ?_)
                  intro g8 cap8 w8 hA8 hg8 hb8
                  have hz7 := HZ7.out
                  have HA8 := Lib.hid hA8
                  have HB8 := Lib.hid ((HB7.out.trans (Below.mono hb8 HB7.out.size)))
                  clear hA8 hb8 hz7
                  go_wp2_with fail
                  go_meet
                  have hz7 := HZ7.out
                  exact ⟨ar ++ [(lbv, false)], some ⟨g8, 0, none⟩, cap8, true, true, [], (by first | rfl | simp), HA8.out, (fun b hb => by cases hb; exact ⟨by show g8 ≠ J; omega, by show g8 ≠ M3; omega⟩), (fun h => by cases h), (by simp), (by simp [gtF, bel, in1, in2]), (by simp [lsF, bel, in1, in2, isLp]), (fun m => by simp [usF, bel, in1, in2]), by simpa using HJQ.out.keep (HB8.out.block J (by omega)), (HUQ.out.keep (HB8.out.block M3 (by omega))).congr (fun m => by simp), Fx.of HB8.out⟩
              by_cases h8 : k2 = 8
              · subst h8
                cases a with
                | none =>
                  obtain rfl : ar = [] := List.length_eq_zero_iff.1 (by have := HC0.out rfl; omega)
                  have hc0 := HC0.out rfl
                  subst hc0
                  obtain ⟨W7, hW7⟩ : ∃ W7, W7 = wr.alloc (.cells #[.int .i64 lbv, .bool false] 88) := ⟨_, rfl⟩
                  have hb7 : Below wr.heap.size wr W7 := by rw [hW7]; exact (Below.refl _ _).alloc (Nat.le_refl _) _
                  have hz7 : W7.heap.size = wr.heap.size + 1 := by rw [hW7]; simp
                  have hc7 : W7.heap[wr.heap.size]? = some (.cells #[.int .i64 lbv, .bool false] 88 (0, 0)) := by rw [hW7]; exact blk_new _ _ _
                  have HB7 := Lib.hid hb7
                  have HZ7 := Lib.hid hz7
                  have HC7 := Lib.hid hc7
                  have HW7 := Lib.hid hW7
                  have HA7 := Lib.hid (HAQ.out.keep (w' := W7) (fun b hb hbl => hb7.block _ (by omega)) (Nat.le_refl _))
                  clear hb7 hz7 hc7 hW7
                  go_wp2_with (at_builtin; rw [← HW7.out]; refine wpList_AR rfl _ _ rfl HA7.out (by rfl) (by rfl) HC7.out (by omega) ?_)
                  intro g8 cap8 w8 hA8 hg8 hb8
                  have hz7 := HZ7.out
                  have HA8 := Lib.hid hA8
                  have HB8 := Lib.hid ((HB7.out.trans (Below.mono hb8 HB7.out.size)))
                  clear hA8 hb8 hz7
                  go_wp2_with fail
                  go_meet
                  have hz7 := HZ7.out
                  exact ⟨([] : List (Int × Bool)) ++ [(lbv, false)], some ⟨g8, 0, none⟩, cap8, true, true, [], (by first | rfl | simp), HA8.out, (fun b hb => by cases hb; exact ⟨by show g8 ≠ J; omega, by show g8 ≠ M3; omega⟩), (fun h => by cases h), (by simp), (by simp [gtF, bel, in1, in2]), (by simp [lsF, bel, in1, in2, isLp]), (fun m => by simp [usF, bel, in1, in2]), by simpa using HJQ.out.keep (HB8.out.block J (by omega)), (HUQ.out.keep (HB8.out.block M3 (by omega))).congr (fun m => by simp), Fx.of HB8.out⟩
                | some pa =>
                  have hcapJ : (ar.length : Int) ≤ (cap : Int) := by omega
                  obtain ⟨W7, hW7⟩ : ∃ W7, W7 = wr.alloc (.cells #[.int .i64 lbv, .bool false] 88) := ⟨_, rfl⟩
                  have hb7 : Below wr.heap.size wr W7 := by rw [hW7]; exact (Below.refl _ _).alloc (Nat.le_refl _) _
                  have hz7 : W7.heap.size = wr.heap.size + 1 := by rw [hW7]; simp
                  have hc7 : W7.heap[wr.heap.size]? = some (.cells #[.int .i64 lbv, .bool false] 88 (0, 0)) := by rw [hW7]; exact blk_new _ _ _
                  have HB7 := Lib.hid hb7
                  have HZ7 := Lib.hid hz7
                  have HC7 := Lib.hid hc7
                  have HW7 := Lib.hid hW7
                  have HA7 := Lib.hid (HAQ.out.keep (w' := W7) (fun b hb hbl => hb7.block _ (by omega)) (Nat.le_refl _))
                  clear hb7 hz7 hc7 hW7
                  go_wp2_with (at_builtin; rw [← HW7.out]; refine wpList_AR rfl _ _ rfl HA7.out (by rfl) (by rfl) HC7.out (by omega) ?_)
                  intro g8 cap8 w8 hA8 hg8 hb8
                  have hz7 := HZ7.out
                  have HA8 := Lib.hid hA8
                  have HB8 := Lib.hid ((HB7.out.trans (Below.mono hb8 HB7.out.size)))
                  clear hA8 hb8 hz7
                  go_wp2_with fail
                  go_meet
                  have hz7 := HZ7.out
                  exact ⟨ar ++ [(lbv, false)], some ⟨g8, 0, none⟩, cap8, true, true, [], (by first | rfl | simp), HA8.out, (fun b hb => by cases hb; exact ⟨by show g8 ≠ J; omega, by show g8 ≠ M3; omega⟩), (fun h => by cases h), (by simp), (by simp [gtF, bel, in1, in2]), (by simp [lsF, bel, in1, in2, isLp]), (fun m => by simp [usF, bel, in1, in2]), by simpa using HJQ.out.keep (HB8.out.block J (by omega)), (HUQ.out.keep (HB8.out.block M3 (by omega))).congr (fun m => by simp), Fx.of HB8.out⟩
              by_cases h12 : k2 = 12
              · subst h12
                by_cases hl0 : l2 = 0
                · subst hl0
                  go_wp2_with fail
                  go_meet
                  exact ⟨ar, a, cap, true, true, [], rfl, HAQ.out.keep (fun _ _ _ => rfl) (by omega), HAJ.out, HC0.out, (by omega), (by simp [gtF, bel, in1, in2, gtB]), (by simp [lsF, bel, in1, in2, isLp, lsB]), (fun m => by simp [usF, bel, in1, in2, usB]), by simpa using HJQ.out, HUQ.out.congr (fun m => by simp), Fx.refl _ _ _⟩
                · have hl0' : (l2 != 0) = true := by simpa using hl0
                  have hl0b : (l2 == 0) = false := by simpa using hl0
                  have cl := leave_any J M1 M2 M3 badr Ur 12 l2 d2 a2 bd2.length cap2 ar a cap wr HJQ.out HUQ.out (HAQ.out.keep (fun _ _ _ => rfl) (by omega)) HAJ.out (by simp) hl0 hl1
                  have CL := Lib.hid cl
                  have HL0 := Lib.hid hl0
                  clear cl hl0
                  go_wp2_with fail
                  refine (CL.out).mono ?_
                  rintro e w5 ⟨rfl, hJ5, hU5, hf5⟩
                  have HJ5 := Lib.hid hJ5
                  have HU5 := Lib.hid hU5
                  have HF5 := Lib.hid hf5
                  clear hJ5 hU5 hf5
                  go_wp2_with fail
                  go_meet
                  have hl0c := HL0.out
                  exact ⟨ar, a, cap, true, lvS ar 12 l2, [l2], rfl, HAQ.out.keep (fun b hb hbl => HF5.out.blk _ (by omega) (by have := HAJ.out b hb; simp [this.1, this.2])) (by have := HF5.out.size; omega), HAJ.out, HC0.out, (by omega), (by simp [gtF, bel, in1, in2, gtB]), (by simp [lsF, bel, in1, in2, isLp, lsB, hl0b]), (fun m => by simp [usF, bel, in1, in2, usB, hl0c]), by simpa using HJ5.out, HU5.out.congr (fun m => by rw [one_cont]), HF5.out⟩
              by_cases h13 : k2 = 13
              · subst h13
                by_cases hl0 : l2 = 0
                · subst hl0
                  go_wp2_with fail
                  go_meet
                  exact ⟨ar, a, cap, true, true, [], rfl, HAQ.out.keep (fun _ _ _ => rfl) (by omega), HAJ.out, HC0.out, (by omega), (by simp [gtF, bel, in1, in2, gtB]), (by simp [lsF, bel, in1, in2, isLp, lsB]), (fun m => by simp [usF, bel, in1, in2, usB]), by simpa using HJQ.out, HUQ.out.congr (fun m => by simp), Fx.refl _ _ _⟩
                · have hl0' : (l2 != 0) = true := by simpa using hl0
                  have hl0b : (l2 == 0) = false := by simpa using hl0
                  have cl := leave_any J M1 M2 M3 badr Ur 13 l2 d2 a2 bd2.length cap2 ar a cap wr HJQ.out HUQ.out (HAQ.out.keep (fun _ _ _ => rfl) (by omega)) HAJ.out (by simp) hl0 hl1
                  have CL := Lib.hid cl
                  have HL0 := Lib.hid hl0
                  clear cl hl0
                  go_wp2_with fail
                  refine (CL.out).mono ?_
                  rintro e w5 ⟨rfl, hJ5, hU5, hf5⟩
                  have HJ5 := Lib.hid hJ5
                  have HU5 := Lib.hid hU5
                  have HF5 := Lib.hid hf5
                  clear hJ5 hU5 hf5
                  go_wp2_with fail
                  go_meet
                  have hl0c := HL0.out
                  exact ⟨ar, a, cap, true, lvS ar 13 l2, [l2], rfl, HAQ.out.keep (fun b hb hbl => HF5.out.blk _ (by omega) (by have := HAJ.out b hb; simp [this.1, this.2])) (by have := HF5.out.size; omega), HAJ.out, HC0.out, (by omega), (by simp [gtF, bel, in1, in2, gtB]), (by simp [lsF, bel, in1, in2, isLp, lsB, hl0b]), (fun m => by simp [usF, bel, in1, in2, usB, hl0c]), by simpa using HJ5.out, HU5.out.congr (fun m => by rw [one_cont]), HF5.out⟩
              by_cases h11 : k2 = 11
              · subst h11
                have cl := jump_any H0 H1 J M1 M2 M3 adr dnf root l2 q xs HQ.out i (by omega) badr Ur wr HEQ.out HJQ.out HUQ.out
                rw [← HCQ.out] at cl
                have CL := Lib.hid cl
                clear cl
                go_wp2_with fail
                refine (CL.out).mono ?_
                rintro e w5 ⟨rfl, hJ5, hU5, hf5⟩
                have HJ5 := Lib.hid hJ5
                have HU5 := Lib.hid hU5
                have HF5 := Lib.hid hf5
                clear hJ5 hU5 hf5
                go_wp2_with fail
                go_meet
                exact ⟨ar, a, cap, jOk (dpL [] 0 root) root l2 q i, true, [l2], rfl, HAQ.out.keep (fun b hb hbl => HF5.out.blk _ (by omega) (by have := HAJ.out b hb; simp [this.1, this.2])) (by have := HF5.out.size; omega), HAJ.out, HC0.out, (by omega), (by simp [gtF, bel, in1, in2, gtB]), (by simp [lsF, bel, in1, in2, isLp, lsB]), (fun m => by simp [usF, bel, in1, in2, usB]), by simpa using HJ5.out, HU5.out.congr (fun m => by rw [one_cont]), HF5.out⟩
              by_cases h2 : k2 = 2
              · subst h2
                go_wp2_with fail
                go_meet
                exact ⟨ar, a, cap, true, true, [], rfl, HAQ.out.keep (fun _ _ _ => rfl) (by omega), HAJ.out, HC0.out, (by omega), (by simp [gtF, bel, in1, in2, gtB]), (by simp [lsF, bel, in1, in2, isLp, lsB]), (fun m => by simp [usF, bel, in1, in2, usB]), by simpa using HJQ.out, HUQ.out.congr (fun m => by simp), Fx.refl _ _ _⟩
              by_cases h9 : k2 = 9
              · subst h9
                go_wp2_with fail
                go_meet
                exact ⟨ar, a, cap, true, true, [], rfl, HAQ.out.keep (fun _ _ _ => rfl) (by omega), HAJ.out, HC0.out, (by omega), (by simp [gtF, bel, in1, in2, gtB]), (by simp [lsF, bel, in1, in2, isLp, lsB]), (fun m => by simp [usF, bel, in1, in2, usB]), by simpa using HJQ.out, HUQ.out.congr (fun m => by simp), Fx.refl _ _ _⟩
              have q3 : (k2 == 3) = false := by simpa using h3
              have q4 : (k2 == 4) = false := by simpa using h4
              have q5 : (k2 == 5) = false := by simpa using h5
              have q6 : (k2 == 6) = false := by simpa using h6
              have q7 : (k2 == 7) = false := by simpa using h7
              have q8 : (k2 == 8) = false := by simpa using h8
              have q12 : (k2 == 12) = false := by simpa using h12
              have q13 : (k2 == 13) = false := by simpa using h13
              have q11 : (k2 == 11) = false := by simpa using h11
              go_wp2_with fail
              go_meet
              exact ⟨ar, a, cap, true, true, [], rfl, HAQ.out.keep (fun _ _ _ => rfl) (by omega), HAJ.out, HC0.out, (by omega), (by simp [gtF, bel, in1, in2, gtB, h3, h4, h5, h6, h7, h8, h12, h13, h11, h2, h9, hk]), (by simp [lsF, bel, in1, in2, isLp, lsB, h3, h4, h5, h6, h7, h8, h12, h13, h11, h2, h9, hk]), (fun m => by simp [usF, bel, in1, in2, usB, h3, h4, h5, h6, h7, h8, h12, h13, h11, h2, h9, hk]), by simpa using HJQ.out, HUQ.out.congr (fun m => by simp), Fx.refl _ _ _⟩
            case rest =>
              obtain ⟨ar', a8, cap8, g1, l1, u1, rfl, hA8, hAJ8, hC8, hl8, hg8, hls8, hus8, hJ8, hU8, hf8⟩ := hcut
              have hB8 := (hf8.blk B lB (by simp; omega)).trans HB2.out
              have e0 : ∀ o, wc.cell? ⟨B, o, none⟩ = _ := blk_cell hB8
              have F0 : wc.cell? ⟨B, 0, none⟩ = some (.int .i64 k2) := e0 0
              have F1 : wc.cell? ⟨B, 1, none⟩ = some (.int .i64 l2) := e0 1
              have F2 : wc.cell? ⟨B, 2, none⟩ = some (.int .i64 d2) := e0 2
              have F3 : wc.cell? ⟨B, 3, none⟩ = some (.slice a2 bd2.length cap2) := e0 3
              have hsz8 := hf8.size
              have lB8 : B < wc.heap.size := by omega
              obtain ⟨p1, p2, p3⟩ := st_bel HSTF.out
              have cb := below_any k2 l2 d2 bd2 a2 cap2 wc.heap.size wc ((HSL2.out.keep (w' := wc) (fun r hr => hf8.blk r (by omega) (by simp; omega)) (by omega : H0 ≤ wc.heap.size))) (Nat.le_refl _) p1 p2
              have CB := Lib.hid cb
              have HA8 := Lib.hid hA8
              have HAJ8 := Lib.hid hAJ8
              have HC8 := Lib.hid hC8
              have HG8 := Lib.hid hg8
              have HLS8 := Lib.hid hls8
              have HUS8 := Lib.hid hus8
              have HJ8 := Lib.hid hJ8
              have HU8 := Lib.hid hU8
              have HF8 := Lib.hid hf8
              have HP3 := Lib.hid p3
              clear hA8 hAJ8 hC8 hg8 hls8 hus8 hJ8 hU8 hf8 hB8 e0 cb p1 p2 p3 E0 E1 E2 E3
              go_wp2_with fail
              refine (CB.out).mono ?_
              rintro e w6 ⟨ab, capb, rfl, hs6, hb6⟩
              replace hs6 := hs6.keep (w' := w6) (fun _ _ => rfl) hb6.size
              obtain ⟨bl, hbl⟩ : ∃ bl, bl = bel (.mk k2 l2 d2 bd2) := ⟨_, rfl⟩
              rw [← hbl] at hs6 ⊢
              have hJ6 := HJ8.out.keep (hb6.block J HJ8.out.lt)
              have hU6 := HU8.out.keep (hb6.block M3 HU8.out.lt)
              have hf6 : Fx [J, M3] w.heap.size w w6 := (HFQ.out.trans (Fx.mono HF8.out HFQ.out.size (fun _ _ h => h))).trans (Fx.of (hb6.mono (by have := HFQ.out.size; omega)))
              have E6 := HE.out.keep (hf6.mono hH1w (fun _ _ h => h)) ⟨_, hJ6⟩
              have hA6 : AR w6 w6.heap.size a8 cap8 ar' := HA8.out.keep (fun b hb hbl => hb6.block _ hbl) hb6.size
              have hlen6 : bl.length * 24 ≤ 140737488355328 := hs6.2.1
              obtain ⟨_, _, b6, o6, hsa6, he6⟩ := hs6
              have hrx : rkB bl < rk (.mk k lb d bd) := by rw [hbl, show (.mk k2 l2 d2 bd2) = inF (.mk k lb d bd) from by rw [← HINF.out, inF_of hk]]; exact bel_rk _
              have hcx : ctB bl + 1 ≤ ct (.mk k lb d bd) := by rw [hbl, show (.mk k2 l2 d2 bd2) = inF (.mk k lb d bd) from by rw [← HINF.out, inF_of hk]]; exact bel_ct _
              have hgl : ∀ j y, bl[j]? = some y → getL root ((i, j) :: q) = some y := by
                intro j y hy
                rw [getL, HQ.out]
                simp only [Option.bind_some, HX.out]
                rw [← HINF.out, inF_of hk, ← hbl]
                exact hy
              have hfy : ∀ y ∈ bl, ∃ t, fiL y t = true := by
                intro y hy
                rw [hbl, bel] at hy
                by_cases hin : (in1 k2 || in2 k2) = true
                · rw [if_pos hin] at hy
                  obtain ⟨u, hu⟩ := HP3.out (by simpa using hin)
                  exact liB_mem hu y hy
                · rw [if_neg hin] at hy; cases hy
              obtain ⟨badc, hbadc⟩ : ∃ badc, badc = (badr || !(g1 && l1)) := ⟨_, rfl⟩
              obtain ⟨Uc, hUc⟩ : ∃ Uc : Int → Bool, Uc = fun m => Ur m || u1.contains m := ⟨_, rfl⟩
              rw [← hbadc] at hJ6
              rw [← hUc] at hU6
              have hsz6 := hf6.size
              have HJ6 := Lib.hid hJ6
              have HU6 := Lib.hid hU6
              have HF6 := Lib.hid hf6
              have HE6 := Lib.hid E6
              have HA6 := Lib.hid hA6
              have HSA6 := Lib.hid hsa6
              have HEL6 := Lib.hid he6
              have HRX := Lib.hid hrx
              have HCX := Lib.hid hcx
              have HGL := Lib.hid hgl
              have HFY := Lib.hid hfy
              have HBADC := Lib.hid hbadc
              have HUC := Lib.hid hUc
              have HBLD := Lib.hid hbl
              clear hJ6 hU6 hf6 E6 hA6 hsa6 he6 hrx hcx hgl hfy hbadc hUc hbl hb6 F0 F1 F2 F3
              go_wp2_with fail
              go_loopg [80] bl.length (fun g vj wq => ∃ j : Nat, j + g = bl.length ∧ vj = .int .i64 j ∧ JC wq J M1 M2 M3 (badc || !(gtB (dpL [] 0 root) root q i 0 (bl.take j) && lsB ar' (bl.take j))) ∧ UM wq M3 (fun m => Uc m || (usB (bl.take j)).contains m) ∧ Fx [J, M3] w6.heap.size w6 wq)
              case atStart => exact ⟨0, by omega, rfl, by rw [List.take_zero, gtB, lsB]; simpa using HJ6.out, HU6.out.congr (fun m => by rw [List.take_zero, usB]; simp), Fx.refl _ _ _⟩
              case round =>
                obtain ⟨j, hj, rfl, hJj, hUj, hfj⟩ := hrel
                by_cases hltj : j < bl.length
                · obtain ⟨y, hy⟩ : ∃ y, bl[j]? = some y := ⟨_, List.getElem?_eq_getElem hltj⟩
                  have hqy := HGL.out j y hy
                  have Ej := HE6.out.keep (hfj.mono HE6.out.h1 (fun _ _ h => h)) ⟨_, hJj⟩
                  obtain ⟨⟨aq, capq, hnq, _⟩, hlq, _⟩ := Ej.node q xs HQ.out
                  obtain ⟨kvs, hdm, hdg⟩ := Ej.down q xs HQ.out
                  have hlk := run_lookD (dnf q) (i, j) kvs wr hdm
                  rw [hdg i j y hqy] at hlk
                  simp only [Option.getD_some] at hlk
                  obtain ⟨CY, hCY⟩ : ∃ CY, CY = adr ((i, j) :: q) := ⟨_, rfl⟩
                  rw [← hCY] at hlk
                  have hlk' : (Instr.lookup 63 (.map (some (dnf q))) (.agg #[.int .i64 (i : Int), .int .i64 (j : Int)]) false).run Tryz.prog wr = .ok (.pointer (some ⟨CY, 0, none⟩)) wr := hlk
                  obtain ⟨DN, hDN⟩ : ∃ DN, DN = dnf q := ⟨_, rfl⟩
                  rw [← hDN] at hlk' hnq
                  rw [← HCQ.out] at hnq
                  have m3 : wr.cell? ⟨CQ, 3, none⟩ = some (.map (some DN)) := blk_cell hnq 3
                  have lCQ : CQ < wr.heap.size := (Array.getElem?_eq_some_iff.1 hnq).1
                  have hszj := hfj.size
                  have hjI : (j : Int) < (bl.length : Int) := by omega
                  have hj0 : (0 : Int) ≤ (j : Int) := by omega
                  have hAj : AR wr wr.heap.size a8 cap8 ar' := HA6.out.keep (fun b hb hbl => hfj.blk _ hbl (by have := HAJ8.out b hb; simp [this.1, this.2])) hszj
                  obtain ⟨badj, hbadj⟩ : ∃ badj, badj = (badc || !(gtB (dpL [] 0 root) root q i 0 (bl.take j) && lsB ar' (bl.take j))) := ⟨_, rfl⟩
                  obtain ⟨Uj, hUjd⟩ : ∃ Uj : Int → Bool, Uj = fun m => Uc m || (usB (bl.take j)).contains m := ⟨_, rfl⟩
                  rw [← hbadj] at hJj
                  rw [← hUjd] at hUj
                  have hcall := IH.out ((i, j) :: q) y hqy (by have h1 := rkB_at hy; have h2 := HRX.out; have h3 := rkL_at HX.out; omega) (HFY.out y (List.mem_of_getElem? hy)) ar' a8 cap8 badj Uj wr Ej hJj hUj hAj HAJ8.out HC8.out (by have h1 := ctB_at hy; have h2 := HCX.out; have h3 := ctL_at HX.out; omega)
                  rw [← hCY] at hcall
                  have HC := Lib.hid hcall
                  have HFJ := Lib.hid hfj
                  have HY := Lib.hid hy
                  have HBADJ := Lib.hid hbadj
                  have HUJD := Lib.hid hUjd
                  clear hcall hfj hy hbadj hUjd Ej hnq hdm hdg hlk hAj hJj hUj hqy hCY hDN
                  go_wp2_with fail
                  refine (HC.out).mono ?_
                  rintro e w9 ⟨rfl, hJ9, hU9, hf9⟩
                  have HJ9 := Lib.hid hJ9
                  have HU9 := Lib.hid hU9
                  have HF9 := Lib.hid hf9
                  clear hJ9 hU9 hf9 hlk' m3 lCQ
                  go_wp2_with fail
                  go_roundg (gk - 1)
                  case measure => omega
                  refine ⟨j + 1, by omega, by simp, ?_, ?_, HFJ.out.trans (Fx.mono HF9.out HFJ.out.size (fun _ _ h => h))⟩
                  · have h := HJ9.out
                    rw [HBADJ.out] at h
                    rw [gtB_take HY.out, lsB_take HY.out]
                    have e1 : ∀ (b g l g1 l1 : Bool), ((b || !(g && l)) || !(g1 && l1)) = (b || !((g && g1) && (l && l1))) := by decide
                    rw [e1] at h
                    exact h
                  · refine HU9.out.congr fun m => ?_
                    rw [HUJD.out, usB_take HY.out, cont_app, Bool.or_assoc]
                · have hjI : ¬ (j : Int) < (bl.length : Int) := by omega
                  obtain rfl : j = bl.length := by omega
                  rw [List.take_length] at hJj hUj
                  have HJJ := Lib.hid hJj
                  have HUJ := Lib.hid hUj
                  have HFJ := Lib.hid hfj
                  clear hJj hUj hfj
                  go_wp2_with fail
                  go_roundg (g0 - 1)
                  case measure => have := HI.out; omega
                  have hi2 := HI.out
                  refine ⟨i + 1, by omega, by simp, ?_, ?_, HF6.out.trans (Fx.mono HFJ.out HF6.out.size (fun _ _ h => h))⟩
                  · have h := HJJ.out
                    rw [HBADC.out, HBADR.out, bool_mix] at h
                    rw [gtL_take HX.out, lsL_take HX.out, ← HGTF.out, ← HLSF.out, HG8.out, HLS8.out, ← HBLD.out]
                    exact h
                  · refine HUJ.out.congr fun m => ?_
                    rw [HUC.out, HURD.out, usL_take HX.out, cont_app, ← HUSF.out, HUS8.out m, ← HBLD.out]
                    simp only [Bool.or_assoc]
      · have hiI : ¬ (i : Int) < (xs.length : Int) := by omega
        obtain rfl : i = xs.length := by omega
        rw [List.take_length] at hJr hUr
        have HJR := Lib.hid hJr
        have HUR := Lib.hid hUr
        have HFX := Lib.hid hfx
        clear hJr hUr hfx
        go_wp2_with fail
        go_end0
        exact ⟨rfl, by have h := HJR.out; simpa using h, HUR.out.congr (fun m => by simp), HFX.out⟩
end Go.Proofs.YtpodifbgfcclbaaGreatDoor
