/- goflow.isTerminating's loops: the clauses of a select and of a switch, a list from behind. -/
import Derived.Test.YtpodifbgfcclbaaGreatDoorEnd2
set_option linter.unusedVariables false
set_option linter.unusedSimpArgs false
namespace Go.Proofs.YtpodifbgfcclbaaGreatDoor
open Go.RowKit
attribute [local go_sem] Nat.lt_add_one_of_lt

theorem all_drop {α : Type} (xs : List α) (f : α → Bool) (k : Nat) (x : α) (h : xs.drop k = x :: xs.drop (k + 1)) : (xs.drop k).all f = (f x && (xs.drop (k + 1)).all f) := by rw [h, List.all_cons]

set_option maxRecDepth 100000 in
set_option maxHeartbeats 1000000 in
theorem te_select {α : Type} (xs : List α) (fT fB : α → Bool) (a a1 : Nat) (sa : Option Addr) (cap b o : Nat) (C : Value) (s : ByteArray) (w : World)
    (g1 : w.cell? ⟨a, 1, none⟩ = some (.pointer (some ⟨a1, 0, none⟩))) (g2 : w.cell? ⟨a1, 1, none⟩ = some (.slice sa xs.length cap)) (hsa : xs ≠ [] → sa = some ⟨b, o, none⟩) (hlen : xs.length ≤ 8796093022208)
    (hx : ∀ i x, xs[i]? = some x → ∃ c sa n cap, w.cell? ⟨b, o + i, none⟩ = some (.iface 195 (.pointer (some ⟨c, 0, none⟩))) ∧ w.cell? ⟨c, 3, none⟩ = some (.slice sa n cap) ∧
      (∀ m, Calls Tryz.prog 46 #[C, .slice sa n cap, .string (nm 0)] (w.drewN m) (RetD (w.drewN m) (fT x))) ∧ (∀ m, Calls Tryz.prog 91 #[.slice sa n cap, .string s, .bool true] (w.drewN m) (RetQ (w.drewN m) (fB x)))) :
    Calls Tryz.prog 64 #[C, .iface 147 (.pointer (some ⟨a, 0, none⟩)), .string s] w (RetD w (xs.all fun x => fT x && !fB x)) := by
  have HX := Lib.hid hx
  clear hx
  go_enter Tryz.func64, Tryz.ntmps64
  go_wp2_with fail
  go_loopg [181] xs.length (fun g vi wr => ∃ k m : Nat, k + g = xs.length ∧ vi = .int .i64 k ∧ Hid ((xs.drop k).all (fun x => fT x && !fB x) = xs.all fun x => fT x && !fB x) ∧ wr = w.drewN m)
  case atStart => exact ⟨0, 0, by omega, rfl, rfl, rfl⟩
  case round =>
    obtain ⟨k, m, hk, rfl, hrest, rfl⟩ := hrel
    by_cases hlt : k < xs.length
    · obtain ⟨x, hx1, hx2⟩ := drop_at xs k hlt
      obtain ⟨c, sa2, n2, cap2, hv, hc3, hT, hB⟩ := HX.out k x hx1
      have HT := Lib.hid hT
      have HB := Lib.hid hB
      have hR := hrest.out
      rw [all_drop xs _ k x hx2] at hR
      have HR := Lib.hid hR
      obtain rfl := hsa (by rintro rfl; simp at hlt)
      clear hR hrest hT hB hx1 hx2 hsa
      generalize hZ : fT x = Z at *
      generalize hY : fB x = Y at *
      go_wp2_with fail
      refine (HT.out m).mono ?_
      rintro e w1 ⟨rfl, m2, rfl⟩
      cases Z with
      | false =>
        go_wp2_with fail
        go_ret
        have h5 := HR.out
        rw [Bool.false_and, Bool.false_and] at h5
        exact ⟨by rw [← h5]; rfl, _, rfl⟩
      | true =>
        go_wp2_with fail
        refine (HB.out (m + m2)).mono ?_
        rintro e w1 ⟨rfl, rfl⟩
        cases Y with
        | true =>
          go_wp2_with fail
          go_ret
          have h5 := HR.out
          rw [Bool.not_true, Bool.and_false, Bool.false_and] at h5
          exact ⟨by rw [← h5]; rfl, _, rfl⟩
        | false =>
          go_wp2_with fail
          have h5 := HR.out
          rw [Bool.not_false, Bool.and_true, Bool.true_and] at h5
          go_roundg (gk - 1)
          case measure => omega
          case rel => exact ⟨k + 1, _, by omega, by go_num, h5, rfl⟩
    · go_wp2_with fail
      go_ret
      have h5 := hrest.out
      rw [List.drop_eq_nil_of_le (by omega), List.all_nil] at h5
      exact ⟨by rw [← h5]; rfl, _, rfl⟩

set_option maxRecDepth 100000 in
set_option maxHeartbeats 1000000 in
theorem ts_any {α : Type} (xs : List α) (fT fB : α → Bool) (d : Int) (a1 : Nat) (sa : Option Addr) (cap b o : Nat) (C : Value) (s : ByteArray) (w : World)
    (g2 : w.cell? ⟨a1, 1, none⟩ = some (.slice sa xs.length cap)) (hsa : xs ≠ [] → sa = some ⟨b, o, none⟩) (hlen : xs.length ≤ 8796093022208)
    (hx : ∀ i x, xs[i]? = some x → ∃ c sa n cap, w.cell? ⟨b, o + i, none⟩ = some (.iface 192 (.pointer (some ⟨c, 0, none⟩))) ∧ w.cell? ⟨c, 3, none⟩ = some (.slice sa n cap) ∧
      (if (i : Int) = d then w.cell? ⟨c, 1, none⟩ = some (.slice none 0 0) else ∃ x, w.cell? ⟨c, 1, none⟩ = some (.slice (some x) 1 1)) ∧
      (∀ m, Calls Tryz.prog 46 #[C, .slice sa n cap, .string (nm 0)] (w.drewN m) (RetD (w.drewN m) (fT x))) ∧ (∀ m, Calls Tryz.prog 91 #[.slice sa n cap, .string s, .bool true] (w.drewN m) (RetQ (w.drewN m) (fB x)))) :
    Calls Tryz.prog 90 #[C, .pointer (some ⟨a1, 0, none⟩), .string s] w (RetD w (decide (0 ≤ d) && decide (d < (xs.length : Int)) && xs.all fun x => fT x && !fB x)) := by
  have HX := Lib.hid hx
  clear hx
  have hsn := fun (w : World) (a : Option Addr) (l c : Nat) => Lib.run_eql_slice_nil (P := Tryz.prog) w 116 123 a l c 0 0 Tryz.underlying116
  go_enter Tryz.func90, Tryz.ntmps90
  go_wp2_with fail
  go_loopg [7, 16] xs.length (fun g vd vi wr => ∃ k m : Nat, k + g = xs.length ∧ vi = .int .i64 k ∧ vd = .bool (decide (0 ≤ d) && decide (d < (k : Int))) ∧ Hid ((xs.drop k).all (fun x => fT x && !fB x) = xs.all fun x => fT x && !fB x) ∧ wr = w.drewN m)
  case atStart =>
    refine ⟨0, 0, by omega, rfl, ?_, rfl, rfl⟩
    congr 1
    rw [Bool.eq_iff_iff]; simp
  case round =>
    obtain ⟨k, m, hk, rfl, rfl, hrest, rfl⟩ := hrel
    by_cases hlt : k < xs.length
    · obtain ⟨x, hx1, hx2⟩ := drop_at xs k hlt
      obtain ⟨c, sa2, n2, cap2, hv, hc3, hdef, hT, hB⟩ := HX.out k x hx1
      have HT := Lib.hid hT
      have HB := Lib.hid hB
      have hR := hrest.out
      rw [all_drop xs _ k x hx2] at hR
      have HR := Lib.hid hR
      obtain rfl := hsa (by rintro rfl; simp at hlt)
      clear hR hrest hT hB hx1 hx2 hsa
      generalize hZ : fT x = Z at *
      generalize hY : fB x = Y at *
      have hnext : (k : Int) = d → (decide (0 ≤ d) && decide (d < ((k + 1 : Nat) : Int))) = true := by intro h; simp; omega
      have hnext2 : ¬ (k : Int) = d → (decide (0 ≤ d) && decide (d < ((k + 1 : Nat) : Int))) = (decide (0 ≤ d) && decide (d < (k : Int))) := by
        intro h; rw [Bool.eq_iff_iff]; simp; omega
      have HN := Lib.hid hnext
      have HN2 := Lib.hid hnext2
      clear hnext hnext2
      by_cases hd : (k : Int) = d
      · rw [if_pos hd] at hdef
        have hN := HN.out hd
        have HD := Lib.hid hN
        clear hN hd HN HN2
        go_wp2_with fail
        refine (HT.out m).mono ?_
        rintro e w1 ⟨rfl, m2, rfl⟩
        cases Z with
        | false =>
          go_wp2_with fail
          go_ret
          have h5 := HR.out
          rw [Bool.false_and, Bool.false_and] at h5
          exact ⟨by rw [← h5, Bool.and_false]; rfl, _, rfl⟩
        | true =>
          go_wp2_with fail
          refine (HB.out (m + m2)).mono ?_
          rintro e w1 ⟨rfl, rfl⟩
          cases Y with
          | true =>
            go_wp2_with fail
            go_ret
            have h5 := HR.out
            rw [Bool.not_true, Bool.and_false, Bool.false_and] at h5
            exact ⟨by rw [← h5, Bool.and_false]; rfl, _, rfl⟩
          | false =>
            go_wp2_with fail
            have h5 := HR.out
            rw [Bool.not_false, Bool.and_true, Bool.true_and] at h5
            go_roundg (gk - 1)
            case measure => omega
            case rel => exact ⟨k + 1, _, by omega, by go_num, by rw [HD.out], h5, rfl⟩
      · rw [if_neg hd] at hdef
        obtain ⟨xx, hdef⟩ := hdef
        have hN := HN2.out hd
        have HD := Lib.hid hN
        clear hN hd HN HN2
        go_wp2_with fail
        refine (HT.out m).mono ?_
        rintro e w1 ⟨rfl, m2, rfl⟩
        cases Z with
        | false =>
          go_wp2_with fail
          go_ret
          have h5 := HR.out
          rw [Bool.false_and, Bool.false_and] at h5
          exact ⟨by rw [← h5, Bool.and_false]; rfl, _, rfl⟩
        | true =>
          go_wp2_with fail
          refine (HB.out (m + m2)).mono ?_
          rintro e w1 ⟨rfl, rfl⟩
          cases Y with
          | true =>
            go_wp2_with fail
            go_ret
            have h5 := HR.out
            rw [Bool.not_true, Bool.and_false, Bool.false_and] at h5
            exact ⟨by rw [← h5, Bool.and_false]; rfl, _, rfl⟩
          | false =>
            go_wp2_with fail
            have h5 := HR.out
            rw [Bool.not_false, Bool.and_true, Bool.true_and] at h5
            go_roundg (gk - 1)
            case measure => omega
            case rel => exact ⟨k + 1, _, by omega, by go_num, by rw [HD.out], h5, rfl⟩
    · go_wp2_with fail
      go_ret
      have h5 := hrest.out
      rw [List.drop_eq_nil_of_le (by omega), List.all_nil] at h5
      obtain rfl : k = xs.length := by omega
      exact ⟨by rw [← h5, Bool.and_true]; rfl, _, rfl⟩

theorem allE_cons (x : Fl) (xs : List Fl) : allE (x :: xs) = (x.kind == 20 && allE xs) := by simp [allE]
theorem teL_cons (x : Fl) (xs : List Fl) : teL (x :: xs) = if allE xs then (if x.kind = 20 then false else teF x 0) else teL xs := by rw [teL]
theorem teL_none : ∀ l : List Fl, allE l = true → teL l = false
  | [], _ => by rw [teL]
  | x :: xs, h => by
    rw [allE_cons, Bool.and_eq_true, beq_iff_eq] at h
    rw [teL_cons, if_pos h.2, if_pos h.1]
theorem allE_at : ∀ (l : List Fl) (i : Nat) (x : Fl), l[i]? = some x → ¬ x.kind = 20 → allE l = false
  | y :: ys, 0, x, h, hk => by simp at h; subst h; rw [allE_cons]; simp [hk]
  | y :: ys, i + 1, x, h, hk => by rw [allE_cons, allE_at ys i x (by simpa using h) hk, Bool.and_false]
theorem teL_at : ∀ (l : List Fl) (i : Nat) (x : Fl), l[i]? = some x → ¬ x.kind = 20 → allE (l.drop (i + 1)) = true → teL l = teF x 0
  | y :: ys, 0, x, h, hk, he => by
    simp at h
    subst h
    rw [teL_cons, if_pos (by simpa using he), if_neg hk]
  | y :: ys, i + 1, x, h, hk, he => by
    have := allE_at ys i x (by simpa using h) hk
    rw [teL_cons, this, if_neg (by simp)]
    exact teL_at ys i x (by simpa using h) hk (by simpa using he)

set_option maxRecDepth 100000 in
set_option maxHeartbeats 1000000 in
theorem tl_any (l : List Fl) (sa : Option Addr) (cap b o : Nat) (C : Value) (w : World) (hsa : l ≠ [] → sa = some ⟨b, o, none⟩) (hlen : l.length ≤ 8796093022208)
    (hx : ∀ i x, l[i]? = some x → ∃ T p, w.cell? ⟨b, o + i, none⟩ = some (.iface T p) ∧ (T = 112 ↔ x.kind = 20) ∧ (¬ x.kind = 20 → Calls Tryz.prog 64 #[C, .iface T p, .string (nm 0)] w (RetD w (teF x 0)))) :
    Calls Tryz.prog 46 #[C, .slice sa l.length cap, .string (nm 0)] w (RetD w (teL l)) := by
  have HX := Lib.hid hx
  clear hx
  have hnm : nm 0 = ⟨#[]⟩ := rfl
  go_enter Tryz.func46, Tryz.ntmps46
  go_wp2_with fail
  go_loopg [7] l.length (fun g vi wr => ∃ i : Int, -1 ≤ i ∧ (g : Int) = i + 1 ∧ g ≤ l.length ∧ vi = .int .i64 i ∧ Hid (allE (l.drop g) = true) ∧ w = wr)
  case atStart => exact ⟨(l.length : Int) - 1, by omega, by omega, by omega, rfl, by rw [List.drop_eq_nil_of_le (by omega)]; rfl, rfl⟩
  case round =>
    obtain ⟨i, hi, hg, hgl, rfl, hrest, rfl⟩ := hrel
    by_cases h0 : 0 ≤ i
    · obtain ⟨j, rfl⟩ := Int.eq_ofNat_of_zero_le h0
      obtain ⟨x, hx1, hx2⟩ := drop_at l j (by omega)
      obtain ⟨T, p, hv, hT, hcall⟩ := HX.out j x hx1
      have hlt : (j : Int) < l.length := by omega
      obtain rfl := hsa (by rintro rfl; simp at hx1)
      have hgj : gk = j + 1 := by omega
      rw [hgj] at hrest
      by_cases hk : x.kind = 20
      · obtain rfl := hT.2 hk
        have HK := Lib.hid hk
        have HX2 := Lib.hid hx2
        clear hcall hT hk hx1 hx2 hsa hgj
        go_wp2_with fail
        go_roundg (gk - 1)
        case measure => omega
        case rel =>
          have e : gk - 1 = j := by omega
          refine ⟨(j : Int) - 1, by omega, by omega, by omega, rfl, ?_, rfl⟩
          rw [e, HX2.out, allE_cons, HK.out]
          exact hrest.out
      · have hT2 : ¬ T = 112 := fun h => hk (hT.1 h)
        have HC := Lib.hid (hcall hk)
        have HF := Lib.hid (teL_at l j x hx1 hk hrest.out)
        clear hcall hT hk hx1 hx2 hsa hgj hrest
        go_wp2_with fail
        refine HC.out.mono ?_
        rintro e w1 ⟨rfl, m, rfl⟩
        go_wp2_with fail
        go_ret
        exact ⟨by rw [HF.out]; rfl, m, rfl⟩
    · obtain rfl : i = -1 := by omega
      have hg0 : gk = 0 := by omega
      rw [hg0] at hrest
      have HR := Lib.hid (teL_none l hrest.out)
      clear hrest hg0
      go_wp2_with fail
      go_ret
      exact ⟨by rw [HR.out]; rfl, 0, rfl⟩
end Go.Proofs.YtpodifbgfcclbaaGreatDoor

/- goflow.Terminating over every tree. -/
set_option linter.unusedVariables false
set_option linter.unusedSimpArgs false
namespace Go.Proofs.YtpodifbgfcclbaaGreatDoor
open Go.RowKit

theorem ST_tag {w : World} {lo H : Nat} {ps : List Nat} {v : Value} {a : Nat} {k l d : Int} {b : List (List Tr)} (h : ST w lo H ps v (.mk a k l d b)) : ∃ T, v = .iface T (.pointer (some ⟨a, 0, none⟩)) ∧ (T = 112 ↔ k = 20) := by
  have hk := ST_kind h
  have hkk : k = 0 ∨ k = 1 ∨ k = 2 ∨ k = 3 ∨ k = 4 ∨ k = 5 ∨ k = 6 ∨ k = 7 ∨ k = 8 ∨ k = 9 ∨ k = 10 ∨ k = 11 ∨ k = 12 ∨ k = 13 ∨ k = 14 ∨ k = 15 ∨ k = 16 ∨ k = 17 ∨ k = 18 ∨ k = 19 ∨ k = 20 := by omega
  rcases hkk with rfl | rfl | rfl | rfl | rfl | rfl | rfl | rfl | rfl | rfl | rfl | rfl | rfl | rfl | rfl | rfl | rfl | rfl | rfl | rfl | rfl
  · rw [ST_0] at h; exact ⟨_, h.2.2.1, by decide⟩
  · rw [ST_1] at h; exact ⟨_, h.2.2.1, by decide⟩
  · rw [ST_2] at h; exact ⟨_, h.2.2.1, by decide⟩
  · rw [ST_3] at h; exact ⟨_, h.2.2.1, by decide⟩
  · rw [ST_4] at h; exact ⟨_, h.2.2.1, by decide⟩
  · rw [ST_5] at h; exact ⟨_, h.2.2.1, by decide⟩
  · rw [ST_6] at h; exact ⟨_, h.2.2.1, by decide⟩
  · rw [ST_7] at h; exact ⟨_, h.2.2.1, by decide⟩
  · rw [ST_8] at h; exact ⟨_, h.2.2.1, by decide⟩
  · rw [ST_9] at h; exact ⟨_, h.2.2.1, by decide⟩
  · rw [ST_10] at h; exact ⟨_, h.2.2.1, by decide⟩
  · rw [ST_11] at h; exact ⟨_, h.2.2.1, by decide⟩
  · rw [ST_12] at h; exact ⟨_, h.2.2.1, by decide⟩
  · rw [ST_13] at h; exact ⟨_, h.2.2.1, by decide⟩
  · rw [ST_14] at h; exact ⟨_, h.2.2.1, by decide⟩
  · rw [ST_15] at h; exact ⟨_, h.2.2.1, by decide⟩
  · rw [ST_16] at h; exact ⟨_, h.2.2.1, by decide⟩
  · rw [ST_17] at h; exact ⟨_, h.2.2.1, by decide⟩
  · rw [ST_18] at h; exact ⟨_, h.2.2.1, by decide⟩
  · rw [ST_19] at h; exact ⟨_, h.2.2.1, by decide⟩
  · rw [ST_20] at h; exact ⟨_, h.2.2.1, by decide⟩

theorem Kept.drewN (w : World) (n lo H : Nat) (ps : List Nat) : Kept lo H ps ps w (w.drewN n) := ⟨fun _ _ _ => rfl, fun _ _ _ => rfl⟩
theorem PM.drewN {w : World} {R : Nat} {ps : List Nat} (h : PM w R ps) (n : Nat) : PM (w.drewN n) R ps := ⟨h.1, h.2⟩
def TeF (t : Tr) : Prop := ∀ (v : Value) (lo H : Nat) (ps : List Nat) (lb : Int) (C R : Nat) (w : World), ST w lo H ps v t → PM w R ps → w.cell? ⟨C, 0, none⟩ = some (.map (some R)) → -1 ≤ lb → lb ≤ 9 →
    Calls Tryz.prog 64 #[.pointer (some ⟨C, 0, none⟩), v, .string (nm lb)] w (RetD w (teF (er t) lb))
def TeL (y : List Tr) : Prop := ∀ (sa : Option Addr) (cap b o lo H : Nat) (ps : List Nat) (C R : Nat) (w : World), (y ≠ [] → sa = some ⟨b, o, none⟩) → y.length ≤ 8796093022208 → TL w lo H ps b o y → PM w R ps → w.cell? ⟨C, 0, none⟩ = some (.map (some R)) →
    Calls Tryz.prog 46 #[.pointer (some ⟨C, 0, none⟩), .slice sa y.length cap, .string (nm 0)] w (RetD w (teL (erL y)))
theorem er_kind (a : Nat) (k l d : Int) (b : List (List Tr)) : (er (.mk a k l d b)).kind = k := by rw [er]; rfl
theorem teL_of (y : List Tr) (h : ∀ t, rt t ≤ rtL y → TeF t) : TeL y := by
  intro sa cap b o lo H ps C R w hsa hlen hy hp hc
  have he := erL_length y
  rw [← he]
  refine tl_any (erL y) sa cap b o _ w (fun hn => hsa (by rintro rfl; exact hn erL_nil)) (by rw [he]; exact hlen) fun i x hi => ?_
  have hlt : i < y.length := by rw [← he]; exact (List.getElem?_eq_some_iff.1 hi).1
  obtain ⟨_, _, t, v, _, g4, g5, g6⟩ := hy.at i hlt
  have hx : x = er t := by
    rw [erL_map, List.getElem?_map, g4] at hi
    exact (Option.some.inj hi).symm
  subst hx
  obtain ⟨a, k, l, d, bd⟩ := t
  obtain ⟨T, rfl, hT⟩ := ST_tag g6
  refine ⟨T, _, g5, by rw [er_kind]; exact hT, fun _ => ?_⟩
  exact h _ (rtL_at g4) _ lo H ps 0 C R w g6 hp hc (by omega) (by omega)
theorem te_bs0 (b : List (List Tr)) (hb : b.length < 2) (h : ∀ y ∈ b, TeL y) (a1 lo H : Nat) (ps : List Nat) (s : ByteArray) (C R : Nat) (w : World) (hs : BS0 w lo H ps a1 b) (hp : PM w R ps) (hc : w.cell? ⟨C, 0, none⟩ = some (.map (some R))) :
    Calls Tryz.prog 64 #[.pointer (some ⟨C, 0, none⟩), .iface 50 (.pointer (some ⟨a1, 0, none⟩)), .string s] w (RetD w (teOne (erB b))) := by
  rcases b with _ | ⟨y, _ | ⟨z, zs⟩⟩
  · rw [BS0] at hs
    rw [erB, teOne]
    · have := tl_any [] none 0 0 0 (.pointer (some ⟨C, 0, none⟩)) w (fun h => absurd rfl h) (by simp) (fun i x hx => by simp at hx)
      rw [teL] at this
      exact te_block a1 _ none 0 0 s false w hs.2.2 this
    · intro _ h; cases h
  · rw [BS0] at hs
    obtain ⟨_, _, sa, cap, g1, g2, b, o, g3, g4⟩ := hs
    rw [erB, erB, teOne]
    exact te_block a1 _ sa _ cap s _ w g1 (h y (by simp) sa cap b o lo H ps C R w g3 g2 g4 hp hc)
  · simp at hb; omega
theorem teAll_all (b : List (List Tr)) (lb : Int) : teAll (erB b) lb = b.all fun y => teL (erL y) && !hbL (erL y) lb true := by
  induction b with
  | nil => rw [erB, teAll]; rfl
  | cons t ts ih => rw [erB, teAll, ih]; rfl
theorem te_si (b : List (List Tr)) (h : ∀ t ts bs, b = (t :: ts) :: bs → TeF t) (lo H : Nat) (ps : List Nat) (v : Value) (lb : Int) (C R : Nat) (w : World) (hs : SI w lo H ps v b) (hp : PM w R ps) (hc : w.cell? ⟨C, 0, none⟩ = some (.map (some R))) (h1 : -1 ≤ lb) (h2 : lb ≤ 9) :
    Calls Tryz.prog 64 #[.pointer (some ⟨C, 0, none⟩), v, .string (nm lb)] w (RetD w (teI (erB b) lb)) := by
  rcases b with _ | ⟨_ | ⟨t, ts⟩, bs⟩
  · rw [SI] at hs
    obtain ⟨a, rfl⟩ := hs
    rw [erB, teI]
    · exact te_leaf112 a _ _ w
    · intro _ _ _ h; cases h
  · rw [SI] at hs
    obtain ⟨a, rfl⟩ := hs
    rw [erB, erL, teI]
    · exact te_leaf112 a _ _ w
    · intro _ _ _ h; cases h
  · rw [SI] at hs
    rw [erB, erL, teI]
    exact h t ts bs rfl v lo H ps lb C R w hs.2 hp hc h1 h2
theorem teF_of (n : Nat) (hP : ∀ y, rtL y < n → TeL y) : ∀ (m : Nat) (t : Tr), rt t < m → rt t ≤ n → TeF t := by
  intro m
  induction m with
  | zero => exact fun t h => absurd h (Nat.not_lt_zero _)
  | succ m ih =>
    rintro ⟨a, k, l, d, b⟩ hm hn v lo H ps lb C R w hs hp hc h1 h2
    rw [rt_mk] at hm hn
    have hL : ∀ y ∈ b, TeL y := fun y hy => hP y (by have := rt_in hy; omega)
    have hHB : ∀ y ∈ b, HbL y := fun y _ => hbL_any_list y
    have hI : ∀ t ts bs, b = (t :: ts) :: bs → TeF t := by
      intro t ts bs e
      have : rt t < rtB b := by rw [e, rtB, rtL]; omega
      exact ih t (by omega) (by omega)
    have hk := ST_kind hs
    have hkk : k = 0 ∨ k = 1 ∨ k = 2 ∨ k = 3 ∨ k = 4 ∨ k = 5 ∨ k = 6 ∨ k = 7 ∨ k = 8 ∨ k = 9 ∨ k = 10 ∨ k = 11 ∨ k = 12 ∨ k = 13 ∨ k = 14 ∨ k = 15 ∨ k = 16 ∨ k = 17 ∨ k = 18 ∨ k = 19 ∨ k = 20 := by omega
    rw [er_mk]
    rcases hkk with rfl | rfl | rfl | rfl | rfl | rfl | rfl | rfl | rfl | rfl | rfl | rfl | rfl | rfl | rfl | rfl | rfl | rfl | rfl | rfl | rfl
    · rw [ST_0] at hs
      rw [show teF (.mk 0 l d (erB b)) lb = (true) from by rw [teF]; simp]
      obtain ⟨_, _, rfl, _⟩ := hs
      exact te_return a _ _ w
    · rw [ST_1] at hs
      rw [show teF (.mk 1 l d (erB b)) lb = (true) from by rw [teF]; simp]
      obtain ⟨_, _, rfl, ⟨c, _, _, g3, g4, g5⟩, _⟩ := hs
      have hl := run_lookup_pan R c ps w g5 hp
      rw [g4] at hl
      exact te_expr a c C R ps _ w g3 hc _ hl
    · rw [ST_2] at hs
      rw [show teF (.mk 2 l d (erB b)) lb = (teTwo (erB b)) from by rw [teF]; simp]
      obtain ⟨_, _, rfl, hl, ⟨a1, g1, g2⟩, e, g3, g4⟩ := hs
      rcases b with _ | ⟨y, _ | ⟨z, _ | ⟨u, us⟩⟩⟩
      · rw [BS1] at g4
        · subst g4
          rw [erB, teTwo]
          · exact te_if a _ _ w g3
          · intro _ _ h; cases h
        · intro _ _ _ h; cases h
      · rw [BS1] at g4
        · subst g4
          rw [erB, erB, teTwo]
          · exact te_if a _ _ w g3
          · intro _ _ h; cases h
        · intro _ _ _ h; cases h
      · rw [BS1] at g4
        obtain ⟨a2, rfl, q1, q2, sa, cap, q3, q4, b', o', q5, q6⟩ := g4
        have hz := fun n => te_block a2 _ sa _ cap (nm 0) _ (w.drewN n) q3 (hL z (by simp) sa cap b' o' lo H ps C R (w.drewN n) q5 q4 (q6.keep (Kept.drewN w n lo H ps) (Nat.le_refl _)) (hp.drewN n) hc)
        have hy := te_bs0 [y] (by simp) (fun x hx => hL x (by simp at hx; simp [hx])) a1 lo H ps (nm 0) C R w (by rw [BS0] at g2 ⊢; exact g2) hp hc
        rw [show teTwo (erB [y, z]) = (teOne (erB [y]) && teL (erL z)) from by rw [erB, erB, erB, erB, erB, teTwo, teOne]]
        exact te_ifelse a a1 a2 _ _ _ _ w g1 g3 hy hz
      · simp at hl; omega
    · rw [ST_3] at hs
      rw [show teF (.mk 3 l d (erB b)) lb = (!(hbB (erB b) lb true)) from by rw [teF]; simp]
      obtain ⟨_, _, rfl, hl, g0, a1, g1, g2⟩ := hs
      exact te_endless a a1 _ _ _ w g0 g1 (hb_bs0 b hl hHB a1 lo H ps lb true w g2 h1 h2)
    · rw [ST_4] at hs
      rw [show teF (.mk 4 l d (erB b)) lb = (false) from by rw [teF]; simp]
      obtain ⟨_, _, rfl, hl, ⟨c, g0⟩, _⟩ := hs
      exact te_for a c _ _ w g0
    · rw [ST_5] at hs
      rw [show teF (.mk 5 l d (erB b)) lb = (false) from by rw [teF]; simp]
      obtain ⟨_, _, rfl, _⟩ := hs
      exact te_leaf133 a _ _ w
    · rw [ST_6] at hs
      rw [show teF (.mk 6 l d (erB b)) lb = (decide (0 ≤ d) && decide (d < ((erB b).length : Int)) && teAll (erB b) lb) from by rw [teF]; simp]
      obtain ⟨_, _, rfl, a1, g1, _, _, sa, cap, g2, g3, b', o', g5, g4⟩ := hs
      refine te_switch137 a a1 _ _ _ w g1 ?_
      rw [teAll_all, erB_length]
      refine ts_any b _ _ d a1 sa cap b' o' _ _ w g2 g5 g3 fun i y hi => ?_
      have hlt : i < b.length := (List.getElem?_eq_some_iff.1 hi).1
      obtain ⟨_, _, y', c, _, q4, q5, q6, q7, qd, sa2, cap2, q8, q9, b2, o2, q10, q11⟩ := g4.at i hlt
      obtain rfl : y = y' := by rw [hi] at q4; exact Option.some.inj q4
      have hy : y ∈ b := List.mem_of_getElem? hi
      refine ⟨c, sa2, _, cap2, q5, q8, ?_, fun m => ?_, fun m => ?_⟩
      · have := qd rfl
        rw [Nat.zero_add] at this
        exact this
      · exact hL y hy sa2 cap2 b2 o2 lo H ps C R (w.drewN m) q10 q9 (q11.keep (Kept.drewN w m lo H ps) (Nat.le_refl _)) (hp.drewN m) hc
      · exact hHB y hy sa2 cap2 b2 o2 lo H ps lb true (w.drewN m) q10 q9 (q11.keep (Kept.drewN w m lo H ps) (Nat.le_refl _)) h1 h2
    · rw [ST_7] at hs
      rw [show teF (.mk 7 l d (erB b)) lb = (decide (0 ≤ d) && decide (d < ((erB b).length : Int)) && teAll (erB b) lb) from by rw [teF]; simp]
      obtain ⟨_, _, rfl, a1, g1, _, _, sa, cap, g2, g3, b', o', g5, g4⟩ := hs
      refine te_switch141 a a1 _ _ _ w g1 ?_
      rw [teAll_all, erB_length]
      refine ts_any b _ _ d a1 sa cap b' o' _ _ w g2 g5 g3 fun i y hi => ?_
      have hlt : i < b.length := (List.getElem?_eq_some_iff.1 hi).1
      obtain ⟨_, _, y', c, _, q4, q5, q6, q7, qd, sa2, cap2, q8, q9, b2, o2, q10, q11⟩ := g4.at i hlt
      obtain rfl : y = y' := by rw [hi] at q4; exact Option.some.inj q4
      have hy : y ∈ b := List.mem_of_getElem? hi
      refine ⟨c, sa2, _, cap2, q5, q8, ?_, fun m => ?_, fun m => ?_⟩
      · have := qd rfl
        rw [Nat.zero_add] at this
        exact this
      · exact hL y hy sa2 cap2 b2 o2 lo H ps C R (w.drewN m) q10 q9 (q11.keep (Kept.drewN w m lo H ps) (Nat.le_refl _)) (hp.drewN m) hc
      · exact hHB y hy sa2 cap2 b2 o2 lo H ps lb true (w.drewN m) q10 q9 (q11.keep (Kept.drewN w m lo H ps) (Nat.le_refl _)) h1 h2
    · rw [ST_8] at hs
      rw [show teF (.mk 8 l d (erB b)) lb = (teAll (erB b) lb) from by rw [teF]; simp]
      obtain ⟨_, _, rfl, a1, g1, _, _, sa, cap, g2, g3, b', o', g5, g4⟩ := hs
      rw [teAll_all]
      refine te_select b _ _ a a1 sa cap b' o' _ _ w g1 g2 g5 g3 fun i y hi => ?_
      have hlt : i < b.length := (List.getElem?_eq_some_iff.1 hi).1
      obtain ⟨_, _, y', c, _, q4, q5, q6, q7, qd, sa2, cap2, q8, q9, b2, o2, q10, q11⟩ := g4.at i hlt
      obtain rfl : y = y' := by rw [hi] at q4; exact Option.some.inj q4
      have hy : y ∈ b := List.mem_of_getElem? hi
      refine ⟨c, sa2, _, cap2, q5, q8, fun m => ?_, fun m => ?_⟩
      · exact hL y hy sa2 cap2 b2 o2 lo H ps C R (w.drewN m) q10 q9 (q11.keep (Kept.drewN w m lo H ps) (Nat.le_refl _)) (hp.drewN m) hc
      · exact hHB y hy sa2 cap2 b2 o2 lo H ps lb true (w.drewN m) q10 q9 (q11.keep (Kept.drewN w m lo H ps) (Nat.le_refl _)) h1 h2
    · rw [ST_9] at hs
      rw [show teF (.mk 9 l d (erB b)) lb = (teOne (erB b)) from by rw [teF]; simp]
      obtain ⟨_, _, rfl, hl, g⟩ := hs
      exact te_bs0 b hl hL a lo H ps _ C R w g hp hc
    · rw [ST_10] at hs
      rw [show teF (.mk 10 l d (erB b)) lb = (teI (erB b) l) from by rw [teF]; simp]
      obtain ⟨_, _, rfl, hl, ⟨n1, n2, n3⟩, hl0, v', g1, g2⟩ := hs
      rw [if_neg hl0] at n3
      obtain ⟨i, p, _, _, q1, _, q2⟩ := n3
      exact te_labeled a i v' _ _ _ _ w g1 q1 q2 fun n => te_si b hI lo H ps v' l C R (w.drewN n) (g2.keep (Kept.drewN w n lo H ps) (Nat.le_refl _)) (hp.drewN n) hc n1 n2
    · rw [ST_11] at hs
      rw [show teF (.mk 11 l d (erB b)) lb = (true) from by rw [teF]; simp]
      obtain ⟨_, _, rfl, _, g1, _⟩ := hs
      exact te_branch a _ _ _ w g1 _ (by decide)
    · rw [ST_12] at hs
      rw [show teF (.mk 12 l d (erB b)) lb = (false) from by rw [teF]; simp]
      obtain ⟨_, _, rfl, _, g1, _⟩ := hs
      exact te_branch a _ _ _ w g1 _ (by decide)
    · rw [ST_13] at hs
      rw [show teF (.mk 13 l d (erB b)) lb = (false) from by rw [teF]; simp]
      obtain ⟨_, _, rfl, _, g1, _⟩ := hs
      exact te_branch a _ _ _ w g1 _ (by decide)
    · rw [ST_14] at hs
      rw [show teF (.mk 14 l d (erB b)) lb = (true) from by rw [teF]; simp]
      obtain ⟨_, _, rfl, _, g1, _⟩ := hs
      exact te_branch a _ _ _ w g1 _ (by decide)
    · rw [ST_15] at hs
      rw [show teF (.mk 15 l d (erB b)) lb = (false) from by rw [teF]; simp]
      obtain ⟨_, _, rfl, _⟩ := hs
      exact te_leaf165 a _ _ w
    · rw [ST_16] at hs
      rw [show teF (.mk 16 l d (erB b)) lb = (false) from by rw [teF]; simp]
      obtain ⟨_, _, rfl, _⟩ := hs
      exact te_leaf189 a _ _ w
    · rw [ST_17] at hs
      rw [show teF (.mk 17 l d (erB b)) lb = (false) from by rw [teF]; simp]
      obtain ⟨_, _, rfl, _⟩ := hs
      exact te_leaf165 a _ _ w
    · rw [ST_18] at hs
      rw [show teF (.mk 18 l d (erB b)) lb = (false) from by rw [teF]; simp]
      obtain ⟨_, _, rfl, ⟨c, _, _, g3, g4, g5⟩, _⟩ := hs
      have hl := run_lookup_pan R c ps w g5 hp
      rw [g4] at hl
      exact te_expr a c C R ps _ w g3 hc _ hl
    · rw [ST_19] at hs
      rw [show teF (.mk 19 l d (erB b)) lb = (false) from by rw [teF]; simp]
      obtain ⟨_, _, rfl, c, _, _, g3, g4, g5⟩ := hs
      have hl := run_lookup_pan R c ps w g5 hp
      rw [g4] at hl
      exact te_expr a c C R ps _ w g3 hc _ hl
    · rw [ST_20] at hs
      rw [show teF (.mk 20 l d (erB b)) lb = (false) from by rw [teF]; simp]
      obtain ⟨_, _, rfl, _⟩ := hs
      exact te_leaf112 a _ _ w
theorem teL_all (n : Nat) : ∀ y, rtL y < n → TeL y := by
  induction n with
  | zero => exact fun y h => absurd h (Nat.not_lt_zero _)
  | succ n ih => exact fun y h => teL_of y fun t ht => teF_of n ih (rt t + 1) t (by omega) (by omega)
theorem teL_any (y : List Tr) : TeL y := teL_all (rtL y + 1) y (by omega)

set_option maxHeartbeats 1000000 in
theorem terminating_any (y : List Tr) (sa : Option Addr) (cap b o lo H : Nat) (ps : List Nat) (R : Nat) (w : World) (hsa : y ≠ [] → sa = some ⟨b, o, none⟩) (hlen : y.length ≤ 8796093022208) (hy : TL w lo H ps b o y) (hH : H ≤ w.heap.size) (hp : PM w R ps) (hR : R < w.heap.size) (hps : ∀ p ∈ ps, p < w.heap.size) :
    Calls Tryz.prog 38 #[.slice sa y.length cap, .map (some R)] w fun e w' => e = .returned (.bool (teL (erL y))) ∧ Below w.heap.size w w' := by
  have h := fun (W : World) (C : Nat) (h1 : TL W lo H ps b o y) (h2 : PM W R ps) (h3 : W.cell? ⟨C, 0, none⟩ = some (.map (some R))) => teL_any y sa cap b o lo H ps C R W hsa hlen h1 h2 h3
  have HC := Lib.hid h
  clear h
  have hnm : nm 0 = ⟨#[]⟩ := rfl
  rw [hnm] at HC
  go_enter Tryz.func38, Tryz.ntmps38
  go_wp2_with fail
  refine (HC.out _ _ ?_ ?_ ?_).mono ?_
  · exact hy.keep ⟨fun k h1 h2 => Below.heap_alloc _ _ _ (by omega), fun _ _ _ => rfl⟩ (Nat.le_refl _)
  · obtain ⟨⟨es, clk, g1, g2⟩, g3⟩ := hp
    exact ⟨⟨es, clk, (Below.heap_alloc _ _ _ hR).trans g1, g2⟩, fun p hp => (g3 p hp).imp fun cs hcs => (Below.heap_alloc _ _ _ (hps p hp)).trans hcs⟩
  · simp
  rintro e w1 ⟨rfl, n, rfl⟩
  go_wp2_with fail
  go_ret
  exact ⟨rfl, ((Below.refl _ _).alloc (Nat.le_refl _) _).trans ⟨rfl, rfl, rfl, Nat.le_refl _, fun _ _ => rfl⟩⟩
end Go.Proofs.YtpodifbgfcclbaaGreatDoor
