/- Where a body ends by the rules: what spec.Ends computes; on statements in order it is what the code answers. -/
import Derived.Test.YtpodifbgfcclbaaGreatDoorVal1
import Derived.Test.YtpodifbgfcclbaaGreatDoorVal4
import Derived.Deep.RegionHeld3
set_option linter.unusedVariables false
set_option linter.unusedSimpArgs false
namespace Go.Proofs.YtpodifbgfcclbaaGreatDoor
open Go.RowKit
attribute [local go_sem] Nat.lt_add_one_of_lt

mutual
/-- Does a break in a statement refer to the statement around it, by the rules? -/
def sbF : Fl → Int → Bool → Bool
  | .mk k l _ b, lb, imp =>
    if k = 12 then (if l = 0 then imp else l == lb)
    else if k = 10 then sbI b lb imp
    else if k = 2 then sbB b lb imp
    else if k = 9 then sbB b lb imp
    else if k = 3 then sbP b lb false
    else if k = 4 then sbP b lb false
    else if k = 5 then sbP b lb false
    else if k = 6 then sbB b lb false
    else if k = 7 then sbB b lb false
    else if k = 8 then sbB b lb false
    else false
def sbI : List (List Fl) → Int → Bool → Bool
  | (y :: _) :: _, lb, imp => sbF y lb imp
  | [], _, _ => false
  | [] :: _, _, _ => false
def sbP : List (List Fl) → Int → Bool → Bool
  | [], _, _ => false
  | y :: _, lb, imp => sbL y lb imp
def sbL : List Fl → Int → Bool → Bool
  | [], _, _ => false
  | x :: xs, lb, imp => sbF x lb imp || sbL xs lb imp
def sbB : List (List Fl) → Int → Bool → Bool
  | [], _, _ => false
  | y :: ys, lb, imp => sbL y lb imp || sbB ys lb imp
end
mutual
/-- Does a statement end, by the rules? -/
def seF : Fl → Int → Bool
  | .mk k l d b, lb =>
    if k = 0 then true
    else if k = 1 then true
    else if k = 11 then true
    else if k = 14 then true
    else if k = 2 then seTwo b
    else if k = 9 then seP b
    else if k = 3 then !(sbP b lb true)
    else if k = 6 then decide (0 ≤ d) && decide (d < (b.length : Int)) && seAll b lb
    else if k = 7 then decide (0 ≤ d) && decide (d < (b.length : Int)) && seAll b lb
    else if k = 8 then seAll b lb
    else if k = 10 then seI b l
    else false
def seI : List (List Fl) → Int → Bool
  | (y :: _) :: _, lb => seF y lb
  | [], _ => false
  | [] :: _, _ => false
def seP : List (List Fl) → Bool
  | [] => false
  | y :: _ => seL y
def seTwo : List (List Fl) → Bool
  | [] => false
  | [_] => false
  | y :: z :: _ => seL y && seL z
def seAll : List (List Fl) → Int → Bool
  | [], _ => true
  | y :: ys, lb => seL y && !(sbL y lb true) && seAll ys lb
def seL : List Fl → Bool
  | [] => false
  | x :: xs => if allE xs then (if x.kind = 20 then false else seF x 0) else seL xs
end

/-! On statements in order. -/
mutual
theorem hbF_0 : ∀ (x : Fl), hbF x 0 false = false
  | .mk k l d b => by
    rw [hbF, hbI_0 b, hbB_0 b]
    simp
theorem hbI_0 : ∀ (b : List (List Fl)), hbI b 0 false = false
  | (y :: ys) :: r => by rw [hbI]; exact hbF_0 y
  | [] => by simp only [hbI]
  | [] :: r => by simp only [hbI]
theorem hbL_0 : ∀ (y : List Fl), hbL y 0 false = false
  | [] => by rw [hbL]
  | x :: xs => by rw [hbL, hbF_0 x, hbL_0 xs]; rfl
theorem hbB_0 : ∀ (b : List (List Fl)), hbB b 0 false = false
  | [] => by rw [hbB]
  | y :: ys => by rw [hbB, hbL_0 y, hbB_0 ys]; rfl
end
theorem hbB_1 (b : List (List Fl)) (lb : Int) : (!(lb == 0) && hbB b lb false) = hbB b lb false := by
  by_cases h : lb = 0
  · subst h; rw [hbB_0]; rfl
  · have : (lb == 0) = false := by simpa using h
    rw [this]; rfl
/-- What a statement in order says of its lists. -/
theorem st_two {k l d : Int} {b : List (List Fl)} {t : Bool} (h : stF (.mk k l d b) t = true) (hk : k = 3 ∨ k = 4 ∨ k = 5 ∨ k = 9) : b.length < 2 ∧ liB b false = true := by
  rw [stF] at h
  rcases hk with rfl | rfl | rfl | rfl <;> simp at h <;> exact ⟨h.2.2.1.2, h.2.2.2⟩
theorem st_if {l d : Int} {b : List (List Fl)} {t : Bool} (h : stF (.mk 2 l d b) t = true) : b.length < 3 ∧ liB b false = true := by
  rw [stF] at h
  simp at h
  exact ⟨h.2.2.1.2, h.2.2.2⟩
theorem st_sw {k l d : Int} {b : List (List Fl)} {t : Bool} (h : stF (.mk k l d b) t = true) (hk : k = 6 ∨ k = 7 ∨ k = 8) : ∃ u, liB b u = true := by
  rw [stF] at h
  rcases hk with rfl | rfl | rfl
  · simp at h; exact ⟨true, h.2.2.2⟩
  · simp at h; exact ⟨false, h.2.2.2⟩
  · simp at h; exact ⟨false, h.2.2.2⟩
theorem st_lab {l d : Int} {b : List (List Fl)} {t : Bool} (h : stF (.mk 10 l d b) t = true) : stI b t = true := by
  rw [stF] at h
  simp at h
  exact h.2.2.1.2
mutual
theorem sbF_eq : ∀ (x : Fl) (t : Bool) (lb : Int) (imp : Bool), stF x t = true → sbF x lb imp = hbF x lb imp
  | .mk k l d b, t, lb, imp, h => by
    have hP : ∀ u, b.length < 2 → liB b u = true → ∀ imp, sbP b lb imp = hbB b lb imp := fun u h1 h2 imp => sbP_eq b u lb imp h1 h2
    have hB : ∀ u, liB b u = true → ∀ imp, sbB b lb imp = hbB b lb imp := fun u h2 imp => sbB_eq b u lb imp h2
    have hI : ∀ u, stI b u = true → sbI b lb imp = hbI b lb imp := fun u h2 => sbI_eq b u lb imp h2
    rw [sbF, hbF]
    by_cases h12 : k = 12
    · simp only [if_pos h12]
    rw [if_neg h12, if_neg h12]
    by_cases h10 : k = 10
    · subst h10
      simp only [if_true]
      exact hI t (st_lab h)
    rw [if_neg h10, if_neg h10]
    by_cases h2 : k = 2
    · subst h2
      simp only [if_true]
      exact hB _ (st_if h).2 _
    rw [if_neg h2, if_neg h2]
    by_cases h9 : k = 9
    · subst h9
      simp only [if_true]
      exact hB _ (st_two h (by simp)).2 _
    rw [if_neg h9, if_neg h9]
    simp only [hbB_1]
    by_cases h3 : k = 3
    · subst h3
      simp only [if_true]
      exact hP _ (st_two h (by simp)).1 (st_two h (by simp)).2 _
    rw [if_neg h3, if_neg h3]
    by_cases h4 : k = 4
    · subst h4
      simp only [if_true]
      exact hP _ (st_two h (by simp)).1 (st_two h (by simp)).2 _
    rw [if_neg h4, if_neg h4]
    by_cases h5 : k = 5
    · subst h5
      simp only [if_true]
      exact hP _ (st_two h (by simp)).1 (st_two h (by simp)).2 _
    rw [if_neg h5, if_neg h5]
    by_cases h6 : k = 6
    · subst h6
      simp only [if_true]
      obtain ⟨u, hu⟩ := st_sw h (by simp)
      exact hB u hu _
    rw [if_neg h6, if_neg h6]
    by_cases h7 : k = 7
    · subst h7
      simp only [if_true]
      obtain ⟨u, hu⟩ := st_sw h (by simp)
      exact hB u hu _
    rw [if_neg h7, if_neg h7]
    by_cases h8 : k = 8
    · subst h8
      simp only [if_true]
      obtain ⟨u, hu⟩ := st_sw h (by simp)
      exact hB u hu _
    rw [if_neg h8, if_neg h8]
theorem sbI_eq : ∀ (b : List (List Fl)) (t : Bool) (lb : Int) (imp : Bool), stI b t = true → sbI b lb imp = hbI b lb imp
  | (y :: ys) :: r, t, lb, imp, h => by
    rw [stI] at h
    rw [sbI, hbI]
    exact sbF_eq y t lb imp h
  | [], t, lb, imp, h => by simp only [sbI, hbI]
  | [] :: r, t, lb, imp, h => by simp only [sbI, hbI]
theorem sbP_eq : ∀ (b : List (List Fl)) (t : Bool) (lb : Int) (imp : Bool), b.length < 2 → liB b t = true → sbP b lb imp = hbB b lb imp
  | [], t, lb, imp, h1, h => by rw [sbP, hbB]
  | [y], t, lb, imp, h1, h => by
    rw [liB_cons] at h
    simp only [Bool.and_eq_true] at h
    rw [sbP, hbB, hbB, Bool.or_false]
    exact sbL_eq y _ lb imp h.1
  | y :: z :: r, t, lb, imp, h1, h => by simp at h1; omega
theorem sbL_eq : ∀ (y : List Fl) (t : Bool) (lb : Int) (imp : Bool), fiL y t = true → sbL y lb imp = hbL y lb imp
  | [], t, lb, imp, h => by rw [sbL, hbL]
  | x :: xs, t, lb, imp, h => by
    rw [fiL_cons] at h
    simp only [Bool.and_eq_true] at h
    rw [sbL, hbL, sbF_eq x _ lb imp h.1, sbL_eq xs t lb imp h.2]
theorem sbB_eq : ∀ (b : List (List Fl)) (t : Bool) (lb : Int) (imp : Bool), liB b t = true → sbB b lb imp = hbB b lb imp
  | [], t, lb, imp, h => by rw [sbB, hbB]
  | y :: ys, t, lb, imp, h => by
    rw [liB_cons] at h
    simp only [Bool.and_eq_true] at h
    rw [sbB, hbB, sbL_eq y _ lb imp h.1, sbB_eq ys t lb imp h.2]
end
mutual
theorem seF_eq : ∀ (x : Fl) (t : Bool) (lb : Int), stF x t = true → seF x lb = teF x lb
  | .mk k l d b, t, lb, h => by
    have hP : ∀ u, b.length < 2 → liB b u = true → seP b = teOne b := fun u h1 h2 => seP_eq b u h1 h2
    have hT : ∀ u, b.length < 3 → liB b u = true → seTwo b = teTwo b := fun u h1 h2 => seTwo_eq b u h1 h2
    have hA : ∀ u, liB b u = true → seAll b lb = teAll b lb := fun u h2 => seAll_eq b u lb h2
    have hI : ∀ u, stI b u = true → seI b l = teI b l := fun u h2 => seI_eq b u l h2
    rw [seF, teF]
    by_cases h0 : k = 0
    · simp only [if_pos h0]
    rw [if_neg h0, if_neg h0]
    by_cases h1 : k = 1
    · simp only [if_pos h1]
    rw [if_neg h1, if_neg h1]
    by_cases h11 : k = 11
    · simp only [if_pos h11]
    rw [if_neg h11, if_neg h11]
    by_cases h14 : k = 14
    · simp only [if_pos h14]
    rw [if_neg h14, if_neg h14]
    by_cases h2 : k = 2
    · subst h2
      simp only [if_true]
      exact hT _ (st_if h).1 (st_if h).2
    rw [if_neg h2, if_neg h2]
    by_cases h9 : k = 9
    · subst h9
      simp only [if_true]
      exact hP _ (st_two h (by simp)).1 (st_two h (by simp)).2
    rw [if_neg h9, if_neg h9]
    by_cases h3 : k = 3
    · subst h3
      simp only [if_true]
      rw [sbP_eq b _ lb true (st_two h (by simp)).1 (st_two h (by simp)).2]
    rw [if_neg h3, if_neg h3]
    by_cases h6 : k = 6
    · subst h6
      simp only [if_true]
      obtain ⟨u, hu⟩ := st_sw h (by simp)
      rw [hA u hu]
    rw [if_neg h6, if_neg h6]
    by_cases h7 : k = 7
    · subst h7
      simp only [if_true]
      obtain ⟨u, hu⟩ := st_sw h (by simp)
      rw [hA u hu]
    rw [if_neg h7, if_neg h7]
    by_cases h8 : k = 8
    · subst h8
      simp only [if_true]
      obtain ⟨u, hu⟩ := st_sw h (by simp)
      exact hA u hu
    rw [if_neg h8, if_neg h8]
    by_cases h10 : k = 10
    · subst h10
      simp only [if_true]
      exact hI t (st_lab h)
    rw [if_neg h10, if_neg h10]
theorem seI_eq : ∀ (b : List (List Fl)) (t : Bool) (lb : Int), stI b t = true → seI b lb = teI b lb
  | (y :: ys) :: r, t, lb, h => by
    rw [stI] at h
    rw [seI, teI]
    exact seF_eq y t lb h
  | [], t, lb, h => by simp only [seI, teI]
  | [] :: r, t, lb, h => by simp only [seI, teI]
theorem seP_eq : ∀ (b : List (List Fl)) (t : Bool), b.length < 2 → liB b t = true → seP b = teOne b
  | [], t, h1, h => by simp only [seP, teOne]
  | [y], t, h1, h => by
    rw [liB_cons] at h
    simp only [Bool.and_eq_true] at h
    rw [seP, teOne]
    exact seL_eq y _ h.1
  | y :: z :: r, t, h1, h => by simp at h1; omega
theorem seTwo_eq : ∀ (b : List (List Fl)) (t : Bool), b.length < 3 → liB b t = true → seTwo b = teTwo b
  | [], t, h1, h => by simp only [seTwo, teTwo]
  | [y], t, h1, h => by simp only [seTwo, teTwo]
  | [y, z], t, h1, h => by
    rw [liB_cons, liB_cons] at h
    simp only [Bool.and_eq_true] at h
    rw [seTwo, teTwo, seL_eq y _ h.1, seL_eq z _ h.2.1]
  | y :: z :: x :: r, t, h1, h => by simp at h1; omega
theorem seAll_eq : ∀ (b : List (List Fl)) (t : Bool) (lb : Int), liB b t = true → seAll b lb = teAll b lb
  | [], t, lb, h => by rw [seAll, teAll]
  | y :: ys, t, lb, h => by
    rw [liB_cons] at h
    simp only [Bool.and_eq_true] at h
    rw [seAll, teAll, seL_eq y _ h.1, sbL_eq y _ lb true h.1, seAll_eq ys t lb h.2]
theorem seL_eq : ∀ (y : List Fl) (t : Bool), fiL y t = true → seL y = teL y
  | [], t, h => by rw [seL, teL]
  | x :: xs, t, h => by
    rw [fiL_cons] at h
    simp only [Bool.and_eq_true] at h
    rw [seL, teL, seF_eq x _ 0 h.1, seL_eq xs t h.2]
end
theorem sallE_cons (x : Fl) (xs : List Fl) : allE (x :: xs) = (x.kind == 20 && allE xs) := by simp [allE]
theorem seL_cons (x : Fl) (xs : List Fl) : seL (x :: xs) = if allE xs then (if x.kind = 20 then false else seF x 0) else seL xs := by rw [seL]
theorem seL_none : ∀ l : List Fl, allE l = true → seL l = false
  | [], _ => by rw [seL]
  | x :: xs, h => by
    rw [sallE_cons, Bool.and_eq_true, beq_iff_eq] at h
    rw [seL_cons, if_pos h.2, if_pos h.1]
theorem sallE_at : ∀ (l : List Fl) (i : Nat) (x : Fl), l[i]? = some x → ¬ x.kind = 20 → allE l = false
  | y :: ys, 0, x, h, hk => by simp at h; subst h; rw [sallE_cons]; simp [hk]
  | y :: ys, i + 1, x, h, hk => by rw [sallE_cons, sallE_at ys i x (by simpa using h) hk, Bool.and_false]
theorem seL_at : ∀ (l : List Fl) (i : Nat) (x : Fl), l[i]? = some x → ¬ x.kind = 20 → allE (l.drop (i + 1)) = true → seL l = seF x 0
  | y :: ys, 0, x, h, hk, he => by
    simp at h
    subst h
    rw [seL_cons, if_pos (by simpa using he), if_neg hk]
  | y :: ys, i + 1, x, h, hk, he => by
    have := sallE_at ys i x (by simpa using h) hk
    rw [seL_cons, this, if_neg (by simp)]
    exact seL_at ys i x (by simpa using h) hk (by simpa using he)
theorem sbL_append (lb : Int) (imp : Bool) (y : List Fl) : ∀ x : List Fl, sbL (x ++ y) lb imp = (sbL x lb imp || sbL y lb imp)
  | [] => by rw [sbL]; rfl
  | a :: x => by rw [List.cons_append, sbL, sbL, sbL_append lb imp y x, Bool.or_assoc]
theorem sbL_take {lb : Int} {imp : Bool} {l : List Fl} {i : Nat} {x : Fl} (h : l[i]? = some x) : sbL (l.take (i + 1)) lb imp = (sbL (l.take i) lb imp || sbF x lb imp) := by
  rw [List.take_add_one, h, sbL_append]
  simp [sbL]
theorem sbL_mem {lb : Int} {imp : Bool} {l : List Fl} {i : Nat} {x : Fl} (h : l[i]? = some x) (hx : sbF x lb imp = true) : sbL l lb imp = true := by
  rw [← List.take_append_drop (i + 1) l, sbL_append, sbL_take h, hx]; simp
theorem sbB_append (lb : Int) (imp : Bool) (y : List (List Fl)) : ∀ x : List (List Fl), sbB (x ++ y) lb imp = (sbB x lb imp || sbB y lb imp)
  | [] => by rw [sbB]; rfl
  | a :: x => by rw [List.cons_append, sbB, sbB, sbB_append lb imp y x, Bool.or_assoc]
theorem sbB_take {lb : Int} {imp : Bool} {l : List (List Fl)} {i : Nat} {x : List Fl} (h : l[i]? = some x) : sbB (l.take (i + 1)) lb imp = (sbB (l.take i) lb imp || sbL x lb imp) := by
  rw [List.take_add_one, h, sbB_append]
  simp [sbB]
theorem sbB_mem {lb : Int} {imp : Bool} {l : List (List Fl)} {i : Nat} {x : List Fl} (h : l[i]? = some x) (hx : sbL x lb imp = true) : sbB l lb imp = true := by
  rw [← List.take_append_drop (i + 1) l, sbB_append, sbB_take h, hx]; simp
theorem seAll_append (lb : Int) (y : List (List Fl)) : ∀ x : List (List Fl), seAll (x ++ y) lb = (seAll x lb && seAll y lb)
  | [] => by rw [seAll]; rfl
  | a :: x => by rw [List.cons_append, seAll, seAll, seAll_append lb y x]; simp [Bool.and_assoc]
theorem seAll_take {lb : Int} {l : List (List Fl)} {i : Nat} {x : List Fl} (h : l[i]? = some x) : seAll (l.take (i + 1)) lb = (seAll (l.take i) lb && (seL x && !(sbL x lb true))) := by
  rw [List.take_add_one, h, seAll_append]
  simp [seAll]
theorem seAll_mem {lb : Int} {l : List (List Fl)} {i : Nat} {x : List Fl} (h : l[i]? = some x) (hx : (seL x && !(sbL x lb true)) = false) : seAll l lb = false := by
  rw [← List.take_append_drop (i + 1) l, seAll_append, seAll_take h, hx]; simp

/-! The functions. -/
def BrF (x : Fl) : Prop := ∀ (lb : Int) (imp : Bool) (k l d : Int) (bd : List (List Fl)) (a : Option Addr) (cap H : Nat) (w : World), x = .mk k l d bd → SLL w H a cap bd → H ≤ w.heap.size →
    Calls Tryz.prog 70 #[.agg #[.int .i64 k, .int .i64 l, .int .i64 d, .slice a bd.length cap], .int .i64 lb, .bool imp] w (RetB w (sbF x lb imp))
def BrL (y : List Fl) : Prop := ∀ (lb : Int) (imp : Bool) (a : Option Addr) (cap H : Nat) (w : World), SL w H a cap y → H ≤ w.heap.size →
    Calls Tryz.prog 49 #[.slice a y.length cap, .int .i64 lb, .bool imp] w (RetB w (sbL y lb imp))
set_option maxHeartbeats 4000000 in
theorem brL_of (y : List Fl) (hx : ∀ x ∈ y, BrF x) : BrL y := by
  intro lb imp a cap H w hs hH
  have hlen : y.length * 48 ≤ 140737488355328 := hs.2.1
  obtain ⟨_, _, b, o, hsa, he⟩ := hs
  have HE := Lib.hid he
  have HSA := Lib.hid hsa
  have HX := Lib.hid hx
  clear he hsa hx
  go_enter Tryz.func49, Tryz.ntmps49
  go_wp2_with fail
  go_loopg [11] y.length (fun g vi wr => ∃ i : Nat, i + g = y.length ∧ vi = .int .i64 i ∧ Hid (sbL (y.take i) lb imp = false) ∧ Below w.heap.size w wr)
  case atStart => exact ⟨0, by omega, rfl, by rw [List.take_zero, sbL]; rfl, Below.refl _ _⟩
  case round =>
    obtain ⟨i, hi, rfl, hf, hb⟩ := hrel
    by_cases hlt : i < y.length
    · obtain ⟨hbH, k, l, d, bd, a', cap', _, hxi, c0, c1, c2, c3, hsl⟩ := HE.out.at i hlt
      obtain rfl := HSA.out (by rintro rfl; simp at hlt)
      have hbw : b < w.heap.size := by omega
      have d0 : wr.cell? ⟨b, o + i * 4, none⟩ = _ := (hb.cell (p := ⟨b, o + i * 4, none⟩) hbw).trans c0
      have d1 : wr.cell? ⟨b, o + i * 4 + 1, none⟩ = _ := (hb.cell (p := ⟨b, o + i * 4 + 1, none⟩) hbw).trans c1
      have d2 : wr.cell? ⟨b, o + i * 4 + 2, none⟩ = _ := (hb.cell (p := ⟨b, o + i * 4 + 2, none⟩) hbw).trans c2
      have d3 : wr.cell? ⟨b, o + i * 4 + 3, none⟩ = _ := (hb.cell (p := ⟨b, o + i * 4 + 3, none⟩) hbw).trans c3
      have hbr : b < wr.heap.size := by have := hb.size; omega
      have hiI : (i : Int) < (y.length : Int) := by omega
      have hi0 : (0 : Int) ≤ (i : Int) := by omega
      have hszr : w.heap.size ≤ wr.heap.size := hb.size
      have hb1 := hb.alloc hszr (.cells #[.int .i64 k, .int .i64 l, .int .i64 d, .slice a' bd.length cap'] 27)
      obtain ⟨W1, hW1⟩ : ∃ W1, W1 = wr.alloc (.cells #[.int .i64 k, .int .i64 l, .int .i64 d, .slice a' bd.length cap'] 27) := ⟨_, rfl⟩
      rw [← hW1] at hb1
      have hcall := HX.out _ (List.mem_of_getElem? hxi) lb imp k l d bd a' cap' H W1 rfl (hsl.keep (fun q hq => hb1.block q (by omega)) (Nat.le_refl _)) (by have := hb1.size; omega)
      have HC := Lib.hid hcall
      have HB1 := Lib.hid hb1
      have HW1 := Lib.hid hW1
      have HXI := Lib.hid hxi
      clear hcall hb1 hW1 hb hxi hsl c0 c1 c2 c3
      cases hr : sbF (.mk k l d bd) lb imp with
      | true =>
        rw [hr] at HC
        go_wp2_with fail
        rw [← HW1.out]
        refine (HC.out).mono ?_
        rintro e w5 ⟨rfl, hb5⟩
        have HB5 := Lib.hid (HB1.out.trans (Below.mono hb5 HB1.out.size))
        clear hb5
        go_wp2_with fail
        refine bodyPost_ret (results_tmp rfl _ _ _) rfl ?_
        exact ⟨by rw [sbL_mem HXI.out hr]; rfl, HB5.out⟩
      | false =>
        rw [hr] at HC
        go_wp2_with fail
        rw [← HW1.out]
        refine (HC.out).mono ?_
        rintro e w5 ⟨rfl, hb5⟩
        have HB5 := Lib.hid (HB1.out.trans (Below.mono hb5 HB1.out.size))
        clear hb5
        go_wp2_with fail
        go_roundg (gk - 1)
        case measure => omega
        exact ⟨i + 1, by omega, by simp, (show sbL (y.take (i + 1)) lb imp = false by rw [sbL_take HXI.out, hf.out, hr]; rfl), HB5.out⟩
    · have hiI : ¬ (i : Int) < (y.length : Int) := by omega
      obtain rfl : i = y.length := by omega
      have h5 := hf.out
      rw [List.take_length] at h5
      have HF := Lib.hid h5
      clear hf h5
      go_wp2_with fail
      go_ret
      exact ⟨by rw [HF.out]; rfl, hb⟩
theorem brL_nil : BrL [] := brL_of [] fun x h => (by cases h)
set_option maxHeartbeats 1000000 in
theorem br_12 (lb : Int) (imp : Bool) (l d : Int) (bd : List (List Fl)) (a : Option Addr) (cap : Nat) (w : World) : Calls Tryz.prog 70 #[.agg #[.int .i64 12, .int .i64 l, .int .i64 d, .slice a bd.length cap], .int .i64 lb, .bool imp] w (RetB w (sbF (.mk 12 l d bd) lb imp)) := by
  rw [sbF, if_pos rfl]
  by_cases hl : l = 0
  · subst hl
    rw [if_pos rfl]
    cases imp
    all_goals
      go_enter Tryz.func70, Tryz.ntmps70
      go_wp2_with fail
      refine bodyPost_ret (results_tmp rfl _ _ _) rfl ?_
      exact ⟨rfl, (Below.refl _ _).alloc (Nat.le_refl _) _⟩
  · rw [if_neg hl]
    have h0 : (l == 0) = false := by simpa using hl
    have h1 : (l != 0) = true := by simpa using hl
    go_enter Tryz.func70, Tryz.ntmps70
    go_wp2_with fail
    refine bodyPost_ret (results_tmp rfl _ _ _) rfl ?_
    exact ⟨rfl, (Below.refl _ _).alloc (Nat.le_refl _) _⟩
set_option maxHeartbeats 1000000 in
theorem br_10 (lb : Int) (imp : Bool) (l d : Int) (bd : List (List Fl)) (a : Option Addr) (cap H : Nat) (w : World) (hi : BrF (innerB bd)) (hs : SLL w H a cap bd) (hH : H ≤ w.heap.size) : Calls Tryz.prog 70 #[.agg #[.int .i64 10, .int .i64 l, .int .i64 d, .slice a bd.length cap], .int .i64 lb, .bool imp] w (RetB w (sbF (.mk 10 l d bd) lb imp)) := by
  have e : sbF (.mk 10 l d bd) lb imp = sbF (innerB bd) lb imp := by
    rw [sbF]
    rcases bd with _ | ⟨_ | ⟨y, ys⟩, yss⟩
    · simp [sbI, innerB, emptyFl, sbF]
    · simp [sbI, innerB, emptyFl, sbF]
    · simp [sbI, innerB]
  rw [e]
  have HI := Lib.hid hi
  have ci := inner_any 10 l d bd a cap H (w.alloc (.cells #[.int .i64 10, .int .i64 l, .int .i64 d, .slice a bd.length cap] 27)) (hs.below ((Below.refl w.heap.size _).alloc (Nat.le_refl _) _) hH) (by simp; omega)
  have CI := Lib.hid ci
  clear e hi ci hs
  go_enter Tryz.func70, Tryz.ntmps70
  go_wp2_with fail
  refine (CI.out).mono ?_
  rintro e w1 ⟨k', l', d', bd', a', cap', hx, rfl, hs1, hb1⟩
  have hsz : w.heap.size + 1 ≤ w1.heap.size := by have := hb1.size; simpa using this
  have HX := Lib.hid hx
  have HS1 := Lib.hid hs1
  have HB1 := Lib.hid hb1
  clear hx hs1 hb1
  go_wp2_with fail
  refine (HI.out lb imp k' l' d' bd' a' cap' H w1 HX.out HS1.out (by omega)).mono ?_
  rintro e w2 ⟨rfl, hb2⟩
  go_wp2_with fail
  refine bodyPost_ret (results_tmp rfl _ _ _) rfl ?_
  exact ⟨rfl, ((Below.refl w.heap.size _).alloc (Nat.le_refl _) _).trans (Below.mono (HB1.out.trans (Below.mono hb2 HB1.out.size)) (by simp))⟩
set_option maxHeartbeats 1000000 in
theorem br_3 (lb : Int) (imp : Bool) (l d : Int) (bd : List (List Fl)) (a : Option Addr) (cap H : Nat) (w : World) (hi : BrL (partB bd 0)) (hs : SLL w H a cap bd) (hH : H ≤ w.heap.size) : Calls Tryz.prog 70 #[.agg #[.int .i64 3, .int .i64 l, .int .i64 d, .slice a bd.length cap], .int .i64 lb, .bool imp] w (RetB w (sbF (.mk 3 l d bd) lb imp)) := by
  have e : sbF (.mk 3 l d bd) lb imp = sbL (partB bd 0) lb false := by
    rw [sbF]
    rcases bd with _ | ⟨y, ys⟩
    · simp [sbP, partB, sbL]
    · simp [sbP, partB]
  rw [e]
  have HI := Lib.hid hi
  have ci := part_any 3 l d bd a cap H (w.alloc (.cells #[.int .i64 3, .int .i64 l, .int .i64 d, .slice a bd.length cap] 27)) (hs.below ((Below.refl w.heap.size _).alloc (Nat.le_refl _) _) hH) (by simp; omega)
  have CI := Lib.hid ci
  clear e hi ci hs
  go_enter Tryz.func70, Tryz.ntmps70
  go_wp2_with fail
  refine (CI.out).mono ?_
  rintro e w1 ⟨a1, cap1, rfl, hs1, hb1⟩
  have hsz : w.heap.size + 1 ≤ w1.heap.size := by have := hb1.size; simpa using this
  have HS1 := Lib.hid hs1
  have HB1 := Lib.hid hb1
  clear hs1 hb1
  go_wp2_with fail
  refine (HI.out lb false a1 cap1 H w1 HS1.out (by omega)).mono ?_
  rintro e w2 ⟨rfl, hb2⟩
  go_wp2_with fail
  refine bodyPost_ret (results_tmp rfl _ _ _) rfl ?_
  exact ⟨rfl, ((Below.refl w.heap.size _).alloc (Nat.le_refl _) _).trans (Below.mono (HB1.out.trans (Below.mono hb2 HB1.out.size)) (by simp))⟩
set_option maxHeartbeats 1000000 in
theorem br_4 (lb : Int) (imp : Bool) (l d : Int) (bd : List (List Fl)) (a : Option Addr) (cap H : Nat) (w : World) (hi : BrL (partB bd 0)) (hs : SLL w H a cap bd) (hH : H ≤ w.heap.size) : Calls Tryz.prog 70 #[.agg #[.int .i64 4, .int .i64 l, .int .i64 d, .slice a bd.length cap], .int .i64 lb, .bool imp] w (RetB w (sbF (.mk 4 l d bd) lb imp)) := by
  have e : sbF (.mk 4 l d bd) lb imp = sbL (partB bd 0) lb false := by
    rw [sbF]
    rcases bd with _ | ⟨y, ys⟩
    · simp [sbP, partB, sbL]
    · simp [sbP, partB]
  rw [e]
  have HI := Lib.hid hi
  have ci := part_any 4 l d bd a cap H (w.alloc (.cells #[.int .i64 4, .int .i64 l, .int .i64 d, .slice a bd.length cap] 27)) (hs.below ((Below.refl w.heap.size _).alloc (Nat.le_refl _) _) hH) (by simp; omega)
  have CI := Lib.hid ci
  clear e hi ci hs
  go_enter Tryz.func70, Tryz.ntmps70
  go_wp2_with fail
  refine (CI.out).mono ?_
  rintro e w1 ⟨a1, cap1, rfl, hs1, hb1⟩
  have hsz : w.heap.size + 1 ≤ w1.heap.size := by have := hb1.size; simpa using this
  have HS1 := Lib.hid hs1
  have HB1 := Lib.hid hb1
  clear hs1 hb1
  go_wp2_with fail
  refine (HI.out lb false a1 cap1 H w1 HS1.out (by omega)).mono ?_
  rintro e w2 ⟨rfl, hb2⟩
  go_wp2_with fail
  refine bodyPost_ret (results_tmp rfl _ _ _) rfl ?_
  exact ⟨rfl, ((Below.refl w.heap.size _).alloc (Nat.le_refl _) _).trans (Below.mono (HB1.out.trans (Below.mono hb2 HB1.out.size)) (by simp))⟩
set_option maxHeartbeats 1000000 in
theorem br_5 (lb : Int) (imp : Bool) (l d : Int) (bd : List (List Fl)) (a : Option Addr) (cap H : Nat) (w : World) (hi : BrL (partB bd 0)) (hs : SLL w H a cap bd) (hH : H ≤ w.heap.size) : Calls Tryz.prog 70 #[.agg #[.int .i64 5, .int .i64 l, .int .i64 d, .slice a bd.length cap], .int .i64 lb, .bool imp] w (RetB w (sbF (.mk 5 l d bd) lb imp)) := by
  have e : sbF (.mk 5 l d bd) lb imp = sbL (partB bd 0) lb false := by
    rw [sbF]
    rcases bd with _ | ⟨y, ys⟩
    · simp [sbP, partB, sbL]
    · simp [sbP, partB]
  rw [e]
  have HI := Lib.hid hi
  have ci := part_any 5 l d bd a cap H (w.alloc (.cells #[.int .i64 5, .int .i64 l, .int .i64 d, .slice a bd.length cap] 27)) (hs.below ((Below.refl w.heap.size _).alloc (Nat.le_refl _) _) hH) (by simp; omega)
  have CI := Lib.hid ci
  clear e hi ci hs
  go_enter Tryz.func70, Tryz.ntmps70
  go_wp2_with fail
  refine (CI.out).mono ?_
  rintro e w1 ⟨a1, cap1, rfl, hs1, hb1⟩
  have hsz : w.heap.size + 1 ≤ w1.heap.size := by have := hb1.size; simpa using this
  have HS1 := Lib.hid hs1
  have HB1 := Lib.hid hb1
  clear hs1 hb1
  go_wp2_with fail
  refine (HI.out lb false a1 cap1 H w1 HS1.out (by omega)).mono ?_
  rintro e w2 ⟨rfl, hb2⟩
  go_wp2_with fail
  refine bodyPost_ret (results_tmp rfl _ _ _) rfl ?_
  exact ⟨rfl, ((Below.refl w.heap.size _).alloc (Nat.le_refl _) _).trans (Below.mono (HB1.out.trans (Below.mono hb2 HB1.out.size)) (by simp))⟩
set_option maxHeartbeats 4000000 in
theorem br_2 (lb : Int) (imp : Bool) (l d : Int) (bd : List (List Fl)) (a : Option Addr) (cap H : Nat) (w : World) (hi : ∀ y ∈ bd, BrL y) (hs : SLL w H a cap bd) (hH : H ≤ w.heap.size) : Calls Tryz.prog 70 #[.agg #[.int .i64 2, .int .i64 l, .int .i64 d, .slice a bd.length cap], .int .i64 lb, .bool imp] w (RetB w (sbF (.mk 2 l d bd) lb imp)) := by
  have e : sbF (.mk 2 l d bd) lb imp = sbB bd lb imp := by rw [sbF]; simp
  rw [e]
  have hlen : bd.length * 24 ≤ 140737488355328 := hs.2.1
  obtain ⟨_, _, b, o, hsa, he⟩ := hs
  have HE := Lib.hid he
  have HSA := Lib.hid hsa
  have HI := Lib.hid hi
  have HB0 := Lib.hid ((Below.refl w.heap.size w).alloc (Nat.le_refl _) (.cells #[.int .i64 2, .int .i64 l, .int .i64 d, .slice a bd.length cap] 27))
  clear he hsa hi e
  go_enter Tryz.func70, Tryz.ntmps70
  go_wp2_with fail
  go_loopg [45] bd.length (fun g vi wr => ∃ i : Nat, i + g = bd.length ∧ vi = .int .i64 i ∧ Hid (sbB (bd.take i) lb imp = false) ∧ Below w.heap.size w wr)
  case atStart => exact ⟨0, by omega, rfl, by rw [List.take_zero, sbB]; rfl, HB0.out⟩
  case round =>
    obtain ⟨i, hi, rfl, hf, hb⟩ := hrel
    by_cases hlt : i < bd.length
    · obtain ⟨hbH, y, a', cap', _, hxi, c0, hsl⟩ := HE.out.at i hlt
      obtain rfl := HSA.out (by rintro rfl; simp at hlt)
      have hbw : b < w.heap.size := by omega
      have d0 : wr.cell? ⟨b, o + i, none⟩ = _ := (hb.cell (p := ⟨b, o + i, none⟩) hbw).trans c0
      have hbr : b < wr.heap.size := by have := hb.size; omega
      have hiI : (i : Int) < (bd.length : Int) := by omega
      have hi0 : (0 : Int) ≤ (i : Int) := by omega
      have hszr : w.heap.size ≤ wr.heap.size := hb.size
      have hcall := HI.out y (List.mem_of_getElem? hxi) lb imp a' cap' H wr (hsl.keep (fun q hq => hb.block q (by omega)) (Nat.le_refl _)) (by omega)
      have HC := Lib.hid hcall
      have HB1 := Lib.hid hb
      have HXI := Lib.hid hxi
      clear hcall hb hxi hsl c0
      cases hr : sbL y lb imp with
      | true =>
        rw [hr] at HC
        go_wp2_with fail
        refine (HC.out).mono ?_
        rintro e w5 ⟨rfl, hb5⟩
        have HB5 := Lib.hid (HB1.out.trans (Below.mono hb5 HB1.out.size))
        clear hb5
        go_wp2_with fail
        refine bodyPost_ret (results_tmp rfl _ _ _) rfl ?_
        exact ⟨by rw [sbB_mem HXI.out hr]; rfl, HB5.out⟩
      | false =>
        rw [hr] at HC
        go_wp2_with fail
        refine (HC.out).mono ?_
        rintro e w5 ⟨rfl, hb5⟩
        have HB5 := Lib.hid (HB1.out.trans (Below.mono hb5 HB1.out.size))
        clear hb5
        go_wp2_with fail
        go_roundg (gk - 1)
        case measure => omega
        exact ⟨i + 1, by omega, by simp, (show sbB (bd.take (i + 1)) lb imp = false by rw [sbB_take HXI.out, hf.out, hr]; rfl), HB5.out⟩
    · have hiI : ¬ (i : Int) < (bd.length : Int) := by omega
      obtain rfl : i = bd.length := by omega
      have h5 := hf.out
      rw [List.take_length] at h5
      have HF := Lib.hid h5
      clear hf h5
      go_wp2_with fail
      go_ret
      exact ⟨by rw [HF.out]; rfl, hb⟩
set_option maxHeartbeats 4000000 in
theorem br_9 (lb : Int) (imp : Bool) (l d : Int) (bd : List (List Fl)) (a : Option Addr) (cap H : Nat) (w : World) (hi : ∀ y ∈ bd, BrL y) (hs : SLL w H a cap bd) (hH : H ≤ w.heap.size) : Calls Tryz.prog 70 #[.agg #[.int .i64 9, .int .i64 l, .int .i64 d, .slice a bd.length cap], .int .i64 lb, .bool imp] w (RetB w (sbF (.mk 9 l d bd) lb imp)) := by
  have e : sbF (.mk 9 l d bd) lb imp = sbB bd lb imp := by rw [sbF]; simp
  rw [e]
  have hlen : bd.length * 24 ≤ 140737488355328 := hs.2.1
  obtain ⟨_, _, b, o, hsa, he⟩ := hs
  have HE := Lib.hid he
  have HSA := Lib.hid hsa
  have HI := Lib.hid hi
  have HB0 := Lib.hid ((Below.refl w.heap.size w).alloc (Nat.le_refl _) (.cells #[.int .i64 9, .int .i64 l, .int .i64 d, .slice a bd.length cap] 27))
  clear he hsa hi e
  go_enter Tryz.func70, Tryz.ntmps70
  go_wp2_with fail
  go_loopg [45] bd.length (fun g vi wr => ∃ i : Nat, i + g = bd.length ∧ vi = .int .i64 i ∧ Hid (sbB (bd.take i) lb imp = false) ∧ Below w.heap.size w wr)
  case atStart => exact ⟨0, by omega, rfl, by rw [List.take_zero, sbB]; rfl, HB0.out⟩
  case round =>
    obtain ⟨i, hi, rfl, hf, hb⟩ := hrel
    by_cases hlt : i < bd.length
    · obtain ⟨hbH, y, a', cap', _, hxi, c0, hsl⟩ := HE.out.at i hlt
      obtain rfl := HSA.out (by rintro rfl; simp at hlt)
      have hbw : b < w.heap.size := by omega
      have d0 : wr.cell? ⟨b, o + i, none⟩ = _ := (hb.cell (p := ⟨b, o + i, none⟩) hbw).trans c0
      have hbr : b < wr.heap.size := by have := hb.size; omega
      have hiI : (i : Int) < (bd.length : Int) := by omega
      have hi0 : (0 : Int) ≤ (i : Int) := by omega
      have hszr : w.heap.size ≤ wr.heap.size := hb.size
      have hcall := HI.out y (List.mem_of_getElem? hxi) lb imp a' cap' H wr (hsl.keep (fun q hq => hb.block q (by omega)) (Nat.le_refl _)) (by omega)
      have HC := Lib.hid hcall
      have HB1 := Lib.hid hb
      have HXI := Lib.hid hxi
      clear hcall hb hxi hsl c0
      cases hr : sbL y lb imp with
      | true =>
        rw [hr] at HC
        go_wp2_with fail
        refine (HC.out).mono ?_
        rintro e w5 ⟨rfl, hb5⟩
        have HB5 := Lib.hid (HB1.out.trans (Below.mono hb5 HB1.out.size))
        clear hb5
        go_wp2_with fail
        refine bodyPost_ret (results_tmp rfl _ _ _) rfl ?_
        exact ⟨by rw [sbB_mem HXI.out hr]; rfl, HB5.out⟩
      | false =>
        rw [hr] at HC
        go_wp2_with fail
        refine (HC.out).mono ?_
        rintro e w5 ⟨rfl, hb5⟩
        have HB5 := Lib.hid (HB1.out.trans (Below.mono hb5 HB1.out.size))
        clear hb5
        go_wp2_with fail
        go_roundg (gk - 1)
        case measure => omega
        exact ⟨i + 1, by omega, by simp, (show sbB (bd.take (i + 1)) lb imp = false by rw [sbB_take HXI.out, hf.out, hr]; rfl), HB5.out⟩
    · have hiI : ¬ (i : Int) < (bd.length : Int) := by omega
      obtain rfl : i = bd.length := by omega
      have h5 := hf.out
      rw [List.take_length] at h5
      have HF := Lib.hid h5
      clear hf h5
      go_wp2_with fail
      go_ret
      exact ⟨by rw [HF.out]; rfl, hb⟩
set_option maxHeartbeats 4000000 in
theorem br_6 (lb : Int) (imp : Bool) (l d : Int) (bd : List (List Fl)) (a : Option Addr) (cap H : Nat) (w : World) (hi : ∀ y ∈ bd, BrL y) (hs : SLL w H a cap bd) (hH : H ≤ w.heap.size) : Calls Tryz.prog 70 #[.agg #[.int .i64 6, .int .i64 l, .int .i64 d, .slice a bd.length cap], .int .i64 lb, .bool imp] w (RetB w (sbF (.mk 6 l d bd) lb imp)) := by
  have e : sbF (.mk 6 l d bd) lb imp = sbB bd lb false := by rw [sbF]; simp
  rw [e]
  have hlen : bd.length * 24 ≤ 140737488355328 := hs.2.1
  obtain ⟨_, _, b, o, hsa, he⟩ := hs
  have HE := Lib.hid he
  have HSA := Lib.hid hsa
  have HI := Lib.hid hi
  have HB0 := Lib.hid ((Below.refl w.heap.size w).alloc (Nat.le_refl _) (.cells #[.int .i64 6, .int .i64 l, .int .i64 d, .slice a bd.length cap] 27))
  clear he hsa hi e
  go_enter Tryz.func70, Tryz.ntmps70
  go_wp2_with fail
  go_loopg [69] bd.length (fun g vi wr => ∃ i : Nat, i + g = bd.length ∧ vi = .int .i64 i ∧ Hid (sbB (bd.take i) lb false = false) ∧ Below w.heap.size w wr)
  case atStart => exact ⟨0, by omega, rfl, by rw [List.take_zero, sbB]; rfl, HB0.out⟩
  case round =>
    obtain ⟨i, hi, rfl, hf, hb⟩ := hrel
    by_cases hlt : i < bd.length
    · obtain ⟨hbH, y, a', cap', _, hxi, c0, hsl⟩ := HE.out.at i hlt
      obtain rfl := HSA.out (by rintro rfl; simp at hlt)
      have hbw : b < w.heap.size := by omega
      have d0 : wr.cell? ⟨b, o + i, none⟩ = _ := (hb.cell (p := ⟨b, o + i, none⟩) hbw).trans c0
      have hbr : b < wr.heap.size := by have := hb.size; omega
      have hiI : (i : Int) < (bd.length : Int) := by omega
      have hi0 : (0 : Int) ≤ (i : Int) := by omega
      have hszr : w.heap.size ≤ wr.heap.size := hb.size
      have hcall := HI.out y (List.mem_of_getElem? hxi) lb false a' cap' H wr (hsl.keep (fun q hq => hb.block q (by omega)) (Nat.le_refl _)) (by omega)
      have HC := Lib.hid hcall
      have HB1 := Lib.hid hb
      have HXI := Lib.hid hxi
      clear hcall hb hxi hsl c0
      cases hr : sbL y lb false with
      | true =>
        rw [hr] at HC
        go_wp2_with fail
        refine (HC.out).mono ?_
        rintro e w5 ⟨rfl, hb5⟩
        have HB5 := Lib.hid (HB1.out.trans (Below.mono hb5 HB1.out.size))
        clear hb5
        go_wp2_with fail
        refine bodyPost_ret (results_tmp rfl _ _ _) rfl ?_
        exact ⟨by rw [sbB_mem HXI.out hr]; rfl, HB5.out⟩
      | false =>
        rw [hr] at HC
        go_wp2_with fail
        refine (HC.out).mono ?_
        rintro e w5 ⟨rfl, hb5⟩
        have HB5 := Lib.hid (HB1.out.trans (Below.mono hb5 HB1.out.size))
        clear hb5
        go_wp2_with fail
        go_roundg (gk - 1)
        case measure => omega
        exact ⟨i + 1, by omega, by simp, (show sbB (bd.take (i + 1)) lb false = false by rw [sbB_take HXI.out, hf.out, hr]; rfl), HB5.out⟩
    · have hiI : ¬ (i : Int) < (bd.length : Int) := by omega
      obtain rfl : i = bd.length := by omega
      have h5 := hf.out
      rw [List.take_length] at h5
      have HF := Lib.hid h5
      clear hf h5
      go_wp2_with fail
      go_ret
      exact ⟨by rw [HF.out]; rfl, hb⟩
set_option maxHeartbeats 4000000 in
theorem br_7 (lb : Int) (imp : Bool) (l d : Int) (bd : List (List Fl)) (a : Option Addr) (cap H : Nat) (w : World) (hi : ∀ y ∈ bd, BrL y) (hs : SLL w H a cap bd) (hH : H ≤ w.heap.size) : Calls Tryz.prog 70 #[.agg #[.int .i64 7, .int .i64 l, .int .i64 d, .slice a bd.length cap], .int .i64 lb, .bool imp] w (RetB w (sbF (.mk 7 l d bd) lb imp)) := by
  have e : sbF (.mk 7 l d bd) lb imp = sbB bd lb false := by rw [sbF]; simp
  rw [e]
  have hlen : bd.length * 24 ≤ 140737488355328 := hs.2.1
  obtain ⟨_, _, b, o, hsa, he⟩ := hs
  have HE := Lib.hid he
  have HSA := Lib.hid hsa
  have HI := Lib.hid hi
  have HB0 := Lib.hid ((Below.refl w.heap.size w).alloc (Nat.le_refl _) (.cells #[.int .i64 7, .int .i64 l, .int .i64 d, .slice a bd.length cap] 27))
  clear he hsa hi e
  go_enter Tryz.func70, Tryz.ntmps70
  go_wp2_with fail
  go_loopg [69] bd.length (fun g vi wr => ∃ i : Nat, i + g = bd.length ∧ vi = .int .i64 i ∧ Hid (sbB (bd.take i) lb false = false) ∧ Below w.heap.size w wr)
  case atStart => exact ⟨0, by omega, rfl, by rw [List.take_zero, sbB]; rfl, HB0.out⟩
  case round =>
    obtain ⟨i, hi, rfl, hf, hb⟩ := hrel
    by_cases hlt : i < bd.length
    · obtain ⟨hbH, y, a', cap', _, hxi, c0, hsl⟩ := HE.out.at i hlt
      obtain rfl := HSA.out (by rintro rfl; simp at hlt)
      have hbw : b < w.heap.size := by omega
      have d0 : wr.cell? ⟨b, o + i, none⟩ = _ := (hb.cell (p := ⟨b, o + i, none⟩) hbw).trans c0
      have hbr : b < wr.heap.size := by have := hb.size; omega
      have hiI : (i : Int) < (bd.length : Int) := by omega
      have hi0 : (0 : Int) ≤ (i : Int) := by omega
      have hszr : w.heap.size ≤ wr.heap.size := hb.size
      have hcall := HI.out y (List.mem_of_getElem? hxi) lb false a' cap' H wr (hsl.keep (fun q hq => hb.block q (by omega)) (Nat.le_refl _)) (by omega)
      have HC := Lib.hid hcall
      have HB1 := Lib.hid hb
      have HXI := Lib.hid hxi
      clear hcall hb hxi hsl c0
      cases hr : sbL y lb false with
      | true =>
        rw [hr] at HC
        go_wp2_with fail
        refine (HC.out).mono ?_
        rintro e w5 ⟨rfl, hb5⟩
        have HB5 := Lib.hid (HB1.out.trans (Below.mono hb5 HB1.out.size))
        clear hb5
        go_wp2_with fail
        refine bodyPost_ret (results_tmp rfl _ _ _) rfl ?_
        exact ⟨by rw [sbB_mem HXI.out hr]; rfl, HB5.out⟩
      | false =>
        rw [hr] at HC
        go_wp2_with fail
        refine (HC.out).mono ?_
        rintro e w5 ⟨rfl, hb5⟩
        have HB5 := Lib.hid (HB1.out.trans (Below.mono hb5 HB1.out.size))
        clear hb5
        go_wp2_with fail
        go_roundg (gk - 1)
        case measure => omega
        exact ⟨i + 1, by omega, by simp, (show sbB (bd.take (i + 1)) lb false = false by rw [sbB_take HXI.out, hf.out, hr]; rfl), HB5.out⟩
    · have hiI : ¬ (i : Int) < (bd.length : Int) := by omega
      obtain rfl : i = bd.length := by omega
      have h5 := hf.out
      rw [List.take_length] at h5
      have HF := Lib.hid h5
      clear hf h5
      go_wp2_with fail
      go_ret
      exact ⟨by rw [HF.out]; rfl, hb⟩
set_option maxHeartbeats 4000000 in
theorem br_8 (lb : Int) (imp : Bool) (l d : Int) (bd : List (List Fl)) (a : Option Addr) (cap H : Nat) (w : World) (hi : ∀ y ∈ bd, BrL y) (hs : SLL w H a cap bd) (hH : H ≤ w.heap.size) : Calls Tryz.prog 70 #[.agg #[.int .i64 8, .int .i64 l, .int .i64 d, .slice a bd.length cap], .int .i64 lb, .bool imp] w (RetB w (sbF (.mk 8 l d bd) lb imp)) := by
  have e : sbF (.mk 8 l d bd) lb imp = sbB bd lb false := by rw [sbF]; simp
  rw [e]
  have hlen : bd.length * 24 ≤ 140737488355328 := hs.2.1
  obtain ⟨_, _, b, o, hsa, he⟩ := hs
  have HE := Lib.hid he
  have HSA := Lib.hid hsa
  have HI := Lib.hid hi
  have HB0 := Lib.hid ((Below.refl w.heap.size w).alloc (Nat.le_refl _) (.cells #[.int .i64 8, .int .i64 l, .int .i64 d, .slice a bd.length cap] 27))
  clear he hsa hi e
  go_enter Tryz.func70, Tryz.ntmps70
  go_wp2_with fail
  go_loopg [69] bd.length (fun g vi wr => ∃ i : Nat, i + g = bd.length ∧ vi = .int .i64 i ∧ Hid (sbB (bd.take i) lb false = false) ∧ Below w.heap.size w wr)
  case atStart => exact ⟨0, by omega, rfl, by rw [List.take_zero, sbB]; rfl, HB0.out⟩
  case round =>
    obtain ⟨i, hi, rfl, hf, hb⟩ := hrel
    by_cases hlt : i < bd.length
    · obtain ⟨hbH, y, a', cap', _, hxi, c0, hsl⟩ := HE.out.at i hlt
      obtain rfl := HSA.out (by rintro rfl; simp at hlt)
      have hbw : b < w.heap.size := by omega
      have d0 : wr.cell? ⟨b, o + i, none⟩ = _ := (hb.cell (p := ⟨b, o + i, none⟩) hbw).trans c0
      have hbr : b < wr.heap.size := by have := hb.size; omega
      have hiI : (i : Int) < (bd.length : Int) := by omega
      have hi0 : (0 : Int) ≤ (i : Int) := by omega
      have hszr : w.heap.size ≤ wr.heap.size := hb.size
      have hcall := HI.out y (List.mem_of_getElem? hxi) lb false a' cap' H wr (hsl.keep (fun q hq => hb.block q (by omega)) (Nat.le_refl _)) (by omega)
      have HC := Lib.hid hcall
      have HB1 := Lib.hid hb
      have HXI := Lib.hid hxi
      clear hcall hb hxi hsl c0
      cases hr : sbL y lb false with
      | true =>
        rw [hr] at HC
        go_wp2_with fail
        refine (HC.out).mono ?_
        rintro e w5 ⟨rfl, hb5⟩
        have HB5 := Lib.hid (HB1.out.trans (Below.mono hb5 HB1.out.size))
        clear hb5
        go_wp2_with fail
        refine bodyPost_ret (results_tmp rfl _ _ _) rfl ?_
        exact ⟨by rw [sbB_mem HXI.out hr]; rfl, HB5.out⟩
      | false =>
        rw [hr] at HC
        go_wp2_with fail
        refine (HC.out).mono ?_
        rintro e w5 ⟨rfl, hb5⟩
        have HB5 := Lib.hid (HB1.out.trans (Below.mono hb5 HB1.out.size))
        clear hb5
        go_wp2_with fail
        go_roundg (gk - 1)
        case measure => omega
        exact ⟨i + 1, by omega, by simp, (show sbB (bd.take (i + 1)) lb false = false by rw [sbB_take HXI.out, hf.out, hr]; rfl), HB5.out⟩
    · have hiI : ¬ (i : Int) < (bd.length : Int) := by omega
      obtain rfl : i = bd.length := by omega
      have h5 := hf.out
      rw [List.take_length] at h5
      have HF := Lib.hid h5
      clear hf h5
      go_wp2_with fail
      go_ret
      exact ⟨by rw [HF.out]; rfl, hb⟩
set_option maxHeartbeats 1000000 in
theorem br_oth (lb : Int) (imp : Bool) (k l d : Int) (bd : List (List Fl)) (a : Option Addr) (cap : Nat) (w : World) (h12 : ¬ k = 12) (h10 : ¬ k = 10) (h2 : ¬ k = 2) (h9 : ¬ k = 9) (h3 : ¬ k = 3) (h4 : ¬ k = 4) (h5 : ¬ k = 5) (h6 : ¬ k = 6) (h7 : ¬ k = 7) (h8 : ¬ k = 8) : Calls Tryz.prog 70 #[.agg #[.int .i64 k, .int .i64 l, .int .i64 d, .slice a bd.length cap], .int .i64 lb, .bool imp] w (RetB w (sbF (.mk k l d bd) lb imp)) := by
  have e : sbF (.mk k l d bd) lb imp = false := by
    rw [sbF]
    simp [h12, h10, h2, h9, h3, h4, h5, h6, h7, h8]
  rw [e]
  have q12 : (k == 12) = false := by simpa using h12
  have q10 : (k == 10) = false := by simpa using h10
  have q2 : (k == 2) = false := by simpa using h2
  have q9 : (k == 9) = false := by simpa using h9
  have q3 : (k == 3) = false := by simpa using h3
  have q4 : (k == 4) = false := by simpa using h4
  have q5 : (k == 5) = false := by simpa using h5
  have q6 : (k == 6) = false := by simpa using h6
  have q7 : (k == 7) = false := by simpa using h7
  have q8 : (k == 8) = false := by simpa using h8
  clear e h12 h10 h2 h9 h3 h4 h5 h6 h7 h8
  go_enter Tryz.func70, Tryz.ntmps70
  go_wp2_with fail
  go_ret
  exact ⟨rfl, (Below.refl _ _).alloc (Nat.le_refl _) _⟩
theorem brF_empty : BrF emptyFl := by
  intro lb imp k l d bd a cap H w hx hs hH
  cases hx
  exact br_oth lb imp 20 0 0 [] a cap w (by decide) (by decide) (by decide) (by decide) (by decide) (by decide) (by decide) (by decide) (by decide) (by decide)
theorem brF_of (n : Nat) (hl : ∀ y, rkL y < n → BrL y) : ∀ (m : Nat) (x : Fl), rk x < m → rk x ≤ n → BrF x := by
  intro m
  induction m with
  | zero => exact fun x h => absurd h (Nat.not_lt_zero _)
  | succ m ih =>
    intro x hm hx lb imp k l d bd a cap H w e hs hH
    subst e
    rw [rk_mk] at hm hx
    have hL : ∀ y ∈ bd, BrL y := fun y hy => by
      obtain ⟨i, hi⟩ := List.mem_iff_getElem?.1 hy
      have := rkB_at hi
      exact hl y (by omega)
    have hP : BrL (partB bd 0) := by
      rcases bd with _ | ⟨y, ys⟩
      · exact brL_nil
      · exact hL y (by simp)
    have hI : BrF (innerB bd) := by
      rcases bd with _ | ⟨_ | ⟨y, ys⟩, yss⟩
      · exact brF_empty
      · exact brF_empty
      · have : rk y < rkB ((y :: ys) :: yss) := by rw [rkB, rkL]; omega
        exact ih y (by omega) (by omega)
    by_cases h12 : k = 12
    · subst h12; exact br_12 lb imp l d bd a cap w
    by_cases h10 : k = 10
    · subst h10; exact br_10 lb imp l d bd a cap H w hI hs hH
    by_cases h2 : k = 2
    · subst h2; exact br_2 lb imp l d bd a cap H w hL hs hH
    by_cases h9 : k = 9
    · subst h9; exact br_9 lb imp l d bd a cap H w hL hs hH
    by_cases h3 : k = 3
    · subst h3; exact br_3 lb imp l d bd a cap H w hP hs hH
    by_cases h4 : k = 4
    · subst h4; exact br_4 lb imp l d bd a cap H w hP hs hH
    by_cases h5 : k = 5
    · subst h5; exact br_5 lb imp l d bd a cap H w hP hs hH
    by_cases h6 : k = 6
    · subst h6; exact br_6 lb imp l d bd a cap H w hL hs hH
    by_cases h7 : k = 7
    · subst h7; exact br_7 lb imp l d bd a cap H w hL hs hH
    by_cases h8 : k = 8
    · subst h8; exact br_8 lb imp l d bd a cap H w hL hs hH
    exact br_oth lb imp k l d bd a cap w h12 h10 h2 h9 h3 h4 h5 h6 h7 h8
theorem brL_all (n : Nat) : ∀ y, rkL y < n → BrL y := by
  induction n with
  | zero => exact fun l h => absurd h (Nat.not_lt_zero _)
  | succ n ih =>
    intro y h
    refine brL_of y fun x hx => ?_
    obtain ⟨i, hi⟩ := List.mem_iff_getElem?.1 hx
    have := rkL_at hi
    exact brF_of n ih (rk x + 1) x (by omega) (by omega)
theorem brL_any (y : List Fl) : BrL y := brL_all (rkL y + 1) y (by omega)
end Go.Proofs.YtpodifbgfcclbaaGreatDoor
