/- Labels and jumps: what the code reckons, in plain Lean. -/
import Derived.Test.YtpodifbgfcclbaaGreatDoorPure1
set_option linter.unusedSimpArgs false
set_option linter.unusedVariables false
namespace Go.Proofs.YtpodifbgfcclbaaGreatDoor

/-- What is known at a place of a block: the labels declared so far, each with whether it is used; how much is reported; the block's own labels; the gotos ahead, each with whether a variable is declared behind it. -/
structure JS where
  ds : List (Int × Bool)
  rep : Nat
  labs : List Int
  fwd : List (Int × Bool)

def useL (n : Int) (ds : List (Int × Bool)) : List (Int × Bool) := ds.map fun e => if e.1 = n then (e.1, true) else e
def kindI : List (List Fl) → Int
  | (x :: _) :: _ => x.kind
  | _ => 20
/-- A label is declared. -/
def declL (l : Int) (s : JS) : JS :=
  { ds := if (s.ds.map Prod.fst).contains l then s.ds else s.ds ++ [(l, s.fwd.any fun f => f.1 == l)],
    rep := s.rep + (if (s.ds.map Prod.fst).contains l then 1 else 0) + (s.fwd.filter fun f => f.1 == l && f.2).length,
    labs := if (s.ds.map Prod.fst).contains l then s.labs else s.labs ++ [l],
    fwd := s.fwd.filter fun f => !(f.1 == l) }
def breakK (k : Int) : Bool := decide (3 ≤ k) && decide (k ≤ 8)
def contK (k : Int) : Bool := decide (3 ≤ k) && decide (k ≤ 5)
/-- A break or a continue with a label. -/
def leaveL (ok : Int → Bool) (tg : List (Int × Int)) (l : Int) (s : JS) : JS :=
  match tg.find? fun t => t.1 == l with
  | some t => if ok t.2 then { s with ds := useL l s.ds } else { s with rep := s.rep + 1 }
  | none => { s with rep := s.rep + 1 }
def gotoL (gl : List Int) (l : Int) (s : JS) : JS :=
  if (s.labs ++ gl).contains l then { s with ds := useL l s.ds } else { s with fwd := s.fwd ++ [(l, false)] }
def varL (s : JS) : JS := { s with fwd := s.fwd.map fun f => (f.1, true) }
/-- Behind a block: r is what is known at its end. -/
def outL (s r : JS) : JS := { s with ds := r.ds, rep := r.rep, fwd := s.fwd ++ r.fwd.map fun f => (f.1, false) }
def inL (s : JS) : JS := { ds := s.ds, rep := s.rep, labs := [], fwd := [] }

mutual
def jS (gl : List Int) (tg : List (Int × Int)) : Fl → Option (Int × Int) → JS → JS
  | .mk k l d b, cur, s =>
    if k = 2 then jB gl tg b cur s
    else if k = 3 then jB gl tg b cur s
    else if k = 4 then jB gl tg b cur s
    else if k = 5 then jB gl tg b cur s
    else if k = 6 then outL s (jB (s.labs ++ gl) (cur.toList ++ tg) b none (inL s))
    else if k = 7 then outL s (jB (s.labs ++ gl) (cur.toList ++ tg) b none (inL s))
    else if k = 8 then outL s (jB (s.labs ++ gl) (cur.toList ++ tg) b none (inL s))
    else if k = 9 then jB gl tg b cur s
    else if k = 10 then (if l = -1 then jI gl tg b cur s else jI gl tg b (some (l, kindI b)) (declL l s))
    else if k = 11 then gotoL gl l s
    else if k = 12 then (if l = 0 then s else leaveL breakK tg l s)
    else if k = 13 then (if l = 0 then s else leaveL contK tg l s)
    else if k = 15 then varL s
    else if k = 16 then varL s
    else s
/-- The statement behind a label. -/
def jI (gl : List Int) (tg : List (Int × Int)) : List (List Fl) → Option (Int × Int) → JS → JS
  | (x :: _) :: _, cur, s => jS gl tg x cur s
  | [], cur, s => s
  | [] :: _, cur, s => s
/-- Lists, each a block of its own. -/
def jB (gl : List Int) (tg : List (Int × Int)) : List (List Fl) → Option (Int × Int) → JS → JS
  | [], cur, s => s
  | y :: ys, cur, s => jB gl tg ys cur (outL s (jL (s.labs ++ gl) (cur.toList ++ tg) y (inL s)))
/-- The statements of a block. -/
def jL (gl : List Int) (tg : List (Int × Int)) : List Fl → JS → JS
  | [], s => s
  | x :: xs, s => jL gl tg xs (jS gl tg x none s)
end
def j0 : JS := ⟨[], 0, [], []⟩
/-- How much is reported. -/
def jumpsR (l : List Fl) : Nat := (jL [] [] l j0).rep + (jL [] [] l j0).fwd.length + ((jL [] [] l j0).ds.filter fun e => !e.2 && !((jL [] [] l j0).fwd.any fun f => f.1 == e.1)).length
def jumpsJ (l : List Fl) : Bool := jumpsR l == 0
theorem jL_nil (gl : List Int) (tg : List (Int × Int)) (s : JS) : jL gl tg [] s = s := by rw [jL]
theorem jL_cons (gl : List Int) (tg : List (Int × Int)) (x : Fl) (xs : List Fl) (s : JS) : jL gl tg (x :: xs) s = jL gl tg xs (jS gl tg x none s) := by rw [jL]
theorem jL_append (gl : List Int) (tg : List (Int × Int)) (y : List Fl) : ∀ (x : List Fl) (s : JS), jL gl tg (x ++ y) s = jL gl tg y (jL gl tg x s)
  | [], s => by rw [jL_nil]; rfl
  | a :: x, s => by rw [List.cons_append, jL_cons, jL_cons, jL_append gl tg y x]
theorem jB_nil (gl : List Int) (tg : List (Int × Int)) (cur : Option (Int × Int)) (s : JS) : jB gl tg [] cur s = s := by rw [jB]
theorem jB_cons (gl : List Int) (tg : List (Int × Int)) (y : List Fl) (ys : List (List Fl)) (cur : Option (Int × Int)) (s : JS) : jB gl tg (y :: ys) cur s = jB gl tg ys cur (outL s (jL (s.labs ++ gl) (cur.toList ++ tg) y (inL s))) := by rw [jB]

/-! How much there is. -/
mutual
def ct : Fl → Nat
  | .mk _ _ _ b => ctB b + 1
def ctL : List Fl → Nat
  | [] => 0
  | x :: xs => ct x + ctL xs
def ctB : List (List Fl) → Nat
  | [] => 0
  | y :: ys => ctL y + ctB ys
end
def JS.m (s : JS) : Nat := s.rep + s.fwd.length
theorem declL_m (l : Int) (s : JS) : (declL l s).m ≤ s.m + 1 := by
  have h : ∀ f : List (Int × Bool), (f.filter fun f => f.1 == l && f.2).length + (f.filter fun f => !(f.1 == l)).length ≤ f.length := by
    intro f
    induction f with
    | nil => simp
    | cons a f ih =>
      simp only [List.filter_cons, List.length_cons]
      by_cases h1 : a.1 == l <;> by_cases h2 : a.2 <;> simp [h1, h2] <;> omega
  have := h s.fwd
  simp only [declL, JS.m]
  split <;> omega
theorem leaveL_m (ok : Int → Bool) (tg : List (Int × Int)) (l : Int) (s : JS) : (leaveL ok tg l s).m ≤ s.m + 1 := by
  unfold leaveL JS.m
  split
  · split <;> simp <;> omega
  · simp; omega
theorem gotoL_m (gl : List Int) (l : Int) (s : JS) : (gotoL gl l s).m ≤ s.m + 1 := by
  unfold gotoL JS.m
  split <;> simp <;> omega
theorem outL_m (s r : JS) (n : Nat) (h : r.m ≤ (inL s).m + n) : (outL s r).m ≤ s.m + n := by
  simp only [outL, inL, JS.m, List.length_append, List.length_map, List.length_nil] at h ⊢
  omega
mutual
theorem jS_m (gl : List Int) (tg : List (Int × Int)) : ∀ (x : Fl) (cur : Option (Int × Int)) (s : JS), (jS gl tg x cur s).m ≤ s.m + ct x
  | .mk k l d b, cur, s => by
    have hB := fun gl tg cur s => jB_m gl tg b cur s
    have hI := fun cur s => jI_m gl tg b cur s
    rw [jS, ct]
    by_cases h2 : k = 2
    · rw [if_pos h2]; have := hB gl tg cur s; omega
    rw [if_neg h2]
    by_cases h3 : k = 3
    · rw [if_pos h3]; have := hB gl tg cur s; omega
    rw [if_neg h3]
    by_cases h4 : k = 4
    · rw [if_pos h4]; have := hB gl tg cur s; omega
    rw [if_neg h4]
    by_cases h5 : k = 5
    · rw [if_pos h5]; have := hB gl tg cur s; omega
    rw [if_neg h5]
    by_cases h6 : k = 6
    · rw [if_pos h6]; have := outL_m s _ _ (hB (s.labs ++ gl) (cur.toList ++ tg) none (inL s)); omega
    rw [if_neg h6]
    by_cases h7 : k = 7
    · rw [if_pos h7]; have := outL_m s _ _ (hB (s.labs ++ gl) (cur.toList ++ tg) none (inL s)); omega
    rw [if_neg h7]
    by_cases h8 : k = 8
    · rw [if_pos h8]; have := outL_m s _ _ (hB (s.labs ++ gl) (cur.toList ++ tg) none (inL s)); omega
    rw [if_neg h8]
    by_cases h9 : k = 9
    · rw [if_pos h9]; have := hB gl tg cur s; omega
    rw [if_neg h9]
    by_cases h10 : k = 10
    · rw [if_pos h10]
      split
      · have := hI cur s; omega
      · have := hI (some (l, kindI b)) (declL l s); have := declL_m l s; omega
    rw [if_neg h10]
    by_cases h11 : k = 11
    · rw [if_pos h11]; have := gotoL_m gl l s; omega
    rw [if_neg h11]
    by_cases h12 : k = 12
    · rw [if_pos h12]; split
      · omega
      · have := leaveL_m breakK tg l s; omega
    rw [if_neg h12]
    by_cases h13 : k = 13
    · rw [if_pos h13]; split
      · omega
      · have := leaveL_m contK tg l s; omega
    rw [if_neg h13]
    have hv : (varL s).m = s.m := by simp [varL, JS.m]
    by_cases h15 : k = 15
    · rw [if_pos h15]; omega
    rw [if_neg h15]
    by_cases h16 : k = 16
    · rw [if_pos h16]; omega
    rw [if_neg h16]
    omega
theorem jI_m (gl : List Int) (tg : List (Int × Int)) : ∀ (b : List (List Fl)) (cur : Option (Int × Int)) (s : JS), (jI gl tg b cur s).m ≤ s.m + ctB b
  | (x :: xs) :: ys, cur, s => by
    have := jS_m gl tg x cur s
    rw [jI, ctB, ctL]; omega
  | [], cur, s => by rw [jI]; omega
  | [] :: _, cur, s => by rw [jI]; omega
theorem jB_m (gl : List Int) (tg : List (Int × Int)) : ∀ (b : List (List Fl)) (cur : Option (Int × Int)) (s : JS), (jB gl tg b cur s).m ≤ s.m + ctB b
  | [], cur, s => by rw [jB]; omega
  | y :: ys, cur, s => by
    rw [jB, ctB]
    have h1 := outL_m s _ _ (jL_m (s.labs ++ gl) (cur.toList ++ tg) y (inL s))
    have h2 := jB_m gl tg ys cur (outL s (jL (s.labs ++ gl) (cur.toList ++ tg) y (inL s)))
    omega
theorem jL_m (gl : List Int) (tg : List (Int × Int)) : ∀ (y : List Fl) (s : JS), (jL gl tg y s).m ≤ s.m + ctL y
  | [], s => by rw [jL]; omega
  | x :: xs, s => by
    rw [jL, ctL]
    have h1 := jS_m gl tg x none s
    have h2 := jL_m gl tg xs (jS gl tg x none s)
    omega
end
end Go.Proofs.YtpodifbgfcclbaaGreatDoor

/- Laws of labels and jumps, in plain Lean: a label that does not occur in some statements runs beside them. -/
set_option linter.unusedVariables false
namespace Go.Proofs.YtpodifbgfcclbaaGreatDoor

mutual
/-- Does a label occur? -/
def hasF (n : Int) : Fl → Bool
  | .mk _ l _ b => l == n || hasB n b
def hasL (n : Int) : List Fl → Bool
  | [] => false
  | x :: xs => hasF n x || hasL n xs
def hasB (n : Int) : List (List Fl) → Bool
  | [] => false
  | y :: ys => hasL n y || hasB n ys
end
mutual
/-- Does a statement declare a variable of its block? -/
def decF : Fl → Bool
  | .mk k _ _ b => if k = 10 then decI b else k == 15 || k == 16
def decI : List (List Fl) → Bool
  | (x :: _) :: _ => decF x
  | [] => false
  | [] :: _ => false
end
/-- Is nothing wrong at the end? -/
def JS.ok (s : JS) : Bool := s.rep == 0 && s.fwd.isEmpty && s.ds.all fun e => e.2
theorem jumpsJ_ok (l : List Fl) : jumpsJ l = (jL [] [] l j0).ok := by
  unfold jumpsJ jumpsR JS.ok
  cases hf : (jL [] [] l j0).fwd with
  | cons a r =>
    simp
  | nil =>
    have : ((jL [] [] l j0).ds.filter fun e => !e.2 && !(([] : List (Int × Bool)).any fun f => f.1 == e.1)).length = 0 ↔ ((jL [] [] l j0).ds.all fun e => e.2) = true := by
      rw [List.length_eq_zero_iff, List.filter_eq_nil_iff, List.all_eq_true]
      simp
    rw [Bool.eq_iff_iff]
    simp only [beq_iff_eq, Bool.and_eq_true, List.isEmpty_nil, List.length_nil, Nat.add_zero, and_true]
    rw [← this]
    constructor
    · intro h
      exact ⟨Nat.eq_zero_of_add_eq_zero_right h, Nat.eq_zero_of_add_eq_zero_left h⟩
    · rintro ⟨h1, h2⟩
      rw [h1, h2]

/-! Without a label. -/
def ne1 (n : Int) (e : Int × Bool) : Bool := !(e.1 == n)
def eq1 (n : Int) (e : Int × Bool) : Bool := e.1 == n
def JS.wo (n : Int) (s : JS) : JS := ⟨s.ds.filter (ne1 n), s.rep, s.labs.filter (fun m => !(m == n)), s.fwd.filter (ne1 n)⟩
def GlE (n : Int) (gl gl' : List Int) : Prop := ∀ m, m ≠ n → gl'.contains m = gl.contains m
def TgE (n : Int) (tg tg' : List (Int × Int)) : Prop := ∀ m, m ≠ n → (tg'.find? fun t => t.1 == m) = tg.find? fun t => t.1 == m
def CuE (n : Int) (cur : Option (Int × Int)) : Prop := ∀ t, cur = some t → t.1 ≠ n
theorem cont_wo {n m : Int} (h : m ≠ n) (l : List Int) : (l.filter (fun m => !(m == n))).contains m = l.contains m := by
  rw [Bool.eq_iff_iff]
  simp only [List.contains_iff_mem, List.mem_filter]
  constructor
  · exact fun h => h.1
  · exact fun h' => ⟨h', by simpa using h⟩
theorem GlE.app {n : Int} {gl gl' : List Int} (h : GlE n gl gl') (l : List Int) : GlE n (l.filter (fun m => !(m == n)) ++ gl) (l ++ gl') := by
  intro m hm
  have := h m hm
  have h2 := cont_wo hm l
  simp only [List.contains_append] at *
  rw [this, h2]
theorem TgE.app {n : Int} {tg tg' : List (Int × Int)} (h : TgE n tg tg') (l : List (Int × Int)) : TgE n (l ++ tg) (l ++ tg') := by
  intro m hm
  rw [List.find?_append, List.find?_append, h m hm]
theorem fst_wo (n : Int) (l : List (Int × Bool)) : (l.filter (ne1 n)).map Prod.fst = (l.map Prod.fst).filter (fun m => !(m == n)) := by
  rw [List.filter_map]; rfl
theorem useL_wo (n m : Int) (l : List (Int × Bool)) : (useL m l).filter (ne1 n) = useL m (l.filter (ne1 n)) := by
  rw [useL, useL, List.filter_map]
  congr 1
  refine List.filter_congr fun e _ => ?_
  simp only [ne1, Function.comp]
  split <;> rfl
theorem filt_and {l : List (Int × Bool)} {n m : Int} (h : m ≠ n) (p : Int × Bool → Bool) : ((l.filter (ne1 n)).filter fun f => f.1 == m && p f) = l.filter fun f => f.1 == m && p f := by
  rw [List.filter_filter]
  refine List.filter_congr fun e _ => ?_
  simp only [ne1]
  by_cases he : e.1 = m
  · have : ¬ e.1 = n := by omega
    simp [this]
  · simp [he]
theorem wo_decl {n m : Int} (h : m ≠ n) (s : JS) : (declL m s).wo n = declL m (s.wo n) := by
  have h1 : ((s.ds.filter (ne1 n)).map Prod.fst).contains m = (s.ds.map Prod.fst).contains m := by rw [fst_wo, cont_wo h]
  have h2 : ((s.fwd.filter (ne1 n)).any fun f => f.1 == m) = s.fwd.any fun f => f.1 == m := by
    rw [List.any_filter]
    congr 1
    funext e
    simp only [ne1]
    by_cases he : e.1 = m
    · have : ¬ e.1 = n := by omega
      simp [this, he]
      omega
    · simp [he]
  have hn : (m == n) = false := by simpa using h
  unfold declL JS.wo
  simp only [h1, h2, filt_and h]
  congr 1
  · split
    · rfl
    · simp [List.filter_append, ne1, hn]
  · split
    · rfl
    · simp [List.filter_append, hn]
  · rw [List.filter_filter, List.filter_filter]
    refine List.filter_congr fun e _ => ?_
    rw [Bool.and_comm]
theorem wo_leave {n m : Int} {ok : Int → Bool} {tg tg' : List (Int × Int)} (ht : TgE n tg tg') (h : m ≠ n) (s : JS) : (leaveL ok tg' m s).wo n = leaveL ok tg m (s.wo n) := by
  unfold leaveL
  rw [ht m h]
  cases tg.find? (fun t => t.1 == m) with
  | none => rfl
  | some t =>
    simp only
    split
    · simp only [JS.wo, useL_wo]
    · rfl
theorem wo_goto {n m : Int} {gl gl' : List Int} (hg : GlE n gl gl') (h : m ≠ n) (s : JS) : (gotoL gl' m s).wo n = gotoL gl m (s.wo n) := by
  have h1 := hg.app s.labs m h
  unfold gotoL
  have e : (s.wo n).labs = s.labs.filter (fun m => !(m == n)) := rfl
  rw [e, h1]
  split
  · simp only [JS.wo, useL_wo]
  · have : (m == n) = false := by simpa using h
    simp [JS.wo, List.filter_append, ne1, this]
theorem wo_var (n : Int) (s : JS) : (varL s).wo n = varL (s.wo n) := by
  simp only [varL, JS.wo, List.filter_map]
  rfl
theorem wo_out (n : Int) (s r : JS) : (outL s r).wo n = outL (s.wo n) (r.wo n) := by
  simp only [outL, JS.wo, List.filter_append, List.filter_map]
  rfl
theorem wo_in (n : Int) (s : JS) : (inL s).wo n = inL (s.wo n) := rfl
mutual
theorem jS_wo {n : Int} : ∀ (x : Fl), hasF n x = false → ∀ (gl gl' : List Int) (tg tg' : List (Int × Int)) (cur : Option (Int × Int)) (s : JS), GlE n gl gl' → TgE n tg tg' → CuE n cur → (jS gl' tg' x cur s).wo n = jS gl tg x cur (s.wo n)
  | .mk k l d b, hx, gl, gl', tg, tg', cur, s, hg, ht, hc => by
    rw [hasF] at hx
    simp only [Bool.or_eq_false_iff] at hx
    obtain ⟨hl, hb⟩ := hx
    have hl' : l ≠ n := by simpa using hl
    have hB := fun gl gl' tg tg' cur s => jB_wo b hb gl gl' tg tg' cur s
    have hI := fun gl gl' tg tg' cur s => jI_wo b hb gl gl' tg tg' cur s
    have hsw : (outL s (jB (s.labs ++ gl') (cur.toList ++ tg') b none (inL s))).wo n = outL (s.wo n) (jB ((s.wo n).labs ++ gl) (cur.toList ++ tg) b none (inL (s.wo n))) := by
      rw [wo_out, hB _ _ _ _ none (inL s) (hg.app s.labs) (ht.app cur.toList) (fun t h => by cases h), wo_in]
      rfl
    rw [jS, jS]
    by_cases h2 : k = 2
    · rw [if_pos h2, if_pos h2]; exact hB _ _ _ _ cur s hg ht hc
    rw [if_neg h2, if_neg h2]
    by_cases h3 : k = 3
    · rw [if_pos h3, if_pos h3]; exact hB _ _ _ _ cur s hg ht hc
    rw [if_neg h3, if_neg h3]
    by_cases h4 : k = 4
    · rw [if_pos h4, if_pos h4]; exact hB _ _ _ _ cur s hg ht hc
    rw [if_neg h4, if_neg h4]
    by_cases h5 : k = 5
    · rw [if_pos h5, if_pos h5]; exact hB _ _ _ _ cur s hg ht hc
    rw [if_neg h5, if_neg h5]
    by_cases h6 : k = 6
    · rw [if_pos h6, if_pos h6]; exact hsw
    rw [if_neg h6, if_neg h6]
    by_cases h7 : k = 7
    · rw [if_pos h7, if_pos h7]; exact hsw
    rw [if_neg h7, if_neg h7]
    by_cases h8 : k = 8
    · rw [if_pos h8, if_pos h8]; exact hsw
    rw [if_neg h8, if_neg h8]
    by_cases h9 : k = 9
    · rw [if_pos h9, if_pos h9]; exact hB _ _ _ _ cur s hg ht hc
    rw [if_neg h9, if_neg h9]
    by_cases h10 : k = 10
    · rw [if_pos h10, if_pos h10]
      by_cases hm : l = -1
      · rw [if_pos hm, if_pos hm]; exact hI _ _ _ _ cur s hg ht hc
      · rw [if_neg hm, if_neg hm, hI _ _ _ _ (some (l, kindI b)) (declL l s) hg ht (fun t h => by cases h; exact hl'), wo_decl hl']
    rw [if_neg h10, if_neg h10]
    by_cases h11 : k = 11
    · rw [if_pos h11, if_pos h11]; exact wo_goto hg hl' s
    rw [if_neg h11, if_neg h11]
    by_cases h12 : k = 12
    · rw [if_pos h12, if_pos h12]
      by_cases hm : l = 0
      · rw [if_pos hm, if_pos hm]
      · rw [if_neg hm, if_neg hm]; exact wo_leave ht hl' s
    rw [if_neg h12, if_neg h12]
    by_cases h13 : k = 13
    · rw [if_pos h13, if_pos h13]
      by_cases hm : l = 0
      · rw [if_pos hm, if_pos hm]
      · rw [if_neg hm, if_neg hm]; exact wo_leave ht hl' s
    rw [if_neg h13, if_neg h13]
    by_cases h15 : k = 15
    · rw [if_pos h15, if_pos h15]; exact wo_var n s
    rw [if_neg h15, if_neg h15]
    by_cases h16 : k = 16
    · rw [if_pos h16, if_pos h16]; exact wo_var n s
    rw [if_neg h16, if_neg h16]
theorem jI_wo {n : Int} : ∀ (b : List (List Fl)), hasB n b = false → ∀ (gl gl' : List Int) (tg tg' : List (Int × Int)) (cur : Option (Int × Int)) (s : JS), GlE n gl gl' → TgE n tg tg' → CuE n cur → (jI gl' tg' b cur s).wo n = jI gl tg b cur (s.wo n)
  | (x :: xs) :: ys, hb, gl, gl', tg, tg', cur, s, hg, ht, hc => by
    rw [hasB, hasL] at hb
    simp only [Bool.or_eq_false_iff] at hb
    rw [jI, jI]
    exact jS_wo x hb.1.1 _ _ _ _ cur s hg ht hc
  | [], hb, gl, gl', tg, tg', cur, s, hg, ht, hc => by rw [jI, jI]
  | [] :: _, hb, gl, gl', tg, tg', cur, s, hg, ht, hc => by rw [jI, jI]
theorem jB_wo {n : Int} : ∀ (b : List (List Fl)), hasB n b = false → ∀ (gl gl' : List Int) (tg tg' : List (Int × Int)) (cur : Option (Int × Int)) (s : JS), GlE n gl gl' → TgE n tg tg' → CuE n cur → (jB gl' tg' b cur s).wo n = jB gl tg b cur (s.wo n)
  | [], hb, gl, gl', tg, tg', cur, s, hg, ht, hc => by rw [jB, jB]
  | y :: ys, hb, gl, gl', tg, tg', cur, s, hg, ht, hc => by
    rw [hasB] at hb
    simp only [Bool.or_eq_false_iff] at hb
    rw [jB, jB, jB_wo ys hb.2 _ _ _ _ cur _ hg ht hc, wo_out, jL_wo y hb.1 _ _ _ _ (inL s) (hg.app s.labs) (ht.app cur.toList), wo_in]
    rfl
theorem jL_wo {n : Int} : ∀ (y : List Fl), hasL n y = false → ∀ (gl gl' : List Int) (tg tg' : List (Int × Int)) (s : JS), GlE n gl gl' → TgE n tg tg' → (jL gl' tg' y s).wo n = jL gl tg y (s.wo n)
  | [], hb, gl, gl', tg, tg', s, hg, ht => by rw [jL, jL]
  | x :: xs, hb, gl, gl', tg, tg', s, hg, ht => by
    rw [hasL] at hb
    simp only [Bool.or_eq_false_iff] at hb
    rw [jL, jL, jL_wo xs hb.2 _ _ _ _ _ hg ht, jS_wo x hb.1 _ _ _ _ none s hg ht (fun t h => by cases h)]
end

/-! The label's own part. -/
def dsn (n : Int) (s : JS) : List (Int × Bool) := s.ds.filter (eq1 n)
def fwn (n : Int) (s : JS) : List (Int × Bool) := s.fwd.filter (eq1 n)
def lbn (n : Int) (s : JS) : List Int := s.labs.filter (fun m => m == n)
/-- What a statement without the label does to its part. -/
def Nst (n : Int) (v : Bool) (s r : JS) : Prop := dsn n r = dsn n s ∧ lbn n r = lbn n s ∧ fwn n r = if v then (fwn n s).map fun f => (f.1, true) else fwn n s
theorem Nst.refl (n : Int) (s : JS) : Nst n false s s := ⟨rfl, rfl, rfl⟩
theorem Nst.trans {n : Int} {v v' : Bool} {a b c : JS} (h : Nst n v a b) (h' : Nst n v' b c) : Nst n (v || v') a c := by
  obtain ⟨h1, h2, h3⟩ := h
  obtain ⟨g1, g2, g3⟩ := h'
  refine ⟨g1.trans h1, g2.trans h2, ?_⟩
  rw [g3, h3]
  cases v <;> cases v' <;> simp
theorem useL_eq {n m : Int} (h : m ≠ n) (l : List (Int × Bool)) : (useL m l).filter (eq1 n) = l.filter (eq1 n) := by
  induction l with
  | nil => rfl
  | cons a l ih =>
    have e : useL m (a :: l) = (if a.1 = m then (a.1, true) else a) :: useL m l := rfl
    rw [e, List.filter_cons, List.filter_cons, ih]
    by_cases ha : a.1 = m
    · have : eq1 n (a.1, true) = false := by simp [eq1]; omega
      have h2 : eq1 n a = false := by simp [eq1]; omega
      rw [if_pos ha]
      simp [this, h2]
    · rw [if_neg ha]
theorem nst_decl {n m : Int} (h : m ≠ n) (s : JS) : Nst n false s (declL m s) := by
  have hn : (m == n) = false := by simpa using h
  refine ⟨?_, ?_, ?_⟩
  · unfold dsn declL
    simp only
    split
    · rfl
    · simp [List.filter_append, eq1, hn]
  · unfold lbn declL
    simp only
    split
    · rfl
    · simp [List.filter_append, hn]
  · unfold fwn declL
    simp only [List.filter_filter]
    refine List.filter_congr fun e _ => ?_
    simp only [eq1]
    by_cases he : e.1 = n
    · have : ¬ e.1 = m := by omega
      simp [he]; omega
    · simp [he]
theorem nst_leave {n m : Int} {ok : Int → Bool} {tg : List (Int × Int)} (h : m ≠ n) (s : JS) : Nst n false s (leaveL ok tg m s) := by
  unfold leaveL
  split
  · split
    · exact ⟨useL_eq h _, rfl, rfl⟩
    · exact ⟨rfl, rfl, rfl⟩
  · exact ⟨rfl, rfl, rfl⟩
theorem nst_goto {n m : Int} {gl : List Int} (h : m ≠ n) (s : JS) : Nst n false s (gotoL gl m s) := by
  have hn : (m == n) = false := by simpa using h
  unfold gotoL
  split
  · exact ⟨useL_eq h _, rfl, rfl⟩
  · refine ⟨rfl, rfl, ?_⟩
    simp [fwn, List.filter_append, eq1, hn]
theorem nst_var (n : Int) (s : JS) : Nst n true s (varL s) := by
  refine ⟨rfl, rfl, ?_⟩
  simp only [fwn, varL, List.filter_map]
  rfl
theorem nst_out {n : Int} {v : Bool} {s r : JS} (h : Nst n v (inL s) r) : Nst n false s (outL s r) := by
  obtain ⟨h1, h2, h3⟩ := h
  refine ⟨h1, rfl, ?_⟩
  have h4 : fwn n r = [] := by
    rw [h3]
    cases v <;> rfl
  have h5 : (r.fwd.map fun f => (f.1, false)).filter (eq1 n) = (r.fwd.filter (eq1 n)).map fun f => (f.1, false) := by
    rw [List.filter_map]; rfl
  show (s.fwd ++ r.fwd.map fun f => (f.1, false)).filter (eq1 n) = s.fwd.filter (eq1 n)
  rw [List.filter_append, h5]
  have h6 : r.fwd.filter (eq1 n) = [] := h4
  rw [h6]
  simp
mutual
theorem jS_nst {n : Int} : ∀ (x : Fl), hasF n x = false → ∀ (gl : List Int) (tg : List (Int × Int)) (cur : Option (Int × Int)) (s : JS), Nst n (decF x) s (jS gl tg x cur s)
  | .mk k l d b, hx, gl, tg, cur, s => by
    rw [hasF] at hx
    simp only [Bool.or_eq_false_iff] at hx
    obtain ⟨hl, hb⟩ := hx
    have hl' : l ≠ n := by simpa using hl
    have hB := fun gl tg cur s => jB_nst b hb gl tg cur s
    have hI := fun gl tg cur s => jI_nst b hb gl tg cur s
    have hsw := fun gl tg => nst_out (hB gl tg none (inL s))
    have dn : ∀ j : Int, k = j → j ≠ 10 → j ≠ 15 → j ≠ 16 → decF (.mk k l d b) = false := by
      intro j e h1 h2 h3
      subst e
      rw [decF, if_neg h1]
      simp [h2, h3]
    rw [jS]
    by_cases h2 : k = 2
    · rw [if_pos h2, dn 2 h2 (by decide) (by decide) (by decide)]; exact hB _ _ _ _
    rw [if_neg h2]
    by_cases h3 : k = 3
    · rw [if_pos h3, dn 3 h3 (by decide) (by decide) (by decide)]; exact hB _ _ _ _
    rw [if_neg h3]
    by_cases h4 : k = 4
    · rw [if_pos h4, dn 4 h4 (by decide) (by decide) (by decide)]; exact hB _ _ _ _
    rw [if_neg h4]
    by_cases h5 : k = 5
    · rw [if_pos h5, dn 5 h5 (by decide) (by decide) (by decide)]; exact hB _ _ _ _
    rw [if_neg h5]
    by_cases h6 : k = 6
    · rw [if_pos h6, dn 6 h6 (by decide) (by decide) (by decide)]; exact hsw _ _
    rw [if_neg h6]
    by_cases h7 : k = 7
    · rw [if_pos h7, dn 7 h7 (by decide) (by decide) (by decide)]; exact hsw _ _
    rw [if_neg h7]
    by_cases h8 : k = 8
    · rw [if_pos h8, dn 8 h8 (by decide) (by decide) (by decide)]; exact hsw _ _
    rw [if_neg h8]
    by_cases h9 : k = 9
    · rw [if_pos h9, dn 9 h9 (by decide) (by decide) (by decide)]; exact hB _ _ _ _
    rw [if_neg h9]
    by_cases h10 : k = 10
    · rw [if_pos h10, decF, if_pos h10]
      by_cases hm : l = -1
      · rw [if_pos hm]; exact hI _ _ _ _
      · rw [if_neg hm]
        have := (nst_decl hl' s).trans (hI gl tg (some (l, kindI b)) (declL l s))
        simpa using this
    rw [if_neg h10]
    by_cases h11 : k = 11
    · rw [if_pos h11, dn 11 h11 (by decide) (by decide) (by decide)]; exact nst_goto hl' s
    rw [if_neg h11]
    by_cases h12 : k = 12
    · rw [if_pos h12, dn 12 h12 (by decide) (by decide) (by decide)]
      by_cases hm : l = 0
      · rw [if_pos hm]; exact Nst.refl _ _
      · rw [if_neg hm]; exact nst_leave hl' s
    rw [if_neg h12]
    by_cases h13 : k = 13
    · rw [if_pos h13, dn 13 h13 (by decide) (by decide) (by decide)]
      by_cases hm : l = 0
      · rw [if_pos hm]; exact Nst.refl _ _
      · rw [if_neg hm]; exact nst_leave hl' s
    rw [if_neg h13, decF, if_neg h10]
    by_cases h15 : k = 15
    · rw [if_pos h15]
      have e : (k == 15 || k == 16) = true := by simp [h15]
      rw [e]; exact nst_var n s
    rw [if_neg h15]
    by_cases h16 : k = 16
    · rw [if_pos h16]
      have e : (k == 15 || k == 16) = true := by simp [h16]
      rw [e]; exact nst_var n s
    rw [if_neg h16]
    have e : (k == 15 || k == 16) = false := by simp [h15, h16]
    rw [e]
    exact Nst.refl _ _
theorem jI_nst {n : Int} : ∀ (b : List (List Fl)), hasB n b = false → ∀ (gl : List Int) (tg : List (Int × Int)) (cur : Option (Int × Int)) (s : JS), Nst n (decI b) s (jI gl tg b cur s)
  | (x :: xs) :: ys, hb, gl, tg, cur, s => by
    rw [hasB, hasL] at hb
    simp only [Bool.or_eq_false_iff] at hb
    rw [jI, decI]
    exact jS_nst x hb.1.1 _ _ cur s
  | [], hb, gl, tg, cur, s => by rw [jI, decI]; exact Nst.refl _ _
  | [] :: _, hb, gl, tg, cur, s => by rw [jI, decI]; exact Nst.refl _ _
theorem jB_nst {n : Int} : ∀ (b : List (List Fl)), hasB n b = false → ∀ (gl : List Int) (tg : List (Int × Int)) (cur : Option (Int × Int)) (s : JS), Nst n false s (jB gl tg b cur s)
  | [], hb, gl, tg, cur, s => by rw [jB]; exact Nst.refl _ _
  | y :: ys, hb, gl, tg, cur, s => by
    rw [hasB] at hb
    simp only [Bool.or_eq_false_iff] at hb
    rw [jB]
    have h1 := nst_out (jL_nst y hb.1 (s.labs ++ gl) (cur.toList ++ tg) (inL s))
    have h2 := jB_nst ys hb.2 gl tg cur (outL s (jL (s.labs ++ gl) (cur.toList ++ tg) y (inL s)))
    simpa using h1.trans h2
theorem jL_nst {n : Int} : ∀ (y : List Fl), hasL n y = false → ∀ (gl : List Int) (tg : List (Int × Int)) (s : JS), Nst n (y.any decF) s (jL gl tg y s)
  | [], hb, gl, tg, s => by rw [jL]; exact Nst.refl _ _
  | x :: xs, hb, gl, tg, s => by
    rw [hasL] at hb
    simp only [Bool.or_eq_false_iff] at hb
    rw [jL, List.any_cons]
    exact (jS_nst x hb.1 gl tg none s).trans (jL_nst xs hb.2 gl tg (jS gl tg x none s))
end

/-! What only grows. -/
def Gro (s r : JS) : Prop := s.rep ≤ r.rep ∧ (∀ n, n ∈ s.ds.map Prod.fst → n ∈ r.ds.map Prod.fst)
theorem Gro.refl (s : JS) : Gro s s := ⟨Nat.le_refl _, fun _ h => h⟩
theorem Gro.trans {a b c : JS} (h : Gro a b) (h' : Gro b c) : Gro a c := ⟨Nat.le_trans h.1 h'.1, fun n hn => h'.2 n (h.2 n hn)⟩
theorem useL_fst (m : Int) (l : List (Int × Bool)) : (useL m l).map Prod.fst = l.map Prod.fst := by
  rw [useL, List.map_map]
  refine List.map_congr_left fun e _ => ?_
  simp only [Function.comp]
  split <;> rfl
theorem gro_decl (m : Int) (s : JS) : Gro s (declL m s) := by
  refine ⟨?_, fun n hn => ?_⟩
  · show s.rep ≤ s.rep + _ + _; omega
  · unfold declL; simp only; split
    · exact hn
    · simp at hn ⊢; exact .inl hn
theorem gro_use (m : Int) (s : JS) : Gro s { s with ds := useL m s.ds } := ⟨Nat.le_refl _, fun n hn => by show n ∈ (useL m s.ds).map Prod.fst; rw [useL_fst]; exact hn⟩
theorem gro_leave (ok : Int → Bool) (tg : List (Int × Int)) (m : Int) (s : JS) : Gro s (leaveL ok tg m s) := by
  unfold leaveL
  split
  · split
    · exact gro_use m s
    · exact ⟨Nat.le_succ _, fun _ h => h⟩
  · exact ⟨Nat.le_succ _, fun _ h => h⟩
theorem gro_goto (gl : List Int) (m : Int) (s : JS) : Gro s (gotoL gl m s) := by
  unfold gotoL
  split
  · exact gro_use m s
  · exact ⟨Nat.le_refl _, fun _ h => h⟩
theorem gro_out {s r : JS} (h : Gro (inL s) r) : Gro s (outL s r) := h
mutual
theorem jS_gro : ∀ (x : Fl) (gl : List Int) (tg : List (Int × Int)) (cur : Option (Int × Int)) (s : JS), Gro s (jS gl tg x cur s)
  | .mk k l d b, gl, tg, cur, s => by
    have hB := fun gl tg cur s => jB_gro b gl tg cur s
    have hI := fun gl tg cur s => jI_gro b gl tg cur s
    have hsw := fun gl tg => gro_out (hB gl tg none (inL s))
    rw [jS]
    by_cases h2 : k = 2
    · rw [if_pos h2]; exact hB _ _ _ _
    rw [if_neg h2]
    by_cases h3 : k = 3
    · rw [if_pos h3]; exact hB _ _ _ _
    rw [if_neg h3]
    by_cases h4 : k = 4
    · rw [if_pos h4]; exact hB _ _ _ _
    rw [if_neg h4]
    by_cases h5 : k = 5
    · rw [if_pos h5]; exact hB _ _ _ _
    rw [if_neg h5]
    by_cases h6 : k = 6
    · rw [if_pos h6]; exact hsw _ _
    rw [if_neg h6]
    by_cases h7 : k = 7
    · rw [if_pos h7]; exact hsw _ _
    rw [if_neg h7]
    by_cases h8 : k = 8
    · rw [if_pos h8]; exact hsw _ _
    rw [if_neg h8]
    by_cases h9 : k = 9
    · rw [if_pos h9]; exact hB _ _ _ _
    rw [if_neg h9]
    by_cases h10 : k = 10
    · rw [if_pos h10]
      by_cases hm : l = -1
      · rw [if_pos hm]; exact hI _ _ _ _
      · rw [if_neg hm]; exact (gro_decl l s).trans (hI _ _ _ _)
    rw [if_neg h10]
    by_cases h11 : k = 11
    · rw [if_pos h11]; exact gro_goto _ _ _
    rw [if_neg h11]
    by_cases h12 : k = 12
    · rw [if_pos h12]
      by_cases hm : l = 0
      · rw [if_pos hm]; exact Gro.refl _
      · rw [if_neg hm]; exact gro_leave _ _ _ _
    rw [if_neg h12]
    by_cases h13 : k = 13
    · rw [if_pos h13]
      by_cases hm : l = 0
      · rw [if_pos hm]; exact Gro.refl _
      · rw [if_neg hm]; exact gro_leave _ _ _ _
    rw [if_neg h13]
    by_cases h15 : k = 15
    · rw [if_pos h15]; exact ⟨Nat.le_refl _, fun _ h => h⟩
    rw [if_neg h15]
    by_cases h16 : k = 16
    · rw [if_pos h16]; exact ⟨Nat.le_refl _, fun _ h => h⟩
    rw [if_neg h16]
    exact Gro.refl _
theorem jI_gro : ∀ (b : List (List Fl)) (gl : List Int) (tg : List (Int × Int)) (cur : Option (Int × Int)) (s : JS), Gro s (jI gl tg b cur s)
  | (x :: xs) :: ys, gl, tg, cur, s => by rw [jI]; exact jS_gro x _ _ cur s
  | [], gl, tg, cur, s => by rw [jI]; exact Gro.refl _
  | [] :: _, gl, tg, cur, s => by rw [jI]; exact Gro.refl _
theorem jB_gro : ∀ (b : List (List Fl)) (gl : List Int) (tg : List (Int × Int)) (cur : Option (Int × Int)) (s : JS), Gro s (jB gl tg b cur s)
  | [], gl, tg, cur, s => by rw [jB]; exact Gro.refl _
  | y :: ys, gl, tg, cur, s => by
    rw [jB]
    exact (gro_out (jL_gro y (s.labs ++ gl) (cur.toList ++ tg) (inL s))).trans (jB_gro ys gl tg cur _)
theorem jL_gro : ∀ (y : List Fl) (gl : List Int) (tg : List (Int × Int)) (s : JS), Gro s (jL gl tg y s)
  | [], gl, tg, s => by rw [jL]; exact Gro.refl _
  | x :: xs, gl, tg, s => by
    rw [jL]
    exact (jS_gro x gl tg none s).trans (jL_gro xs gl tg _)
end

/-! The statements of the laws. -/
def expF : Fl := .mk 18 0 0 []
def labF (n : Int) (x : Fl) : Fl := .mk 10 n 0 [[x]]
def jmpF (k n : Int) : Fl := .mk k n 0 []
def ofF (k : Int) (b : List (List Fl)) : Fl := .mk k 0 0 b
theorem part_empty (n : Int) : ∀ l : List (Int × Bool), l.isEmpty = ((l.filter (ne1 n)).isEmpty && (l.filter (eq1 n)).isEmpty)
  | [] => rfl
  | a :: l => by
    rw [List.filter_cons, List.filter_cons]
    cases h : a.1 == n <;> simp [ne1, eq1, h]
theorem part_all (n : Int) : ∀ l : List (Int × Bool), (l.all fun e => e.2) = (((l.filter (ne1 n)).all fun e => e.2) && ((l.filter (eq1 n)).all fun e => e.2))
  | [] => rfl
  | a :: l => by
    rw [List.filter_cons, List.filter_cons, List.all_cons, part_all n l]
    cases h : a.1 == n <;> simp [ne1, eq1, h, Bool.and_assoc, Bool.and_comm, Bool.and_left_comm]
theorem ok_split (n : Int) (s : JS) : s.ok = ((s.wo n).ok && (fwn n s).isEmpty && (dsn n s).all fun e => e.2) := by
  unfold JS.ok JS.wo fwn dsn
  rw [part_empty n s.fwd, part_all n s.ds]
  generalize (s.rep == 0) = a
  generalize (s.fwd.filter (ne1 n)).isEmpty = b
  generalize (s.fwd.filter (eq1 n)).isEmpty = c
  generalize ((s.ds.filter (ne1 n)).all fun e => e.2) = d
  generalize ((s.ds.filter (eq1 n)).all fun e => e.2) = e
  cases a <;> cases b <;> cases c <;> cases d <;> cases e <;> rfl
theorem use_wo (n : Int) (s : JS) : ({ s with ds := useL n s.ds } : JS).wo n = s.wo n := by
  unfold JS.wo
  congr 1
  rw [useL_wo]
  show (s.ds.filter (ne1 n)).map _ = _
  conv => rhs; rw [← List.map_id (s.ds.filter (ne1 n))]
  refine List.map_congr_left fun e he => ?_
  have := (List.mem_filter.1 he).2
  have h : ¬ e.1 = n := by simpa [ne1] using this
  rw [if_neg h]; rfl
theorem use_dsn (n : Int) (s : JS) : dsn n { s with ds := useL n s.ds } = (dsn n s).map fun e => (e.1, true) := by
  show (useL n s.ds).filter (eq1 n) = (s.ds.filter (eq1 n)).map _
  rw [useL, List.filter_map]
  have : (s.ds.filter ((eq1 n) ∘ fun e => if e.1 = n then (e.1, true) else e)) = s.ds.filter (eq1 n) := by
    refine List.filter_congr fun e _ => ?_
    simp only [Function.comp, eq1]
    split <;> rfl
  rw [this]
  refine List.map_congr_left fun e he => ?_
  have := (List.mem_filter.1 he).2
  have h : e.1 = n := by simpa [eq1] using this
  rw [if_pos h]
theorem ok_out {s r : JS} (h : s.fwd = []) : (outL s r).ok = r.ok := by
  unfold JS.ok outL
  rw [h]
  cases r.fwd <;> rfl
theorem not_ok_rep {s : JS} (h : 0 < s.rep) : s.ok = false := by
  have : (s.rep == 0) = false := by simp; omega
  unfold JS.ok
  rw [this]; rfl
theorem not_ok_fwd {s : JS} (h : s.fwd ≠ []) : s.ok = false := by
  unfold JS.ok
  cases hf : s.fwd with
  | nil => exact absurd hf h
  | cons a r => simp
theorem glE_nil (n : Int) : GlE n [] [n] := fun m hm => by simp; omega
theorem tgE_nil (n k : Int) : TgE n [] [(n, k)] := fun m hm => by simp; omega
theorem jS_exp (gl : List Int) (tg : List (Int × Int)) (cur : Option (Int × Int)) (s : JS) : jS gl tg expF cur s = s := by rw [expF, jS]; rfl
theorem jS_lab (gl : List Int) (tg : List (Int × Int)) (n : Int) (hn : 1 ≤ n) (x : Fl) (cur : Option (Int × Int)) (s : JS) : jS gl tg (labF n x) cur s = jS gl tg x (some (n, x.kind)) (declL n s) := by
  have : ¬ n = -1 := by omega
  rw [labF, jS]
  simp only [this, if_false, jI, kindI]
  rfl
theorem jS_go (gl : List Int) (tg : List (Int × Int)) (n : Int) (cur : Option (Int × Int)) (s : JS) : jS gl tg (jmpF 11 n) cur s = gotoL gl n s := by rw [jmpF, jS]; rfl
theorem jS_brk (gl : List Int) (tg : List (Int × Int)) (n : Int) (hn : 1 ≤ n) (cur : Option (Int × Int)) (s : JS) : jS gl tg (jmpF 12 n) cur s = leaveL breakK tg n s := by
  have : ¬ n = 0 := by omega
  rw [jmpF, jS]
  simp only [this, if_false]
  rfl
theorem jS_cnt (gl : List Int) (tg : List (Int × Int)) (n : Int) (hn : 1 ≤ n) (cur : Option (Int × Int)) (s : JS) : jS gl tg (jmpF 13 n) cur s = leaveL contK tg n s := by
  have : ¬ n = 0 := by omega
  rw [jmpF, jS]
  simp only [this, if_false]
  rfl
/-- A literal does not matter. -/
theorem law_lit (l1 l2 : List Fl) (b : List (List Fl)) : jumpsJ (l1 ++ ofF 19 b :: l2) = jumpsJ (l1 ++ l2) := by
  rw [jumpsJ_ok, jumpsJ_ok, jL_append, jL_append, jL_cons]
  have e : jS [] [] (ofF 19 b) none (jL [] [] l1 j0) = jL [] [] l1 j0 := by
    rw [ofF, jS]
    simp
  rw [e]
theorem law_block (l : List Fl) : jumpsJ [ofF 9 [l]] = jumpsJ l := by
  rw [jumpsJ_ok, jumpsJ_ok, jL_cons, jL_nil, ofF, jS]
  simp only [jB_cons, jB_nil]
  exact ok_out rfl
theorem hasL_append (n : Int) (b : List Fl) : ∀ a : List Fl, hasL n (a ++ b) = (hasL n a || hasL n b)
  | [] => rfl
  | x :: a => by rw [List.cons_append, hasL, hasL, hasL_append n b a, Bool.or_assoc]
/-- From the start, past statements without the label: its own part is empty. -/
theorem from_j0 {n : Int} {l : List Fl} (h : hasL n l = false) : (jL [] [] l j0).wo n = jL [] [] l j0 ∧ dsn n (jL [] [] l j0) = [] ∧ fwn n (jL [] [] l j0) = [] ∧ lbn n (jL [] [] l j0) = [] := by
  have h1 := jL_wo l h [] [] [] [] j0 (fun _ _ => rfl) (fun _ _ => rfl)
  obtain ⟨h2, h3, h4⟩ := jL_nst l h [] [] j0
  refine ⟨h1, h2, ?_, h3⟩
  rw [h4]
  split <;> rfl
theorem law_unused (n : Int) (hn : 1 ≤ n) (l1 l2 : List Fl) (h : hasL n (l1 ++ l2) = false) :
    jumpsJ (l1 ++ labF n expF :: l2) = false ∧ jumpsJ (l1 ++ jmpF 11 n :: l2) = false ∧ jumpsJ (l1 ++ jmpF 12 n :: l2) = false ∧ jumpsJ (l1 ++ jmpF 13 n :: l2) = false := by
  rw [hasL_append] at h
  simp only [Bool.or_eq_false_iff] at h
  obtain ⟨h1, h2⟩ := h
  obtain ⟨e1, e2, e3, e4⟩ := from_j0 h1
  simp only [jumpsJ_ok, jL_append, jL_cons]
  generalize jL [] [] l1 j0 = s at *
  have hcd : (s.ds.map Prod.fst).contains n = false := by
    rw [Bool.eq_false_iff]
    intro hh
    obtain ⟨e, he, hn'⟩ := List.mem_map.1 (List.contains_iff_mem.1 hh)
    have : e ∈ s.ds.filter (eq1 n) := List.mem_filter.2 ⟨he, by simp [eq1, hn']⟩
    rw [show s.ds.filter (eq1 n) = [] from e2] at this
    cases this
  have hlb : s.labs.contains n = false := by
    rw [Bool.eq_false_iff]
    intro hh
    have : n ∈ s.labs.filter (fun m => m == n) := List.mem_filter.2 ⟨List.contains_iff_mem.1 hh, by simp⟩
    rw [show s.labs.filter (fun m => m == n) = [] from e4] at this
    cases this
  have hfa : (s.fwd.any fun f => f.1 == n) = false := by
    rw [Bool.eq_false_iff]
    intro hh
    obtain ⟨e, he, hn'⟩ := List.any_eq_true.1 hh
    have : e ∈ s.fwd.filter (eq1 n) := List.mem_filter.2 ⟨he, by simpa [eq1] using hn'⟩
    rw [show s.fwd.filter (eq1 n) = [] from e3] at this
    cases this
  refine ⟨?_, ?_, ?_, ?_⟩
  · rw [jS_lab _ _ _ hn, jS_exp]
    obtain ⟨q1, q2, q3⟩ := jL_nst l2 h2 [] [] (declL n s)
    rw [ok_split n, q1]
    have : dsn n (declL n s) = [(n, false)] := by
      unfold dsn declL
      simp only [hcd, hfa, Bool.false_eq_true, if_false, List.filter_append]
      rw [show s.ds.filter (eq1 n) = [] from e2]
      simp [eq1]
    rw [this]
    simp
  · rw [jS_go]
    obtain ⟨q1, q2, q3⟩ := jL_nst l2 h2 [] [] (gotoL [] n s)
    refine not_ok_fwd fun hh => ?_
    have hf : fwn n (gotoL [] n s) = [(n, false)] := by
      unfold gotoL fwn
      simp only [List.append_nil, hlb, Bool.false_eq_true, if_false, List.filter_append]
      rw [show s.fwd.filter (eq1 n) = [] from e3]
      simp [eq1]
    rw [hf] at q3
    have : fwn n (jL [] [] l2 (gotoL [] n s)) = [] := by rw [fwn, hh]; rfl
    rw [this] at q3
    split at q3 <;> simp at q3
  · rw [jS_brk _ _ _ hn]
    exact not_ok_rep (Nat.lt_of_lt_of_le (Nat.succ_pos s.rep) (jL_gro l2 [] [] (leaveL breakK [] n s)).1)
  · rw [jS_cnt _ _ _ hn]
    exact not_ok_rep (Nat.lt_of_lt_of_le (Nat.succ_pos s.rep) (jL_gro l2 [] [] (leaveL contK [] n s)).1)
theorem law_twice (n : Int) (hn : 1 ≤ n) (l m : List Fl) (r : List Fl) : jumpsJ (l ++ labF n expF :: (m ++ labF n expF :: r)) = false := by
  simp only [jumpsJ_ok, jL_append, jL_cons, jS_lab _ _ _ hn, jS_exp]
  generalize jL [] [] l j0 = s
  have h1 : n ∈ (declL n s).ds.map Prod.fst := by
    unfold declL
    simp only
    split
    · rename_i h; exact List.contains_iff_mem.1 h
    · simp
  have h2 := (jL_gro m [] [] (declL n s)).2 n h1
  generalize jL [] [] m (declL n s) = t at *
  have h3 : 0 < (declL n t).rep := by
    have := List.contains_iff_mem.2 h2
    unfold declL
    simp only [this, if_true]
    omega
  exact not_ok_rep (Nat.lt_of_lt_of_le h3 (jL_gro r [] [] (declL n t)).1)
theorem decl_j0 (n : Int) : declL n j0 = ⟨[(n, false)], 0, [n], []⟩ := rfl
theorem law_back (n : Int) (hn : 1 ≤ n) (l : List Fl) (h : hasL n l = false) : jumpsJ (labF n expF :: (l ++ [jmpF 11 n])) = jumpsJ l ∧ jumpsJ (labF n expF :: (l ++ [ofF 9 [[jmpF 11 n]]])) = jumpsJ l := by
  simp only [jumpsJ_ok, jL_append, jL_cons, jL_nil, jS_lab _ _ _ hn, jS_exp, decl_j0]
  have e1 := jL_wo l h [] [] [] [] ⟨[(n, false)], 0, [n], []⟩ (fun _ _ => rfl) (fun _ _ => rfl)
  obtain ⟨e2, e3, e4⟩ := jL_nst l h [] [] ⟨[(n, false)], 0, [n], []⟩
  have w0 : JS.wo n ⟨[(n, false)], 0, [n], []⟩ = j0 := by simp [JS.wo, j0, ne1]
  rw [w0] at e1
  have e2' : dsn n (jL [] [] l ⟨[(n, false)], 0, [n], []⟩) = [(n, false)] := e2.trans (by simp [dsn, eq1])
  have e3' : lbn n (jL [] [] l ⟨[(n, false)], 0, [n], []⟩) = [n] := e3.trans (by simp [lbn])
  have e4' : fwn n (jL [] [] l ⟨[(n, false)], 0, [n], []⟩) = [] := e4.trans (by split <;> rfl)
  clear e2 e3 e4
  generalize jL [] [] l ⟨[(n, false)], 0, [n], []⟩ = s at *
  have hlb : s.labs.contains n = true := by
    rw [List.contains_iff_mem]
    have : n ∈ s.labs.filter (fun m => m == n) := by rw [show s.labs.filter (fun m => m == n) = [n] from e3']; simp
    exact (List.mem_filter.1 this).1
  have huse : ({ s with ds := useL n s.ds } : JS).ok = (jL [] [] l j0).ok := by
    rw [ok_split n, use_wo, use_dsn, e1, e2']
    have : fwn n { s with ds := useL n s.ds } = [] := e4'
    rw [this]
    simp
  refine ⟨?_, ?_⟩
  · rw [jS_go, gotoL]
    simp only [List.append_nil, hlb, if_true]
    exact huse
  · have e : jS [] [] (ofF 9 [[jmpF 11 n]]) none s = outL s (gotoL (s.labs ++ []) n (inL s)) := by
      rw [ofF, jS]
      exact (by simp only [jB_cons, jB_nil, jL_cons, jL_nil, jS_go]; rfl)
    have e2 : gotoL (s.labs ++ []) n (inL s) = { inL s with ds := useL n s.ds } := by
      unfold gotoL
      have : ((inL s).labs ++ (s.labs ++ [])).contains n = true := by simpa [inL] using hlb
      rw [this]; rfl
    rw [e, e2, ← huse]
    unfold JS.ok outL inL
    simp
theorem law_fwd (n : Int) (hn : 1 ≤ n) (l : List Fl) (h : hasL n l = false) : jumpsJ (jmpF 11 n :: (l ++ [labF n expF])) = (jumpsJ l && !(l.any decF)) := by
  simp only [jumpsJ_ok, jL_append, jL_cons, jL_nil, jS_lab _ _ _ hn, jS_exp, jS_go]
  have g0 : gotoL [] n j0 = ⟨[], 0, [], [(n, false)]⟩ := rfl
  rw [g0]
  have e1 := jL_wo l h [] [] [] [] ⟨[], 0, [], [(n, false)]⟩ (fun _ _ => rfl) (fun _ _ => rfl)
  obtain ⟨e2, e3, e4⟩ := jL_nst l h [] [] ⟨[], 0, [], [(n, false)]⟩
  have w0 : JS.wo n ⟨[], 0, [], [(n, false)]⟩ = j0 := by simp [JS.wo, j0, ne1]
  rw [w0] at e1
  have e2' : dsn n (jL [] [] l ⟨[], 0, [], [(n, false)]⟩) = [] := e2.trans rfl
  have e4' : fwn n (jL [] [] l ⟨[], 0, [], [(n, false)]⟩) = [(n, l.any decF)] := e4.trans (by
    have : fwn n ⟨[], 0, [], [(n, false)]⟩ = [(n, false)] := by simp [fwn, eq1]
    rw [this]
    cases l.any decF <;> rfl)
  clear e2 e3 e4
  generalize jL [] [] l ⟨[], 0, [], [(n, false)]⟩ = s at *
  have hcd : (s.ds.map Prod.fst).contains n = false := by
    rw [Bool.eq_false_iff]
    intro hh
    obtain ⟨e, he, hn'⟩ := List.mem_map.1 (List.contains_iff_mem.1 hh)
    have : e ∈ s.ds.filter (eq1 n) := List.mem_filter.2 ⟨he, by simp [eq1, hn']⟩
    rw [show s.ds.filter (eq1 n) = [] from e2'] at this
    cases this
  have hfa : (s.fwd.any fun f => f.1 == n) = true := by
    have : (n, l.any decF) ∈ s.fwd.filter (eq1 n) := by rw [show s.fwd.filter (eq1 n) = _ from e4']; simp
    exact List.any_eq_true.2 ⟨_, (List.mem_filter.1 this).1, by simp⟩
  have hcnt : (s.fwd.filter fun f => f.1 == n && f.2).length = if l.any decF then 1 else 0 := by
    have : (s.fwd.filter fun f => f.1 == n && f.2) = (s.fwd.filter (eq1 n)).filter fun f => f.2 := by
      rw [List.filter_filter]
      refine List.filter_congr fun e _ => ?_
      rw [Bool.and_comm]; rfl
    rw [this, show s.fwd.filter (eq1 n) = _ from e4']
    cases l.any decF <;> rfl
  rw [ok_split n]
  have f1 : fwn n (declL n s) = [] := by
    unfold fwn declL
    simp only [List.filter_filter]
    rw [List.filter_eq_nil_iff]
    intro e _
    simp [eq1]
  have f2 : (dsn n (declL n s)).all (fun e => e.2) = true := by
    unfold dsn declL
    simp only [hcd, hfa, Bool.false_eq_true, if_false, List.filter_append]
    rw [show s.ds.filter (eq1 n) = [] from e2']
    simp [eq1]
  have f3 : ((declL n s).wo n).ok = ((s.wo n).ok && !(l.any decF)) := by
    unfold declL JS.wo JS.ok
    simp only [hcd, hfa, Bool.false_eq_true, if_false, hcnt, List.filter_append]
    have q1 : ([(n, true)] : List (Int × Bool)).filter (ne1 n) = [] := by simp [ne1]
    have q2 : (s.fwd.filter fun f => !(f.1 == n)).filter (ne1 n) = s.fwd.filter (ne1 n) := by
      rw [List.filter_filter]
      refine List.filter_congr fun e _ => ?_
      simp [ne1]
    rw [q1, q2, List.append_nil]
    cases l.any decF with
    | false => simp
    | true => simp
  rw [f1, f2, f3, e1]
  simp
theorem jB_labs (gl : List Int) (tg : List (Int × Int)) : ∀ (b : List (List Fl)) (cur : Option (Int × Int)) (s : JS), (jB gl tg b cur s).labs = s.labs ∧ ∃ e, (jB gl tg b cur s).fwd = s.fwd ++ e
  | [], cur, s => by rw [jB_nil]; exact ⟨rfl, [], by simp⟩
  | y :: ys, cur, s => by
    rw [jB_cons]
    obtain ⟨h1, e, h2⟩ := jB_labs gl tg ys cur (outL s (jL (s.labs ++ gl) (cur.toList ++ tg) y (inL s)))
    refine ⟨h1, ?_⟩
    rw [h2]
    simp only [outL, List.append_assoc]
    exact ⟨_, rfl⟩
theorem jS_of {gl : List Int} {tg : List (Int × Int)} {k : Int} (h1 : 2 ≤ k) (h2 : k ≤ 9) (b : List (List Fl)) (cur : Option (Int × Int)) (s : JS) : (jS gl tg (ofF k b) cur s).labs = s.labs ∧ ∃ e, (jS gl tg (ofF k b) cur s).fwd = s.fwd ++ e := by
  have h : k = 2 ∨ k = 3 ∨ k = 4 ∨ k = 5 ∨ k = 6 ∨ k = 7 ∨ k = 8 ∨ k = 9 := by omega
  rw [ofF, jS]
  rcases h with rfl | rfl | rfl | rfl | rfl | rfl | rfl | rfl
  · exact jB_labs gl tg b cur s
  · exact jB_labs gl tg b cur s
  · exact jB_labs gl tg b cur s
  · exact jB_labs gl tg b cur s
  · exact ⟨rfl, _, rfl⟩
  · exact ⟨rfl, _, rfl⟩
  · exact ⟨rfl, _, rfl⟩
  · exact jB_labs gl tg b cur s
theorem law_into (n k : Int) (h1 : 2 ≤ k) (h2 : k ≤ 9) (b : List (List Fl)) : jumpsJ [jmpF 11 n, ofF k b] = false ∧ jumpsJ [ofF k b, jmpF 11 n] = false := by
  simp only [jumpsJ_ok, jL_cons, jL_nil, jS_go]
  refine ⟨not_ok_fwd ?_, not_ok_fwd ?_⟩
  · obtain ⟨_, e, h⟩ := jS_of (gl := []) (tg := []) h1 h2 b none (gotoL [] n j0)
    rw [h]
    show [(n, false)] ++ e ≠ []
    simp
  · obtain ⟨h, _⟩ := jS_of (gl := []) (tg := []) h1 h2 b none j0
    unfold gotoL
    have : (jS [] [] (ofF k b) none j0).labs = [] := h
    rw [this]
    simp
theorem one_of {gl : List Int} {tg : List (Int × Int)} {k : Int} (h1 : 2 ≤ k) (h2 : k ≤ 9) (y : List Fl) (cur : Option (Int × Int)) (s : JS) (hs : s.fwd = []) : (jS gl tg (ofF k [y]) cur s).ok = (jL (s.labs ++ gl) (cur.toList ++ tg) y (inL s)).ok := by
  have h : k = 2 ∨ k = 3 ∨ k = 4 ∨ k = 5 ∨ k = 6 ∨ k = 7 ∨ k = 8 ∨ k = 9 := by omega
  rw [ofF, jS]
  rcases h with rfl | rfl | rfl | rfl | rfl | rfl | rfl | rfl
  · exact (congrArg JS.ok (by simp only [jB_cons, jB_nil]; rfl)).trans (ok_out (r := jL (s.labs ++ gl) (cur.toList ++ tg) y (inL s)) hs)
  · exact (congrArg JS.ok (by simp only [jB_cons, jB_nil]; rfl)).trans (ok_out (r := jL (s.labs ++ gl) (cur.toList ++ tg) y (inL s)) hs)
  · exact (congrArg JS.ok (by simp only [jB_cons, jB_nil]; rfl)).trans (ok_out (r := jL (s.labs ++ gl) (cur.toList ++ tg) y (inL s)) hs)
  · exact (congrArg JS.ok (by simp only [jB_cons, jB_nil]; rfl)).trans (ok_out (r := jL (s.labs ++ gl) (cur.toList ++ tg) y (inL s)) hs)
  · refine (ok_out hs).trans ?_
    simp only [jB_cons, jB_nil]
    exact ok_out rfl
  · refine (ok_out hs).trans ?_
    simp only [jB_cons, jB_nil]
    exact ok_out rfl
  · refine (ok_out hs).trans ?_
    simp only [jB_cons, jB_nil]
    exact ok_out rfl
  · exact (congrArg JS.ok (by simp only [jB_cons, jB_nil]; rfl)).trans (ok_out (r := jL (s.labs ++ gl) (cur.toList ++ tg) y (inL s)) hs)
theorem law_left (n k : Int) (hn : 1 ≤ n) (h1 : 2 ≤ k) (h2 : k ≤ 9) (goes : Bool) (l : List Fl) (h : hasL n l = false) :
    jumpsJ [labF n (ofF k [l ++ [jmpF (if goes then 13 else 12) n]])] = ((if goes then contK k else breakK k) && jumpsJ [ofF k [l]]) := by
  simp only [jumpsJ_ok, jL_cons, jL_nil, jS_lab _ _ _ hn, decl_j0]
  rw [one_of h1 h2 _ _ _ rfl, one_of h1 h2 _ _ _ rfl]
  have hk : (ofF k [l ++ [jmpF (if goes then 13 else 12) n]]).kind = k := rfl
  rw [hk, jL_append, jL_cons, jL_nil]
  have e1 := jL_wo l h [] ([n] ++ []) [] ((some (n, k)).toList ++ []) ⟨[(n, false)], 0, [], []⟩ (glE_nil n) (tgE_nil n k)
  obtain ⟨e2, e3, e4⟩ := jL_nst l h ([n] ++ []) ((some (n, k)).toList ++ []) ⟨[(n, false)], 0, [], []⟩
  have w0 : JS.wo n ⟨[(n, false)], 0, [], []⟩ = j0 := by simp [JS.wo, j0, ne1]
  rw [w0] at e1
  have e2' : dsn n (jL ([n] ++ []) ((some (n, k)).toList ++ []) l ⟨[(n, false)], 0, [], []⟩) = [(n, false)] := e2.trans (by simp [dsn, eq1])
  have e4' : fwn n (jL ([n] ++ []) ((some (n, k)).toList ++ []) l ⟨[(n, false)], 0, [], []⟩) = [] := e4.trans (by split <;> rfl)
  clear e2 e3 e4
  have hin : inL ⟨[(n, false)], 0, [n], []⟩ = ⟨[(n, false)], 0, [], []⟩ := rfl
  have hin2 : jL (j0.labs ++ []) ((none : Option (Int × Int)).toList ++ []) l (inL j0) = jL [] [] l j0 := rfl
  rw [hin, hin2]
  show JS.ok (jS ([n] ++ []) ((some (n, k)).toList ++ []) (jmpF (if goes then 13 else 12) n) none (jL ([n] ++ []) ((some (n, k)).toList ++ []) l ⟨[(n, false)], 0, [], []⟩)) = _
  generalize jL ([n] ++ []) ((some (n, k)).toList ++ []) l ⟨[(n, false)], 0, [], []⟩ = s at *
  have huse : ({ s with ds := useL n s.ds } : JS).ok = (jL [] [] l j0).ok := by
    rw [ok_split n, use_wo, use_dsn, e1, e2']
    have : fwn n { s with ds := useL n s.ds } = [] := e4'
    rw [this]
    simp
  have hlv : ∀ ok : Int → Bool, (leaveL ok ((some (n, k)).toList ++ []) n s).ok = (ok k && (jL [] [] l j0).ok) := by
    intro ok
    unfold leaveL
    simp only [Option.toList_some, List.append_nil, List.find?_cons, beq_self_eq_true]
    cases hk : ok k with
    | true => simp only [if_true]; rw [huse]; simp
    | false =>
      simp only [Bool.false_eq_true, if_false, Bool.false_and]
      exact not_ok_rep (Nat.succ_pos _)
  cases goes with
  | true => simp only [if_true]; rw [jS_cnt _ _ _ hn]; exact hlv _
  | false => simp only [Bool.false_eq_true, if_false]; rw [jS_brk _ _ _ hn]; exact hlv _
end Go.Proofs.YtpodifbgfcclbaaGreatDoor

/- Renamed labels, in plain Lean: what is known is renamed, too. -/
set_option linter.unusedVariables false
namespace Go.Proofs.YtpodifbgfcclbaaGreatDoor

/-- Two labels in each other's place. -/
def sw (a b n : Int) : Int := if n = a then b else if n = b then a else n
mutual
def rnF (a b : Int) : Fl → Fl
  | .mk k l d bd => .mk k (sw a b l) d (rnB a b bd)
def rnL (a b : Int) : List Fl → List Fl
  | [] => []
  | x :: xs => rnF a b x :: rnL a b xs
def rnB (a b : Int) : List (List Fl) → List (List Fl)
  | [] => []
  | y :: ys => rnL a b y :: rnB a b ys
end
theorem sw_inj {a b m n : Int} : (sw a b m = sw a b n) ↔ m = n := by
  unfold sw
  constructor
  · intro h
    split at h <;> split at h <;> (try split at h) <;> (try split at h) <;> omega
  · rintro rfl; rfl
theorem sw_beq (a b m n : Int) : (sw a b m == sw a b n) = (m == n) := by
  rw [Bool.eq_iff_iff]; simp only [beq_iff_eq]; exact sw_inj
theorem sw_low {a b n : Int} (ha : 1 ≤ a) (hb : 1 ≤ b) (hn : n < 1) : sw a b n = n := by
  unfold sw
  rw [if_neg (by omega), if_neg (by omega)]
theorem sw_zero {a b n c : Int} (ha : 1 ≤ a) (hb : 1 ≤ b) (hc : c < 1) : (sw a b n = c) ↔ n = c := by
  have := sw_inj (a := a) (b := b) (m := n) (n := c)
  rwa [sw_low ha hb hc] at this
def r1 (a b : Int) (e : Int × Bool) : Int × Bool := (sw a b e.1, e.2)
def r2 (a b : Int) (e : Int × Int) : Int × Int := (sw a b e.1, e.2)
def JS.rn (a b : Int) (s : JS) : JS := ⟨s.ds.map (r1 a b), s.rep, s.labs.map (sw a b), s.fwd.map (r1 a b)⟩
theorem cont_rn (a b : Int) (l : List Int) (m : Int) : (l.map (sw a b)).contains (sw a b m) = l.contains m := by
  induction l with
  | nil => rfl
  | cons x l ih => simp only [List.map_cons, List.contains_cons, ih, sw_beq]
theorem keys_rn (a b : Int) (l : List (Int × Bool)) : (l.map (r1 a b)).map Prod.fst = (l.map Prod.fst).map (sw a b) := by
  rw [List.map_map, List.map_map]; rfl
theorem useL_rn (a b m : Int) (l : List (Int × Bool)) : useL (sw a b m) (l.map (r1 a b)) = (useL m l).map (r1 a b) := by
  unfold useL
  rw [List.map_map, List.map_map]
  refine List.map_congr_left fun e _ => ?_
  simp only [Function.comp, r1, sw_inj]
  split <;> rfl
theorem kindI_rn (a b : Int) : ∀ bd : List (List Fl), kindI (rnB a b bd) = kindI bd
  | [] => by rw [rnB]
  | [] :: ys => by rw [rnB, rnL]; rfl
  | (.mk k l d bd :: xs) :: ys => by rw [rnB, rnL, rnF]; rfl
theorem decl_rn (a b m : Int) (s : JS) : declL (sw a b m) (s.rn a b) = (declL m s).rn a b := by
  unfold declL JS.rn
  simp only [keys_rn, cont_rn, List.any_map, List.filter_map, Function.comp_def, r1, sw_beq, List.length_map]
  cases h : (s.ds.map Prod.fst).contains m
  · simp [r1]
  · simp [r1]
theorem leave_rn (a b m : Int) (ok : Int → Bool) (tg : List (Int × Int)) (s : JS) : leaveL ok (tg.map (r2 a b)) (sw a b m) (s.rn a b) = (leaveL ok tg m s).rn a b := by
  unfold leaveL
  have : (tg.map (r2 a b)).find? (fun t => t.1 == sw a b m) = (tg.find? fun t => t.1 == m).map (r2 a b) := by
    rw [List.find?_map]
    congr 1
    refine congrArg (fun p => List.find? p tg) ?_
    funext t
    exact sw_beq a b t.1 m
  rw [this]
  cases tg.find? (fun t => t.1 == m) with
  | none => rfl
  | some t =>
    simp only [Option.map_some, r2]
    split
    · simp only [JS.rn, useL_rn]
    · rfl
theorem goto_rn (a b m : Int) (gl : List Int) (s : JS) : gotoL (gl.map (sw a b)) (sw a b m) (s.rn a b) = (gotoL gl m s).rn a b := by
  unfold gotoL
  have : ((s.rn a b).labs ++ gl.map (sw a b)).contains (sw a b m) = (s.labs ++ gl).contains m := by
    rw [← cont_rn a b (s.labs ++ gl) m, List.map_append]; rfl
  rw [this]
  split
  · simp only [JS.rn, useL_rn]
  · simp [JS.rn, r1]
theorem var_rn (a b : Int) (s : JS) : varL (s.rn a b) = (varL s).rn a b := by
  simp only [varL, JS.rn, List.map_map]
  rfl
theorem out_rn (a b : Int) (s r : JS) : outL (s.rn a b) (r.rn a b) = (outL s r).rn a b := by
  simp only [outL, JS.rn, List.map_append, List.map_map]
  rfl
theorem cur_rn (a b : Int) (cur : Option (Int × Int)) (tg : List (Int × Int)) : (cur.map (r2 a b)).toList ++ tg.map (r2 a b) = (cur.toList ++ tg).map (r2 a b) := by
  cases cur <;> rfl
mutual
theorem jS_rn {a b : Int} (ha : 1 ≤ a) (hb : 1 ≤ b) : ∀ (x : Fl) (gl : List Int) (tg : List (Int × Int)) (cur : Option (Int × Int)) (s : JS), jS (gl.map (sw a b)) (tg.map (r2 a b)) (rnF a b x) (cur.map (r2 a b)) (s.rn a b) = (jS gl tg x cur s).rn a b
  | .mk k l d bd, gl, tg, cur, s => by
    have hB := fun gl tg cur s => jB_rn ha hb bd gl tg cur s
    have hI := fun gl tg cur s => jI_rn ha hb bd gl tg cur s
    have hsw : outL (s.rn a b) (jB ((s.rn a b).labs ++ gl.map (sw a b)) ((cur.map (r2 a b)).toList ++ tg.map (r2 a b)) (rnB a b bd) none (inL (s.rn a b))) = (outL s (jB (s.labs ++ gl) (cur.toList ++ tg) bd none (inL s))).rn a b := by
      have h1 : (s.rn a b).labs ++ gl.map (sw a b) = (s.labs ++ gl).map (sw a b) := by rw [List.map_append]; rfl
      have h2 := hB (s.labs ++ gl) (cur.toList ++ tg) none (inL s)
      rw [h1, cur_rn, ← out_rn, ← h2]
      rfl
    rw [rnF, jS, jS]
    simp only [sw_zero ha hb (show (-1 : Int) < 1 by omega), sw_zero ha hb (show (0 : Int) < 1 by omega)]
    by_cases h2 : k = 2
    · rw [if_pos h2, if_pos h2]; exact hB _ _ _ _
    rw [if_neg h2, if_neg h2]
    by_cases h3 : k = 3
    · rw [if_pos h3, if_pos h3]; exact hB _ _ _ _
    rw [if_neg h3, if_neg h3]
    by_cases h4 : k = 4
    · rw [if_pos h4, if_pos h4]; exact hB _ _ _ _
    rw [if_neg h4, if_neg h4]
    by_cases h5 : k = 5
    · rw [if_pos h5, if_pos h5]; exact hB _ _ _ _
    rw [if_neg h5, if_neg h5]
    by_cases h6 : k = 6
    · rw [if_pos h6, if_pos h6]; exact hsw
    rw [if_neg h6, if_neg h6]
    by_cases h7 : k = 7
    · rw [if_pos h7, if_pos h7]; exact hsw
    rw [if_neg h7, if_neg h7]
    by_cases h8 : k = 8
    · rw [if_pos h8, if_pos h8]; exact hsw
    rw [if_neg h8, if_neg h8]
    by_cases h9 : k = 9
    · rw [if_pos h9, if_pos h9]; exact hB _ _ _ _
    rw [if_neg h9, if_neg h9]
    by_cases h10 : k = 10
    · rw [if_pos h10, if_pos h10]
      by_cases hm : l = -1
      · rw [if_pos hm, if_pos hm]; exact hI _ _ _ _
      · rw [if_neg hm, if_neg hm, kindI_rn, decl_rn]; exact hI gl tg (some (l, kindI bd)) (declL l s)
    rw [if_neg h10, if_neg h10]
    by_cases h11 : k = 11
    · rw [if_pos h11, if_pos h11]; exact goto_rn a b l gl s
    rw [if_neg h11, if_neg h11]
    by_cases h12 : k = 12
    · rw [if_pos h12, if_pos h12]
      by_cases hm : l = 0
      · rw [if_pos hm, if_pos hm]
      · rw [if_neg hm, if_neg hm]; exact leave_rn a b l _ tg s
    rw [if_neg h12, if_neg h12]
    by_cases h13 : k = 13
    · rw [if_pos h13, if_pos h13]
      by_cases hm : l = 0
      · rw [if_pos hm, if_pos hm]
      · rw [if_neg hm, if_neg hm]; exact leave_rn a b l _ tg s
    rw [if_neg h13, if_neg h13]
    by_cases h15 : k = 15
    · rw [if_pos h15, if_pos h15]; exact var_rn a b s
    rw [if_neg h15, if_neg h15]
    by_cases h16 : k = 16
    · rw [if_pos h16, if_pos h16]; exact var_rn a b s
    rw [if_neg h16, if_neg h16]
theorem jI_rn {a b : Int} (ha : 1 ≤ a) (hb : 1 ≤ b) : ∀ (bd : List (List Fl)) (gl : List Int) (tg : List (Int × Int)) (cur : Option (Int × Int)) (s : JS), jI (gl.map (sw a b)) (tg.map (r2 a b)) (rnB a b bd) (cur.map (r2 a b)) (s.rn a b) = (jI gl tg bd cur s).rn a b
  | (x :: xs) :: ys, gl, tg, cur, s => by rw [rnB, rnL, jI, jI]; exact jS_rn ha hb x gl tg cur s
  | [], gl, tg, cur, s => by rw [rnB, jI, jI]
  | [] :: _, gl, tg, cur, s => by rw [rnB, rnL, jI, jI]
theorem jB_rn {a b : Int} (ha : 1 ≤ a) (hb : 1 ≤ b) : ∀ (bd : List (List Fl)) (gl : List Int) (tg : List (Int × Int)) (cur : Option (Int × Int)) (s : JS), jB (gl.map (sw a b)) (tg.map (r2 a b)) (rnB a b bd) (cur.map (r2 a b)) (s.rn a b) = (jB gl tg bd cur s).rn a b
  | [], gl, tg, cur, s => by rw [rnB, jB, jB]
  | y :: ys, gl, tg, cur, s => by
    have h1 : (s.rn a b).labs ++ gl.map (sw a b) = (s.labs ++ gl).map (sw a b) := by rw [List.map_append]; rfl
    have h2 := jL_rn ha hb y (s.labs ++ gl) (cur.toList ++ tg) (inL s)
    have h3 : inL (s.rn a b) = (inL s).rn a b := rfl
    rw [rnB, jB, jB, h1, cur_rn, h3, h2, out_rn]
    exact jB_rn ha hb ys gl tg cur _
theorem jL_rn {a b : Int} (ha : 1 ≤ a) (hb : 1 ≤ b) : ∀ (y : List Fl) (gl : List Int) (tg : List (Int × Int)) (s : JS), jL (gl.map (sw a b)) (tg.map (r2 a b)) (rnL a b y) (s.rn a b) = (jL gl tg y s).rn a b
  | [], gl, tg, s => by rw [rnL, jL, jL]
  | x :: xs, gl, tg, s => by
    rw [rnL, jL, jL]
    have := jS_rn ha hb x gl tg none s
    rw [Option.map_none] at this
    rw [this]
    exact jL_rn ha hb xs gl tg _
end
theorem ok_rn (a b : Int) (s : JS) : (s.rn a b).ok = s.ok := by
  unfold JS.ok JS.rn
  simp only [List.isEmpty_map, List.all_map]
  rfl
theorem law_rnJ (a b : Int) (ha : 1 ≤ a) (hb : 1 ≤ b) (l : List Fl) : jumpsJ (rnL a b l) = jumpsJ l := by
  rw [jumpsJ_ok, jumpsJ_ok]
  have := jL_rn ha hb l [] [] j0
  rw [← ok_rn a b (jL [] [] l j0), ← this]
  rfl

/-! Where a list ends. -/
mutual
theorem hbF_rn {a b : Int} (ha : 1 ≤ a) (hb : 1 ≤ b) : ∀ (x : Fl) (lb : Int) (imp : Bool), hbF (rnF a b x) (sw a b lb) imp = hbF x lb imp
  | .mk k l d bd, lb, imp => by
    have hB := fun imp => hbB_rn ha hb bd lb imp
    have hI := fun imp => hbI_rn ha hb bd lb imp
    have hz : (sw a b lb == 0) = (lb == 0) := by
      rw [Bool.eq_iff_iff]; simp only [beq_iff_eq]; exact sw_zero ha hb (by omega)
    rw [rnF, hbF, hbF]
    simp only [sw_zero ha hb (show (0 : Int) < 1 by omega), sw_beq, hB, hI, hz]
theorem hbI_rn {a b : Int} (ha : 1 ≤ a) (hb : 1 ≤ b) : ∀ (bd : List (List Fl)) (lb : Int) (imp : Bool), hbI (rnB a b bd) (sw a b lb) imp = hbI bd lb imp
  | (x :: xs) :: ys, lb, imp => by rw [rnB, rnL, hbI, hbI]; exact hbF_rn ha hb x lb imp
  | [], lb, imp => by rw [rnB]
                      simp only [hbI]
  | [] :: _, lb, imp => by rw [rnB, rnL]
                           simp only [hbI]
theorem hbL_rn {a b : Int} (ha : 1 ≤ a) (hb : 1 ≤ b) : ∀ (y : List Fl) (lb : Int) (imp : Bool), hbL (rnL a b y) (sw a b lb) imp = hbL y lb imp
  | [], lb, imp => by rw [rnL, hbL, hbL]
  | x :: xs, lb, imp => by rw [rnL, hbL, hbL, hbF_rn ha hb x, hbL_rn ha hb xs]
theorem hbB_rn {a b : Int} (ha : 1 ≤ a) (hb : 1 ≤ b) : ∀ (bd : List (List Fl)) (lb : Int) (imp : Bool), hbB (rnB a b bd) (sw a b lb) imp = hbB bd lb imp
  | [], lb, imp => by rw [rnB, hbB, hbB]
  | y :: ys, lb, imp => by rw [rnB, hbB, hbB, hbL_rn ha hb y, hbB_rn ha hb ys]
end
theorem kind_rn (a b : Int) : ∀ x : Fl, (rnF a b x).kind = x.kind
  | .mk _ _ _ _ => by rw [rnF]; rfl
theorem allE_rn (a b : Int) : ∀ l : List Fl, allE (rnL a b l) = allE l
  | [] => by rw [rnL]
  | x :: xs => by
    have := allE_rn a b xs
    unfold allE at *
    rw [rnL, List.all_cons, List.all_cons, this, kind_rn]
theorem len_rnB (a b : Int) : ∀ bd : List (List Fl), (rnB a b bd).length = bd.length
  | [] => by rw [rnB]
  | y :: ys => by rw [rnB, List.length_cons, List.length_cons, len_rnB a b ys]
theorem len_rnL (a b : Int) : ∀ bd : List Fl, (rnL a b bd).length = bd.length
  | [] => by rw [rnL]
  | y :: ys => by rw [rnL, List.length_cons, List.length_cons, len_rnL a b ys]
mutual
theorem teF_rn {a b : Int} (ha : 1 ≤ a) (hb : 1 ≤ b) : ∀ (x : Fl) (lb : Int), teF (rnF a b x) (sw a b lb) = teF x lb
  | .mk k l d bd, lb => by
    have h0 : hbB (rnB a b bd) (sw a b lb) true = hbB bd lb true := hbB_rn ha hb bd lb true
    have h1 := teTwo_rn ha hb bd
    have h2 := teOne_rn ha hb bd
    have h3 := teAll_rn ha hb bd lb
    have h4 := teI_rn ha hb bd l
    rw [rnF, teF, teF]
    simp only [h0, h1, h2, h3, h4, len_rnB]
theorem teI_rn {a b : Int} (ha : 1 ≤ a) (hb : 1 ≤ b) : ∀ (bd : List (List Fl)) (lb : Int), teI (rnB a b bd) (sw a b lb) = teI bd lb
  | (x :: xs) :: ys, lb => by rw [rnB, rnL, teI, teI]; exact teF_rn ha hb x lb
  | [], lb => by rw [rnB]
                 simp only [teI]
  | [] :: _, lb => by rw [rnB, rnL]
                      simp only [teI]
theorem teOne_rn {a b : Int} (ha : 1 ≤ a) (hb : 1 ≤ b) : ∀ (bd : List (List Fl)), teOne (rnB a b bd) = teOne bd
  | [] => by rw [rnB]
  | [y] => by rw [rnB, rnB, teOne, teOne]; exact teL_rn ha hb y
  | y :: z :: ys => by rw [rnB, rnB]
                       simp only [teOne]
theorem teTwo_rn {a b : Int} (ha : 1 ≤ a) (hb : 1 ≤ b) : ∀ (bd : List (List Fl)), teTwo (rnB a b bd) = teTwo bd
  | [] => by rw [rnB]
  | [y] => by rw [rnB, rnB]
              simp only [teTwo]
  | [y, z] => by rw [rnB, rnB, rnB, teTwo, teTwo, teL_rn ha hb y, teL_rn ha hb z]
  | y :: z :: x :: ys => by rw [rnB, rnB, rnB]
                            simp only [teTwo]
theorem teAll_rn {a b : Int} (ha : 1 ≤ a) (hb : 1 ≤ b) : ∀ (bd : List (List Fl)) (lb : Int), teAll (rnB a b bd) (sw a b lb) = teAll bd lb
  | [], lb => by rw [rnB, teAll, teAll]
  | y :: ys, lb => by rw [rnB, teAll, teAll, teL_rn ha hb y, hbL_rn ha hb y, teAll_rn ha hb ys]
theorem teL_rn {a b : Int} (ha : 1 ≤ a) (hb : 1 ≤ b) : ∀ (y : List Fl), teL (rnL a b y) = teL y
  | [] => by rw [rnL]
  | x :: xs => by
    have h1 := teF_rn ha hb x 0
    rw [sw_low ha hb (show (0 : Int) < 1 by omega)] at h1
    rw [rnL, teL, teL, allE_rn, kind_rn, h1, teL_rn ha hb xs]
end

/-! The laws of where a list ends. -/
theorem law_last (x : Fl) (hx : x.kind ≠ 20) (n : Nat) : ∀ l : List Fl, teL (l ++ x :: List.replicate n emptyFl) = teL [x]
  | [] => by
    have : allE (List.replicate n emptyFl) = true := by
      unfold allE
      rw [List.all_eq_true]
      intro y hy
      rw [List.eq_of_mem_replicate hy]; rfl
    rw [List.nil_append, teL, teL, this]
    rfl
  | y :: l => by
    have : allE (l ++ x :: List.replicate n emptyFl) = false := by
      unfold allE
      simp [hx]
    rw [List.cons_append, teL, this]
    exact law_last x hx n l
theorem te_one (x : Fl) (hx : x.kind ≠ 20) : teL [x] = teF x 0 := by
  rw [teL]
  simp [allE, hx]
theorem law_blockE (l : List Fl) : teL [ofF 9 [l]] = teL l := by
  rw [te_one (ofF 9 [l]) (show (9 : Int) ≠ 20 by decide), ofF, teF]
  simp [teOne]
theorem law_if1 (a : List Fl) : teL [ofF 2 [a]] = false := by
  rw [te_one (ofF 2 [a]) (show (2 : Int) ≠ 20 by decide), ofF, teF]
  simp [teTwo]
theorem law_if2 (a b : List Fl) : teL [ofF 2 [a, b]] = (teL a && teL b) := by
  rw [te_one (ofF 2 [a, b]) (show (2 : Int) ≠ 20 by decide), ofF, teF]
  simp [teTwo]
theorem hbL_append (lb : Int) (imp : Bool) (y : List Fl) : ∀ x : List Fl, hbL (x ++ y) lb imp = (hbL x lb imp || hbL y lb imp)
  | [] => by rw [hbL]; rfl
  | a :: x => by rw [List.cons_append, hbL, hbL, hbL_append lb imp y x, Bool.or_assoc]
theorem law_loop1 (n k : Int) (hn : 1 ≤ n) (hk : k = 3 ∨ k = 4 ∨ k = 5) (l : List Fl) : teL [labF n (ofF k [l ++ [jmpF 12 n]])] = false := by
  rw [te_one (labF n (ofF k [l ++ [jmpF 12 n]])) (show (10 : Int) ≠ 20 by decide), labF, teF]
  simp only [teI]
  rw [if_neg (by decide), if_neg (by decide), if_neg (by decide), if_neg (by decide), if_neg (by decide), if_neg (by decide), if_neg (by decide), if_neg (by decide), if_neg (by decide), if_neg (by decide), if_pos trivial]
  rw [ofF, teF]
  have h0 : ¬ n = 0 := by omega
  have hb : hbB [l ++ [jmpF 12 n]] n true = true := by
    rw [hbB, hbL_append, hbL, jmpF, hbF]
    simp [h0]
  rcases hk with rfl | rfl | rfl
  · simp [hb]
  · simp
  · simp
theorem law_loop2 (n k : Int) (hk : k = 4 ∨ k = 5) (l : List Fl) : teL [labF n (ofF k [l])] = false := by
  rw [te_one (labF n (ofF k [l])) (show (10 : Int) ≠ 20 by decide), labF, teF]
  simp only [teI]
  rw [if_neg (by decide), if_neg (by decide), if_neg (by decide), if_neg (by decide), if_neg (by decide), if_neg (by decide), if_neg (by decide), if_neg (by decide), if_neg (by decide), if_neg (by decide), if_pos trivial]
  rw [ofF, teF]
  rcases hk with rfl | rfl
  · simp
  · simp
theorem law_default (k d : Int) (hk : k = 6 ∨ k = 7) (b : List (List Fl)) (hd : ¬ (0 ≤ d ∧ d < (b.length : Int))) : teL [.mk k 0 d b] = false := by
  rw [te_one _ (by show k ≠ 20; omega), teF]
  have : (decide (0 ≤ d) && decide (d < (b.length : Int))) = false := by
    rw [Bool.eq_false_iff]; simp only [ne_eq, Bool.and_eq_true, decide_eq_true_eq]; exact hd
  rcases hk with rfl | rfl <;> simp [this]
theorem teAll_all2 : ∀ (b : List (List Fl)) (lb : Int), teAll b lb = b.all fun y => teL y && !(hbL y lb true)
  | [], lb => by rw [teAll]; rfl
  | y :: ys, lb => by rw [teAll, List.all_cons, teAll_all2 ys lb]
theorem law_cases (k d : Int) (hk : k = 6 ∨ k = 7 ∨ k = 8) (b : List (List Fl)) (i : Nat) (y : List Fl) (hi : b[i]? = some y) (hy : teL y = false) : teL [.mk k 0 d b] = false := by
  rw [te_one _ (by show k ≠ 20; omega), teF]
  have : teAll b 0 = false := by
    rw [teAll_all2, Bool.eq_false_iff]
    intro h
    rw [List.all_eq_true] at h
    have := h y (List.mem_of_getElem? hi)
    rw [hy] at this
    simp at this
  rcases hk with rfl | rfl | rfl <;> simp [this]
theorem law_turned (k d e : Int) (hk : k = 7 ∨ k = 8) (b : List (List Fl)) (i : Nat) (hd : 0 ≤ d) (hd2 : d < (b.length : Int)) (he : 0 ≤ e) (he2 : e < (b.length : Int)) : teL [.mk k 0 d b] = teL [.mk k 0 e (b.drop i ++ b.take i)] := by
  rw [te_one _ (by show k ≠ 20; omega), te_one _ (by show k ≠ 20; omega), teF, teF]
  have h1 : teAll (b.drop i ++ b.take i) 0 = teAll b 0 := by
    rw [teAll_all2, teAll_all2, List.all_append, Bool.and_comm, ← List.all_append, List.take_append_drop]
  have h2 : (b.drop i ++ b.take i).length = b.length := by simp; omega
  rw [h1, h2]
  rcases hk with rfl | rfl <;> simp [hd, hd2, he, he2]
end Go.Proofs.YtpodifbgfcclbaaGreatDoor
