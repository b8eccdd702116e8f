/- When the code that looks at labels and jumps says yes: a plain condition on the statements. -/
import Derived.Test.YtpodifbgfcclbaaGreatDoorJmp1
set_option linter.unusedSimpArgs false
set_option linter.unusedVariables false
namespace Go.Proofs.YtpodifbgfcclbaaGreatDoor

def in1 (k : Int) : Bool := k == 2 || k == 3 || k == 4 || k == 5 || k == 9
def in2 (k : Int) : Bool := k == 6 || k == 7 || k == 8
mutual
/-- The labels in front of a statement. -/
def lbF : Fl → List Int
  | .mk k l _ b => if k = 10 then (if l = -1 then lbI b else l :: lbI b) else []
def lbI : List (List Fl) → List Int
  | (x :: _) :: _ => lbF x
  | [] => []
  | [] :: _ => []
end
mutual
/-- All labels that are declared. -/
def dlF : Fl → List Int
  | .mk k l _ b => if k = 10 then (if l = -1 then dlI b else l :: dlI b) else if in1 k || in2 k then dlB b else []
def dlI : List (List Fl) → List Int
  | (x :: _) :: _ => dlF x
  | [] => []
  | [] :: _ => []
def dlB : List (List Fl) → List Int
  | [] => []
  | y :: ys => dlL y ++ dlB ys
def dlL : List Fl → List Int
  | [] => []
  | x :: xs => dlF x ++ dlL xs
end
mutual
/-- All labels that jumps name. -/
def usF : Fl → List Int
  | .mk k l _ b => if k = 10 then usI b else if k = 11 then [l] else if k = 12 ∨ k = 13 then (if l = 0 then [] else [l]) else if in1 k || in2 k then usB b else []
def usI : List (List Fl) → List Int
  | (x :: _) :: _ => usF x
  | [] => []
  | [] :: _ => []
def usB : List (List Fl) → List Int
  | [] => []
  | y :: ys => usL y ++ usB ys
def usL : List Fl → List Int
  | [] => []
  | x :: xs => usF x ++ usL xs
end
/-- Does a goto ahead of these statements (over a variable or not) find its label? -/
def rsL (R : Int → Bool) : List Fl → Int → Bool → Bool
  | [], n, _ => R n
  | x :: xs, n, fl => if (lbF x).contains n then !fl else rsL R xs n (fl || decF x)
mutual
/-- Are all gotos fine, where G are the labels behind and R what a goto finds ahead? -/
def okF (G R : Int → Bool) : Fl → Bool
  | .mk k l _ b => if k = 10 then (if l = -1 then okI G R b else okI (fun n => G n || n == l) R b) else if k = 11 then G l || R l else if in1 k || in2 k then okB G R b else true
def okI (G R : Int → Bool) : List (List Fl) → Bool
  | (x :: _) :: _ => okF G R x
  | [] => true
  | [] :: _ => true
def okB (G R : Int → Bool) : List (List Fl) → Bool
  | [] => true
  | y :: ys => okL G R y && okB G R ys
def okL (G R : Int → Bool) : List Fl → Bool
  | [] => true
  | x :: xs => okF G (fun n => rsL R xs n false) x && okL (fun n => G n || (lbF x).contains n) R xs
end
def lvOk (ok : Int → Bool) (tg : List (Int × Int)) (l : Int) : Bool := match tg.find? fun t => t.1 == l with
  | some t => ok t.2
  | none => false
mutual
/-- Are all breaks and continues with a label fine? -/
def lvF (tg : List (Int × Int)) : Option (Int × Int) → Fl → Bool
  | cur, .mk k l _ b => if k = 10 then (if l = -1 then lvI tg cur b else lvI tg (some (l, kindI b)) b) else if k = 12 then l == 0 || lvOk breakK tg l else if k = 13 then l == 0 || lvOk contK tg l else if in1 k then lvB tg cur b else if in2 k then lvB (cur.toList ++ tg) none b else true
def lvI (tg : List (Int × Int)) : Option (Int × Int) → List (List Fl) → Bool
  | cur, (x :: _) :: _ => lvF tg cur x
  | _, [] => true
  | _, [] :: _ => true
def lvB (tg : List (Int × Int)) : Option (Int × Int) → List (List Fl) → Bool
  | _, [] => true
  | cur, y :: ys => lvL (cur.toList ++ tg) y && lvB tg cur ys
def lvL (tg : List (Int × Int)) : List Fl → Bool
  | [] => true
  | x :: xs => lvF tg none x && lvL tg xs
end

/-! The shapes of a statement. -/
theorem in1_iff (k : Int) : in1 k = true ↔ k = 2 ∨ k = 3 ∨ k = 4 ∨ k = 5 ∨ k = 9 := by
  unfold in1; simp only [Bool.or_eq_true, beq_iff_eq, or_assoc]
theorem in2_iff (k : Int) : in2 k = true ↔ k = 6 ∨ k = 7 ∨ k = 8 := by
  unfold in2; simp only [Bool.or_eq_true, beq_iff_eq, or_assoc]
theorem jS_in1 {k : Int} (h : in1 k = true) (gl : List Int) (tg : List (Int × Int)) (l d : Int) (b : List (List Fl)) (cur : Option (Int × Int)) (s : JS) : jS gl tg (.mk k l d b) cur s = jB gl tg b cur s := by
  rw [jS]
  rcases (in1_iff k).1 h with rfl | rfl | rfl | rfl | rfl <;> simp
theorem jS_in2 {k : Int} (h : in2 k = true) (gl : List Int) (tg : List (Int × Int)) (l d : Int) (b : List (List Fl)) (cur : Option (Int × Int)) (s : JS) : jS gl tg (.mk k l d b) cur s = outL s (jB (s.labs ++ gl) (cur.toList ++ tg) b none (inL s)) := by
  rw [jS]
  rcases (in2_iff k).1 h with rfl | rfl | rfl <;> simp
theorem jS_10 (gl : List Int) (tg : List (Int × Int)) (l d : Int) (b : List (List Fl)) (cur : Option (Int × Int)) (s : JS) : jS gl tg (.mk 10 l d b) cur s = if l = -1 then jI gl tg b cur s else jI gl tg b (some (l, kindI b)) (declL l s) := by
  rw [jS]; simp
theorem jS_11 (gl : List Int) (tg : List (Int × Int)) (l d : Int) (b : List (List Fl)) (cur : Option (Int × Int)) (s : JS) : jS gl tg (.mk 11 l d b) cur s = gotoL gl l s := by
  rw [jS]; simp
theorem jS_12 (gl : List Int) (tg : List (Int × Int)) (l d : Int) (b : List (List Fl)) (cur : Option (Int × Int)) (s : JS) : jS gl tg (.mk 12 l d b) cur s = if l = 0 then s else leaveL breakK tg l s := by
  rw [jS]; simp
theorem jS_13 (gl : List Int) (tg : List (Int × Int)) (l d : Int) (b : List (List Fl)) (cur : Option (Int × Int)) (s : JS) : jS gl tg (.mk 13 l d b) cur s = if l = 0 then s else leaveL contK tg l s := by
  rw [jS]; simp
theorem jS_var {k : Int} (h : k = 15 ∨ k = 16) (gl : List Int) (tg : List (Int × Int)) (l d : Int) (b : List (List Fl)) (cur : Option (Int × Int)) (s : JS) : jS gl tg (.mk k l d b) cur s = varL s := by
  rw [jS]
  rcases h with rfl | rfl <;> simp
structure Oth (k : Int) : Prop where
  a : in1 k = false
  b : in2 k = false
  c : ¬ k = 10
  d : ¬ k = 11
  e : ¬ k = 12
  f : ¬ k = 13
  g : ¬ k = 15
  h : ¬ k = 16
theorem jS_oth {k : Int} (h : Oth k) (gl : List Int) (tg : List (Int × Int)) (l d : Int) (b : List (List Fl)) (cur : Option (Int × Int)) (s : JS) : jS gl tg (.mk k l d b) cur s = s := by
  have h1 := h.a
  have h2 := h.b
  unfold in1 at h1
  unfold in2 at h2
  simp only [Bool.or_eq_false_iff, beq_eq_false_iff_ne, ne_eq] at h1 h2
  rw [jS]
  simp [h1, h2, h.c, h.d, h.e, h.f, h.g, h.h]
/-- Which shape a kind has. -/
theorem shape (k : Int) : in1 k = true ∨ in2 k = true ∨ k = 10 ∨ k = 11 ∨ k = 12 ∨ k = 13 ∨ (k = 15 ∨ k = 16) ∨ Oth k := by
  cases h1 : in1 k with
  | true => exact .inl rfl
  | false =>
    cases h2 : in2 k with
    | true => exact .inr (.inl rfl)
    | false =>
      by_cases c : k = 10
      · simp [c]
      by_cases d : k = 11
      · simp [d]
      by_cases e : k = 12
      · simp [e]
      by_cases f : k = 13
      · simp [f]
      by_cases g : k = 15
      · simp [g]
      by_cases h : k = 16
      · simp [h]
      exact .inr (.inr (.inr (.inr (.inr (.inr (.inr ⟨h1, h2, c, d, e, f, g, h⟩))))))
theorem in1_n {k : Int} (h : in1 k = true) : in2 k = false ∧ ¬ k = 10 ∧ ¬ k = 11 ∧ ¬ k = 12 ∧ ¬ k = 13 ∧ ¬ k = 15 ∧ ¬ k = 16 := by
  rcases (in1_iff k).1 h with rfl | rfl | rfl | rfl | rfl <;> decide
theorem in2_n {k : Int} (h : in2 k = true) : in1 k = false ∧ ¬ k = 10 ∧ ¬ k = 11 ∧ ¬ k = 12 ∧ ¬ k = 13 ∧ ¬ k = 15 ∧ ¬ k = 16 := by
  rcases (in2_iff k).1 h with rfl | rfl | rfl <;> decide

/-! What the state at a place says. -/
def JS.keys (s : JS) : List Int := s.ds.map Prod.fst
def GS (gl : List Int) (s : JS) (n : Int) : Bool := (s.labs ++ gl).contains n
def Fr (s : JS) (dl : List Int) : Prop := dl.Nodup ∧ ∀ n ∈ dl, n ∉ s.keys
/-- Nothing is reported, and all gotos ahead find their label. -/
def Cl (s : JS) (R : Int → Bool → Bool) : Prop := s.rep = 0 ∧ ∀ f ∈ s.fwd, R f.1 f.2 = true
theorem Fr.nil (s : JS) : Fr s [] := ⟨List.nodup_nil, fun n h => by cases h⟩
theorem Fr_app {s t : JS} {a b : List Int} (h : t.keys = s.keys ++ a) : (Fr s a ∧ Fr t b) ↔ Fr s (a ++ b) := by
  unfold Fr
  rw [h, List.nodup_append]
  constructor
  · rintro ⟨⟨h1, h2⟩, h3, h4⟩
    refine ⟨⟨h1, h3, fun x hx y hy e => ?_⟩, fun n hn => ?_⟩
    · subst e
      exact h4 _ hy (by simp [hx])
    · rcases List.mem_append.1 hn with hn | hn
      · exact h2 n hn
      · intro hk; exact h4 n hn (by simp [hk])
  · rintro ⟨⟨h1, h3, h4⟩, h2⟩
    refine ⟨⟨h1, fun n hn => h2 n (by simp [hn])⟩, h3, fun n hn hk => ?_⟩
    rcases List.mem_append.1 hk with hk | hk
    · exact h2 n (by simp [hn]) hk
    · exact h4 n hk n hn rfl
theorem Fr_same {s t : JS} {a : List Int} (h : t.keys = s.keys) : Fr t a ↔ Fr s a := by unfold Fr; rw [h]
theorem decl_cl (l : Int) (s : JS) (R : Int → Bool → Bool) : Cl (declL l s) R ↔ (Cl s (fun n fl => if n = l then !fl else R n fl) ∧ l ∉ s.keys) := by
  unfold Cl JS.keys
  by_cases hc : l ∈ s.ds.map Prod.fst
  · have hc' : (s.ds.map Prod.fst).contains l = true := List.contains_iff_mem.2 hc
    simp only [declL, hc', if_true]
    constructor
    · rintro ⟨h, _⟩; omega
    · rintro ⟨_, h⟩; exact absurd hc h
  · have hc' : (s.ds.map Prod.fst).contains l = false := by
      rw [Bool.eq_false_iff, ne_eq, List.contains_iff_mem]; exact hc
    simp only [declL, hc', Bool.false_eq_true, if_false, Nat.add_zero]
    constructor
    · rintro ⟨h1, h2⟩
      refine ⟨⟨by omega, fun f hf => ?_⟩, hc⟩
      have h3 : (s.fwd.filter fun f => f.1 == l && f.2) = [] := List.length_eq_zero_iff.1 (by omega)
      rw [List.filter_eq_nil_iff] at h3
      split
      · next e =>
        have := h3 f hf
        simp only [e, beq_self_eq_true, Bool.true_and, Bool.not_eq_true] at this
        rw [this]; rfl
      · next e => exact h2 f (List.mem_filter.2 ⟨hf, by simp [e]⟩)
    · rintro ⟨⟨h1, h2⟩, _⟩
      refine ⟨?_, fun f hf => ?_⟩
      · have : (s.fwd.filter fun f => f.1 == l && f.2) = [] := by
          rw [List.filter_eq_nil_iff]
          intro f hf h
          simp only [Bool.and_eq_true, beq_iff_eq] at h
          have := h2 f hf
          rw [if_pos h.1, h.2] at this
          cases this
        rw [this, h1]; rfl
      · obtain ⟨hf1, hf2⟩ := List.mem_filter.1 hf
        have := h2 f hf1
        simp only [Bool.not_eq_true', beq_eq_false_iff_ne, ne_eq] at hf2
        rw [if_neg hf2] at this
        exact this
theorem decl_keys {l : Int} {s : JS} (h : l ∉ s.keys) : (declL l s).keys = s.keys ++ [l] ∧ (declL l s).labs = s.labs ++ [l] := by
  unfold JS.keys at *
  have hc' : (s.ds.map Prod.fst).contains l = false := by
    rw [Bool.eq_false_iff, ne_eq, List.contains_iff_mem]; exact h
  simp only [declL, hc', Bool.false_eq_true, if_false]
  simp
theorem useL_keys (l : Int) (ds : List (Int × Bool)) : (useL l ds).map Prod.fst = ds.map Prod.fst := by
  unfold useL
  rw [List.map_map]
  refine List.map_congr_left fun e _ => ?_
  simp only [Function.comp]
  split <;> rfl
theorem leave_cl (ok : Int → Bool) (tg : List (Int × Int)) (l : Int) (s : JS) (R : Int → Bool → Bool) : Cl (leaveL ok tg l s) R ↔ (Cl s R ∧ lvOk ok tg l = true) := by
  unfold Cl leaveL lvOk
  cases tg.find? (fun t => t.1 == l) with
  | none => simp
  | some t =>
    simp only
    by_cases h : ok t.2 = true
    · simp [h]
    · simp [h]
theorem leave_keys (ok : Int → Bool) (tg : List (Int × Int)) (l : Int) (s : JS) : (leaveL ok tg l s).keys = s.keys ∧ (leaveL ok tg l s).labs = s.labs := by
  unfold leaveL JS.keys
  cases tg.find? (fun t => t.1 == l) with
  | none => simp
  | some t =>
    simp only
    split
    · exact ⟨useL_keys _ _, rfl⟩
    · exact ⟨rfl, rfl⟩
theorem goto_cl (gl : List Int) (l : Int) (s : JS) (R : Int → Bool → Bool) : Cl (gotoL gl l s) R ↔ (Cl s R ∧ (GS gl s l || R l false) = true) := by
  unfold Cl gotoL GS
  by_cases h : (s.labs ++ gl).contains l = true
  · rw [if_pos h, h, Bool.true_or]
    exact ⟨fun q => ⟨q, rfl⟩, fun q => q.1⟩
  · rw [if_neg h]
    simp only [Bool.not_eq_true] at h
    rw [h, Bool.false_or]
    simp only [List.mem_append, List.mem_singleton]
    constructor
    · rintro ⟨h1, h2⟩
      exact ⟨⟨h1, fun f hf => h2 f (.inl hf)⟩, h2 (l, false) (.inr rfl)⟩
    · rintro ⟨⟨h1, h2⟩, h3⟩
      refine ⟨h1, fun f hf => ?_⟩
      rcases hf with hf | rfl
      · exact h2 f hf
      · exact h3
theorem goto_keys (gl : List Int) (l : Int) (s : JS) : (gotoL gl l s).keys = s.keys ∧ (gotoL gl l s).labs = s.labs := by
  unfold gotoL JS.keys
  split
  · exact ⟨useL_keys _ _, rfl⟩
  · exact ⟨rfl, rfl⟩
theorem var_cl (s : JS) (R : Int → Bool → Bool) : Cl (varL s) R ↔ Cl s (fun n _ => R n true) := by
  unfold Cl varL
  simp only [List.mem_map]
  constructor
  · rintro ⟨h1, h2⟩
    exact ⟨h1, fun f hf => h2 (f.1, true) ⟨f, hf, rfl⟩⟩
  · rintro ⟨h1, h2⟩
    refine ⟨h1, ?_⟩
    rintro f ⟨g, hg, rfl⟩
    exact h2 g hg
theorem out_cl (s r : JS) (R : Int → Bool → Bool) : Cl (outL s r) R ↔ ((∀ f ∈ s.fwd, R f.1 f.2 = true) ∧ Cl r (fun n _ => R n false)) := by
  unfold Cl outL
  simp only [List.mem_append, List.mem_map]
  constructor
  · rintro ⟨h1, h2⟩
    exact ⟨fun f hf => h2 f (.inl hf), h1, fun f hf => h2 (f.1, false) (.inr ⟨f, hf, rfl⟩)⟩
  · rintro ⟨h1, h2, h3⟩
    refine ⟨h2, fun f hf => ?_⟩
    rcases hf with hf | ⟨g, hg, rfl⟩
    · exact h1 f hf
    · exact h3 g hg
theorem GS_in (gl : List Int) (s : JS) : GS (s.labs ++ gl) (inL s) = GS gl s := by
  funext n; unfold GS inL; rfl
theorem in_cl (s : JS) (R : Int → Bool → Bool) : Cl (inL s) R ↔ s.rep = 0 := by
  unfold Cl inL; simp
theorem in_keys (s : JS) : (inL s).keys = s.keys := rfl
theorem out_keys (s r : JS) : (outL s r).keys = r.keys ∧ (outL s r).labs = s.labs := ⟨rfl, rfl⟩
theorem Cl.rep {s : JS} {R : Int → Bool → Bool} (h : Cl s R) : s.rep = 0 := h.1
theorem cl_true {s : JS} (h : s.rep = 0) : Cl s (fun _ _ => true) := ⟨h, fun _ _ => rfl⟩

def ChF (x : Fl) : Prop := ∀ (gl : List Int) (tg : List (Int × Int)) (cur : Option (Int × Int)) (s : JS),
  (∀ R : Int → Bool → Bool, Cl (jS gl tg x cur s) R ↔ (Cl s (fun n fl => if (lbF x).contains n then !fl else R n (fl || decF x)) ∧ okF (GS gl s) (fun n => R n false) x = true ∧ lvF tg cur x = true ∧ Fr s (dlF x))) ∧
  ((jS gl tg x cur s).rep = 0 → (jS gl tg x cur s).keys = s.keys ++ dlF x ∧ (jS gl tg x cur s).labs = s.labs ++ lbF x)
def ChI (b : List (List Fl)) : Prop := ∀ (gl : List Int) (tg : List (Int × Int)) (cur : Option (Int × Int)) (s : JS),
  (∀ R : Int → Bool → Bool, Cl (jI gl tg b cur s) R ↔ (Cl s (fun n fl => if (lbI b).contains n then !fl else R n (fl || decI b)) ∧ okI (GS gl s) (fun n => R n false) b = true ∧ lvI tg cur b = true ∧ Fr s (dlI b))) ∧
  ((jI gl tg b cur s).rep = 0 → (jI gl tg b cur s).keys = s.keys ++ dlI b ∧ (jI gl tg b cur s).labs = s.labs ++ lbI b)
def ChB (b : List (List Fl)) : Prop := ∀ (gl : List Int) (tg : List (Int × Int)) (cur : Option (Int × Int)) (s : JS),
  (∀ R : Int → Bool → Bool, Cl (jB gl tg b cur s) R ↔ (Cl s R ∧ okB (GS gl s) (fun n => R n false) b = true ∧ lvB tg cur b = true ∧ Fr s (dlB b))) ∧
  ((jB gl tg b cur s).rep = 0 → (jB gl tg b cur s).keys = s.keys ++ dlB b ∧ (jB gl tg b cur s).labs = s.labs)
def ChL (y : List Fl) : Prop := ∀ (gl : List Int) (tg : List (Int × Int)) (s : JS),
  (∀ R : Int → Bool, Cl (jL gl tg y s) (fun n _ => R n) ↔ (Cl s (rsL R y) ∧ okL (GS gl s) R y = true ∧ lvL tg y = true ∧ Fr s (dlL y))) ∧
  ((jL gl tg y s).rep = 0 → (jL gl tg y s).keys = s.keys ++ dlL y)
theorem GS_decl {gl : List Int} {l : Int} {s : JS} (h : l ∉ s.keys) : GS gl (declL l s) = fun n => GS gl s n || n == l := by
  funext n
  unfold GS
  rw [(decl_keys h).2, Bool.eq_iff_iff]
  simp only [Bool.or_eq_true, List.contains_iff_mem, List.mem_append, List.mem_singleton, beq_iff_eq]
  constructor
  · rintro ((h | h) | h)
    · exact .inl (.inl h)
    · exact .inr h
    · exact .inl (.inr h)
  · rintro ((h | h) | h)
    · exact .inl (.inl h)
    · exact .inr h
    · exact .inl (.inr h)
theorem chF_of (k l d : Int) (b : List (List Fl)) (hB : ChB b) (hI : ChI b) : ChF (.mk k l d b) := by
  intro gl tg cur s
  rcases shape k with h | h | rfl | rfl | rfl | rfl | h | h
  · obtain ⟨g2, g3, g4, g5, g6, g7, g8⟩ := in1_n h
    obtain ⟨q1, q2⟩ := hB gl tg cur s
    have e15 : (k == 15 || k == 16) = false := by simp [g7, g8]
    simp only [jS_in1 h, lbF, okF, lvF, dlF, decF, g3, g4, g5, g6, h, e15, List.contains_nil, Bool.false_eq_true, if_false, Bool.true_or, if_true, List.append_nil, Bool.or_false]
    exact ⟨q1, q2⟩
  · obtain ⟨g2, g3, g4, g5, g6, g7, g8⟩ := in2_n h
    obtain ⟨q1, q2⟩ := hB (s.labs ++ gl) (cur.toList ++ tg) none (inL s)
    have e15 : (k == 15 || k == 16) = false := by simp [g7, g8]
    simp only [jS_in2 h, lbF, okF, lvF, dlF, decF, g2, g3, g4, g5, g6, h, e15, List.contains_nil, Bool.false_eq_true, if_false, Bool.or_true, if_true, List.append_nil, Bool.or_false]
    refine ⟨fun R => ?_, fun h0 => ⟨(q2 h0).1, rfl⟩⟩
    rw [out_cl, q1, GS_in, in_cl, Fr_same (in_keys s)]
    unfold Cl
    constructor
    · rintro ⟨h1, h2, h3, h4, h5⟩; exact ⟨⟨h2, h1⟩, h3, h4, h5⟩
    · rintro ⟨⟨h2, h1⟩, h3, h4, h5⟩; exact ⟨h1, h2, h3, h4, h5⟩
  · simp only [jS_10, lbF, okF, lvF, dlF, decF, if_true]
    by_cases hl : l = -1
    · simp only [if_pos hl]
      exact hI gl tg cur s
    · simp only [if_neg hl]
      obtain ⟨q1, q2⟩ := hI gl tg (some (l, kindI b)) (declL l s)
      have key : ∀ R : Int → Bool → Bool, Cl (jI gl tg b (some (l, kindI b)) (declL l s)) R ↔ (Cl s (fun n fl => if (l :: lbI b).contains n then !fl else R n (fl || decI b)) ∧ okI (fun n => GS gl s n || n == l) (fun n => R n false) b = true ∧ lvI tg (some (l, kindI b)) b = true ∧ Fr s (l :: dlI b)) := by
        intro R
        rw [q1, decl_cl]
        have hR : (fun n fl => if n = l then !fl else if (lbI b).contains n then !fl else R n (fl || decI b)) = fun n fl => if (l :: lbI b).contains n then !fl else R n (fl || decI b) := by
          funext n fl
          by_cases hn : n = l
          · simp [hn]
          · have : (n == l) = false := by simpa using hn
            rw [List.contains_cons, this, Bool.false_or, if_neg hn]
        rw [hR]
        constructor
        · rintro ⟨⟨h1, h2⟩, h3, h4, h5⟩
          rw [GS_decl h2] at h3
          exact ⟨h1, h3, h4, (Fr_app (decl_keys h2).1).1 ⟨⟨by simp, fun n hn => by rw [List.mem_singleton.1 hn]; exact h2⟩, h5⟩⟩
        · rintro ⟨h1, h3, h4, h5⟩
          have h2 : l ∉ s.keys := h5.2 l (by simp)
          refine ⟨⟨h1, h2⟩, ?_, h4, ((Fr_app (a := [l]) (decl_keys h2).1).2 h5).2⟩
          rw [GS_decl h2]; exact h3
      refine ⟨key, fun h0 => ?_⟩
      have h2 : l ∉ s.keys := ((key _).1 (cl_true h0)).2.2.2.2 l (by simp)
      obtain ⟨e1, e2⟩ := q2 h0
      obtain ⟨f1, f2⟩ := decl_keys h2
      rw [e1, e2, f1, f2]
      simp
  · simp only [jS_11, lbF, okF, lvF, dlF, decF, show ¬ (11 : Int) = 10 by decide, show ¬ (11 : Int) = 12 by decide, show ¬ (11 : Int) = 13 by decide, if_false, if_true, show in1 11 = false by decide, show in2 11 = false by decide, show ((11 : Int) == 15 || (11 : Int) == 16) = false by decide, Bool.or_false, Bool.or_self, Bool.false_eq_true, List.contains_nil, List.append_nil, true_and]
    refine ⟨fun R => ?_, fun _ => goto_keys gl l s⟩
    rw [goto_cl]
    constructor
    · rintro ⟨h1, h2⟩; exact ⟨h1, h2, Fr.nil s⟩
    · rintro ⟨h1, h2, _⟩; exact ⟨h1, h2⟩
  · simp only [jS_12, lbF, okF, lvF, dlF, decF, show ¬ (12 : Int) = 10 by decide, show ¬ (12 : Int) = 11 by decide, show ¬ (12 : Int) = 13 by decide, if_false, if_true, show in1 12 = false by decide, show in2 12 = false by decide, show ((12 : Int) == 15 || (12 : Int) == 16) = false by decide, Bool.or_false, Bool.or_self, Bool.false_eq_true, List.contains_nil, List.append_nil, true_and]
    by_cases hl : l = 0
    · subst hl
      simp only [if_true, beq_self_eq_true, Bool.true_or, true_and]
      exact ⟨fun R => ⟨fun h => ⟨h, Fr.nil s⟩, fun h => h.1⟩, fun _ => by simp⟩
    · have : (l == 0) = false := by simpa using hl
      simp only [if_neg hl, this, Bool.false_or]
      refine ⟨fun R => ?_, fun _ => leave_keys breakK tg l s⟩
      rw [leave_cl]
      exact ⟨fun h => ⟨h.1, h.2, Fr.nil s⟩, fun h => ⟨h.1, h.2.1⟩⟩
  · simp only [jS_13, lbF, okF, lvF, dlF, decF, show ¬ (13 : Int) = 10 by decide, show ¬ (13 : Int) = 11 by decide, show ¬ (13 : Int) = 12 by decide, if_false, if_true, show in1 13 = false by decide, show in2 13 = false by decide, show ((13 : Int) == 15 || (13 : Int) == 16) = false by decide, Bool.or_false, Bool.or_self, Bool.false_eq_true, List.contains_nil, List.append_nil, true_and]
    by_cases hl : l = 0
    · subst hl
      simp only [if_true, beq_self_eq_true, Bool.true_or, true_and]
      exact ⟨fun R => ⟨fun h => ⟨h, Fr.nil s⟩, fun h => h.1⟩, fun _ => by simp⟩
    · have : (l == 0) = false := by simpa using hl
      simp only [if_neg hl, this, Bool.false_or]
      refine ⟨fun R => ?_, fun _ => leave_keys contK tg l s⟩
      rw [leave_cl]
      exact ⟨fun h => ⟨h.1, h.2, Fr.nil s⟩, fun h => ⟨h.1, h.2.1⟩⟩
  · have e : (k == 15 || k == 16) = true := by rcases h with rfl | rfl <;> decide
    have e2 : ¬ k = 10 ∧ ¬ k = 11 ∧ ¬ k = 12 ∧ ¬ k = 13 ∧ in1 k = false ∧ in2 k = false := by rcases h with rfl | rfl <;> decide
    simp only [jS_var h, lbF, okF, lvF, dlF, decF, e, e2, if_false, Bool.or_false, Bool.false_eq_true, List.contains_nil, List.append_nil, true_and, Bool.or_true]
    refine ⟨fun R => ?_, fun _ => by unfold varL JS.keys; exact ⟨rfl, rfl⟩⟩
    rw [var_cl]
    exact ⟨fun h => ⟨h, Fr.nil s⟩, fun h => h.1⟩
  · have e : (k == 15 || k == 16) = false := by simp [h.g, h.h]
    simp only [jS_oth h, lbF, okF, lvF, dlF, decF, e, h.a, h.b, h.c, h.d, h.e, h.f, if_false, Bool.or_false, Bool.false_eq_true, List.contains_nil, List.append_nil, true_and]
    exact ⟨fun R => ⟨fun h => ⟨h, Fr.nil s⟩, fun h => h.1⟩, fun _ => by simp⟩
mutual
theorem jS_ch : ∀ x : Fl, ChF x
  | .mk k l d b => chF_of k l d b (jB_ch b) (jI_ch b)
theorem jI_ch : ∀ b : List (List Fl), ChI b
  | (x :: xs) :: ys => by
    intro gl tg cur s
    have := jS_ch x gl tg cur s
    simp only [jI, lbI, okI, lvI, dlI, decI]
    exact this
  | [] => by
    intro gl tg cur s
    simp only [jI, lbI, okI, lvI, dlI, decI, List.contains_nil, Bool.false_eq_true, if_false, Bool.or_false, List.append_nil, true_and]
    exact ⟨fun R => ⟨fun h => ⟨h, Fr.nil s⟩, fun h => h.1⟩, fun _ => by simp⟩
  | [] :: ys => by
    intro gl tg cur s
    simp only [jI, lbI, okI, lvI, dlI, decI, List.contains_nil, Bool.false_eq_true, if_false, Bool.or_false, List.append_nil, true_and]
    exact ⟨fun R => ⟨fun h => ⟨h, Fr.nil s⟩, fun h => h.1⟩, fun _ => by simp⟩
theorem jB_ch : ∀ b : List (List Fl), ChB b
  | [] => by
    intro gl tg cur s
    simp only [jB, okB, lvB, dlB, List.append_nil, true_and]
    exact ⟨fun R => ⟨fun h => ⟨h, Fr.nil s⟩, fun h => h.1⟩, fun _ => by simp⟩
  | y :: ys => by
    intro gl tg cur s
    obtain ⟨p1, p2⟩ := jL_ch y (s.labs ++ gl) (cur.toList ++ tg) (inL s)
    obtain ⟨q1, q2⟩ := jB_ch ys gl tg cur (outL s (jL (s.labs ++ gl) (cur.toList ++ tg) y (inL s)))
    simp only [jB, okB, lvB, dlB]
    have key : ∀ R : Int → Bool → Bool, Cl (jB gl tg ys cur (outL s (jL (s.labs ++ gl) (cur.toList ++ tg) y (inL s)))) R ↔ (Cl s R ∧ (okL (GS gl s) (fun n => R n false) y && okB (GS gl s) (fun n => R n false) ys) = true ∧ (lvL (cur.toList ++ tg) y && lvB tg cur ys) = true ∧ Fr s (dlL y ++ dlB ys)) := by
      intro R
      rw [q1, out_cl, p1 (fun n => R n false), GS_in, in_cl, Fr_same (in_keys s)]
      have eG : GS gl (outL s (jL (s.labs ++ gl) (cur.toList ++ tg) y (inL s))) = GS gl s := rfl
      rw [eG]
      simp only [Bool.and_eq_true]
      constructor
      · rintro ⟨⟨h1, h2, h3, h4, h5⟩, h6, h7, h8⟩
        have hr : (jL (s.labs ++ gl) (cur.toList ++ tg) y (inL s)).rep = 0 := ((p1 (fun n => true)).2 ⟨(in_cl _ _).2 h2, (by
          have := (p1 (fun n => R n false)).2 ⟨(in_cl _ _).2 h2, by rw [GS_in]; exact h3, h4, (Fr_same (in_keys s)).2 h5⟩
          exact ((p1 (fun _ => true)).1 (cl_true this.rep)).2.1), h4, (Fr_same (in_keys s)).2 h5⟩).rep
        have hk := p2 hr
        exact ⟨⟨h2, h1⟩, ⟨h3, h6⟩, ⟨h4, h7⟩, (Fr_app (t := outL s (jL (s.labs ++ gl) (cur.toList ++ tg) y (inL s))) hk).1 ⟨h5, h8⟩⟩
      · rintro ⟨⟨h2, h1⟩, ⟨h3, h6⟩, ⟨h4, h7⟩, h8⟩
        have h5 : Fr s (dlL y) := ⟨(List.nodup_append.1 h8.1).1, fun n hn => h8.2 n (by simp [hn])⟩
        have hr := ((p1 (fun n => R n false)).2 ⟨(in_cl _ _).2 h2, by rw [GS_in]; exact h3, h4, (Fr_same (in_keys s)).2 h5⟩).rep
        have hk := p2 hr
        exact ⟨⟨h1, h2, h3, h4, h5⟩, h6, h7, ((Fr_app (t := outL s (jL (s.labs ++ gl) (cur.toList ++ tg) y (inL s))) hk).2 h8).2⟩
    refine ⟨key, fun h0 => ?_⟩
    have hk := (key (fun _ _ => true)).1 (cl_true h0)
    obtain ⟨e1, e2⟩ := q2 h0
    have h5 : Fr s (dlL y) := ⟨(List.nodup_append.1 hk.2.2.2.1).1, fun n hn => hk.2.2.2.2 n (by simp [hn])⟩
    have hr : (jL (s.labs ++ gl) (cur.toList ++ tg) y (inL s)).rep = 0 := by
      have := ((q1 (fun _ _ => true)).1 (cl_true h0)).1.rep
      exact this
    have hk2 := p2 hr
    rw [e1, e2]
    refine ⟨?_, rfl⟩
    have : (outL s (jL (s.labs ++ gl) (cur.toList ++ tg) y (inL s))).keys = s.keys ++ dlL y := hk2
    rw [this, List.append_assoc]
theorem jL_ch : ∀ y : List Fl, ChL y
  | [] => by
    intro gl tg s
    simp only [jL, okL, lvL, dlL, List.append_nil, true_and]
    exact ⟨fun R => ⟨fun h => ⟨h, Fr.nil s⟩, fun h => h.1⟩, fun _ => by simp⟩
  | x :: xs => by
    intro gl tg s
    obtain ⟨p1, p2⟩ := jS_ch x gl tg none s
    obtain ⟨q1, q2⟩ := jL_ch xs gl tg (jS gl tg x none s)
    simp only [jL, okL, lvL, dlL]
    have hG : (jS gl tg x none s).rep = 0 → GS gl (jS gl tg x none s) = fun n => GS gl s n || (lbF x).contains n := by
      intro h
      funext n
      unfold GS
      rw [(p2 h).2, Bool.eq_iff_iff]
      simp only [Bool.or_eq_true, List.contains_iff_mem, List.mem_append]
      constructor
      · rintro ((h | h) | h)
        · exact .inl (.inl h)
        · exact .inr h
        · exact .inl (.inr h)
      · rintro ((h | h) | h)
        · exact .inl (.inl h)
        · exact .inr h
        · exact .inl (.inr h)
    have key : ∀ R : Int → Bool, Cl (jL gl tg xs (jS gl tg x none s)) (fun n _ => R n) ↔ (Cl s (rsL R (x :: xs)) ∧ (okF (GS gl s) (fun n => rsL R xs n false) x && okL (fun n => GS gl s n || (lbF x).contains n) R xs) = true ∧ (lvF tg none x && lvL tg xs) = true ∧ Fr s (dlF x ++ dlL xs)) := by
      intro R
      rw [q1, p1]
      simp only [Bool.and_eq_true]
      have eR : (fun n fl => if (lbF x).contains n then !fl else rsL R xs n (fl || decF x)) = rsL R (x :: xs) := by
        funext n fl; rw [rsL]
      rw [eR]
      constructor
      · rintro ⟨⟨h1, h2, h3, h4⟩, h5, h6, h7⟩
        have hr := ((p1 (rsL R xs)).2 ⟨by rw [eR]; exact h1, h2, h3, h4⟩).rep
        rw [hG hr] at h5
        exact ⟨h1, ⟨h2, h5⟩, ⟨h3, h6⟩, (Fr_app (p2 hr).1).1 ⟨h4, h7⟩⟩
      · rintro ⟨h1, ⟨h2, h5⟩, ⟨h3, h6⟩, h7⟩
        have h4 : Fr s (dlF x) := ⟨(List.nodup_append.1 h7.1).1, fun n hn => h7.2 n (by simp [hn])⟩
        have hr := ((p1 (rsL R xs)).2 ⟨by rw [eR]; exact h1, h2, h3, h4⟩).rep
        rw [hG hr]
        exact ⟨⟨h1, h2, h3, h4⟩, h5, h6, ((Fr_app (p2 hr).1).2 h7).2⟩
    refine ⟨key, fun h0 => ?_⟩
    have h1 := ((q1 (fun _ => true)).1 (cl_true h0)).1.rep
    rw [q2 h0, (p2 h1).1, List.append_assoc]
end

/-! Which labels are used. -/
def Wd (s : JS) (n : Int) : Prop := (n, true) ∈ s.ds ∨ ∃ fl, (n, fl) ∈ s.fwd
structure Kn (gl : List Int) (tg : List (Int × Int)) (cur : Option (Int × Int)) (s : JS) : Prop where
  gl : ∀ n ∈ gl, n ∈ s.keys
  labs : ∀ n ∈ s.labs, n ∈ s.keys
  tg : ∀ t ∈ tg, t.1 ∈ s.keys
  cur : ∀ t, cur = some t → t.1 ∈ s.keys
theorem useL_true (l n : Int) (ds : List (Int × Bool)) (hl : l ∈ ds.map Prod.fst) : (n, true) ∈ useL l ds ↔ (n, true) ∈ ds ∨ n = l := by
  unfold useL
  rw [List.mem_map]
  constructor
  · rintro ⟨e, he, h⟩
    split at h
    · next h1 => cases h; exact .inr h1
    · subst h; exact .inl he
  · rintro (h | rfl)
    · refine ⟨(n, true), h, ?_⟩
      split <;> rfl
    · obtain ⟨e, he, h⟩ := List.mem_map.1 hl
      refine ⟨e, he, ?_⟩
      rw [if_pos h, ← h]
theorem wd_decl {l : Int} {s : JS} (h : l ∉ s.keys) (n : Int) : Wd (declL l s) n ↔ Wd s n := by
  unfold JS.keys at h
  have hc' : (s.ds.map Prod.fst).contains l = false := by
    rw [Bool.eq_false_iff, ne_eq, List.contains_iff_mem]; exact h
  unfold Wd
  simp only [declL, hc', Bool.false_eq_true, if_false, List.mem_append, List.mem_singleton, Prod.mk.injEq, List.mem_filter]
  constructor
  · rintro ((h1 | ⟨rfl, h1⟩) | ⟨fl, h1, h2⟩)
    · exact .inl h1
    · have := h1.symm
      rw [List.any_eq_true] at this
      obtain ⟨⟨m, fl⟩, hf, hm⟩ := this
      simp only [beq_iff_eq] at hm
      subst hm
      exact .inr ⟨fl, hf⟩
    · exact .inr ⟨fl, h1⟩
  · rintro (h1 | ⟨fl, h1⟩)
    · exact .inl (.inl h1)
    · by_cases hn : n = l
      · subst hn
        refine .inl (.inr ⟨rfl, ?_⟩)
        exact (List.any_eq_true.2 ⟨_, h1, by simp⟩).symm
      · exact .inr ⟨fl, h1, by simpa using hn⟩
theorem wd_leave {ok : Int → Bool} {tg : List (Int × Int)} {l : Int} {s : JS} (h : lvOk ok tg l = true) (ht : ∀ t ∈ tg, t.1 ∈ s.keys) (n : Int) : Wd (leaveL ok tg l s) n ↔ Wd s n ∨ n = l := by
  unfold lvOk at h
  unfold leaveL
  cases hf : tg.find? (fun t => t.1 == l) with
  | none => rw [hf] at h; cases h
  | some t =>
    rw [hf] at h
    simp only at h
    simp only [h, if_true]
    have hl : l ∈ s.ds.map Prod.fst := by
      have h1 := List.mem_of_find?_eq_some hf
      have h2 := List.find?_some hf
      simp only [beq_iff_eq] at h2
      rw [← h2]; exact ht t h1
    unfold Wd
    simp only [useL_true l n s.ds hl]
    constructor
    · rintro ((h1 | h1) | h1)
      · exact .inl (.inl h1)
      · exact .inr h1
      · exact .inl (.inr h1)
    · rintro ((h1 | h1) | h1)
      · exact .inl (.inl h1)
      · exact .inr h1
      · exact .inl (.inr h1)
theorem wd_goto {gl : List Int} {l : Int} {s : JS} (hg : ∀ n ∈ gl, n ∈ s.keys) (hb : ∀ n ∈ s.labs, n ∈ s.keys) (n : Int) : Wd (gotoL gl l s) n ↔ Wd s n ∨ n = l := by
  unfold gotoL
  split
  · next h =>
    have hl : l ∈ s.ds.map Prod.fst := by
      rw [List.contains_iff_mem, List.mem_append] at h
      rcases h with h | h
      · exact hb l h
      · exact hg l h
    unfold Wd
    simp only [useL_true l n s.ds hl]
    constructor
    · rintro ((h1 | h1) | h1)
      · exact .inl (.inl h1)
      · exact .inr h1
      · exact .inl (.inr h1)
    · rintro ((h1 | h1) | h1)
      · exact .inl (.inl h1)
      · exact .inr h1
      · exact .inl (.inr h1)
  · unfold Wd
    simp only [List.mem_append, List.mem_singleton, Prod.mk.injEq]
    constructor
    · rintro (h1 | ⟨fl, h1 | ⟨h1, _⟩⟩)
      · exact .inl (.inl h1)
      · exact .inl (.inr ⟨fl, h1⟩)
      · exact .inr h1
    · rintro ((h1 | ⟨fl, h1⟩) | h1)
      · exact .inl h1
      · exact .inr ⟨fl, .inl h1⟩
      · exact .inr ⟨false, .inr ⟨h1, rfl⟩⟩
theorem wd_var (s : JS) (n : Int) : Wd (varL s) n ↔ Wd s n := by
  unfold Wd varL
  simp only [List.mem_map, Prod.mk.injEq]
  constructor
  · rintro (h1 | ⟨fl, ⟨m, f2⟩, h1, h2, _⟩)
    · exact .inl h1
    · simp only at h2; subst h2; exact .inr ⟨_, h1⟩
  · rintro (h1 | ⟨fl, h1⟩)
    · exact .inl h1
    · exact .inr ⟨true, _, h1, rfl, rfl⟩
theorem wd_out (s r : JS) (n : Int) : Wd (outL s r) n ↔ Wd r n ∨ ∃ fl, (n, fl) ∈ s.fwd := by
  unfold Wd outL
  simp only [List.mem_append, List.mem_map, Prod.mk.injEq]
  constructor
  · rintro (h1 | ⟨fl, h1 | ⟨⟨m, f2⟩, h1, h2, _⟩⟩)
    · exact .inl (.inl h1)
    · exact .inr ⟨fl, h1⟩
    · simp only at h2; subst h2; exact .inl (.inr ⟨_, h1⟩)
  · rintro ((h1 | ⟨fl, h1⟩) | ⟨fl, h1⟩)
    · exact .inl h1
    · exact .inr ⟨false, .inr ⟨_, h1, rfl, rfl⟩⟩
    · exact .inr ⟨fl, .inl h1⟩
theorem wd_in (s : JS) (n : Int) : Wd (inL s) n ∨ (∃ fl, (n, fl) ∈ s.fwd) ↔ Wd s n := by
  unfold Wd inL
  simp
theorem Kn.inn {gl : List Int} {tg : List (Int × Int)} {cur : Option (Int × Int)} {s : JS} (h : Kn gl tg cur s) : Kn (s.labs ++ gl) (cur.toList ++ tg) none (inL s) where
  gl := fun n hn => by
    rcases List.mem_append.1 hn with hn | hn
    · exact h.labs n hn
    · exact h.gl n hn
  labs := fun n hn => by cases hn
  tg := fun t ht => by
    rcases List.mem_append.1 ht with ht | ht
    · exact h.cur t (by cases cur with
        | none => cases ht
        | some u => simp at ht; rw [ht])
    · exact h.tg t ht
  cur := fun t ht => by cases ht
theorem Kn.up {gl : List Int} {tg : List (Int × Int)} {cur cur2 : Option (Int × Int)} {s s2 : JS} (h : Kn gl tg cur s) {a bl : List Int} (hk : s2.keys = s.keys ++ a) (hl : s2.labs = s.labs ++ bl) (hb : ∀ n ∈ bl, n ∈ s2.keys) (hc : ∀ t, cur2 = some t → t.1 ∈ s2.keys) : Kn gl tg cur2 s2 where
  gl := fun n hn => by rw [hk]; exact List.mem_append_left _ (h.gl n hn)
  labs := fun n hn => by
    rw [hl] at hn
    rcases List.mem_append.1 hn with hn | hn
    · rw [hk]; exact List.mem_append_left _ (h.labs n hn)
    · exact hb n hn
  tg := fun t ht => by rw [hk]; exact List.mem_append_left _ (h.tg t ht)
  cur := hc
def UsF (x : Fl) : Prop := ∀ (gl : List Int) (tg : List (Int × Int)) (cur : Option (Int × Int)) (s : JS), Kn gl tg cur s → (jS gl tg x cur s).rep = 0 → ∀ n, Wd (jS gl tg x cur s) n ↔ Wd s n ∨ n ∈ usF x
def UsI (b : List (List Fl)) : Prop := ∀ (gl : List Int) (tg : List (Int × Int)) (cur : Option (Int × Int)) (s : JS), Kn gl tg cur s → (jI gl tg b cur s).rep = 0 → ∀ n, Wd (jI gl tg b cur s) n ↔ Wd s n ∨ n ∈ usI b
def UsB (b : List (List Fl)) : Prop := ∀ (gl : List Int) (tg : List (Int × Int)) (cur : Option (Int × Int)) (s : JS), Kn gl tg cur s → (jB gl tg b cur s).rep = 0 → ∀ n, Wd (jB gl tg b cur s) n ↔ Wd s n ∨ n ∈ usB b
def UsL (y : List Fl) : Prop := ∀ (gl : List Int) (tg : List (Int × Int)) (s : JS), Kn gl tg none s → (jL gl tg y s).rep = 0 → ∀ n, Wd (jL gl tg y s) n ↔ Wd s n ∨ n ∈ usL y
mutual
theorem lbF_dl : ∀ (x : Fl) (n : Int), n ∈ lbF x → n ∈ dlF x
  | .mk k l d b, n, h => by
    rw [lbF] at h
    rw [dlF]
    by_cases h10 : k = 10
    · simp only [if_pos h10] at h ⊢
      by_cases hl : l = -1
      · simp only [if_pos hl] at h ⊢
        exact lbI_dl b n h
      · simp only [if_neg hl, List.mem_cons] at h ⊢
        rcases h with h | h
        · exact .inl h
        · exact .inr (lbI_dl b n h)
    · rw [if_neg h10] at h; cases h
theorem lbI_dl : ∀ (b : List (List Fl)) (n : Int), n ∈ lbI b → n ∈ dlI b
  | (x :: xs) :: ys, n, h => by rw [lbI] at h; rw [dlI]; exact lbF_dl x n h
  | [], n, h => by rw [lbI] at h; cases h
  | [] :: ys, n, h => by rw [lbI] at h; cases h
end
theorem usF_of (k l d : Int) (b : List (List Fl)) (hB : UsB b) (hI : UsI b) : UsF (.mk k l d b) := by
  intro gl tg cur s hk h0 n
  rcases shape k with h | h | rfl | rfl | rfl | rfl | h | h
  · obtain ⟨g2, g3, g4, g5, g6, g7, g8⟩ := in1_n h
    rw [jS_in1 h] at h0 ⊢
    rw [usF, if_neg g3, if_neg g4, if_neg (by simp [g5, g6]), h]
    simp only [Bool.true_or, if_true]
    exact hB gl tg cur s hk h0 n
  · obtain ⟨g2, g3, g4, g5, g6, g7, g8⟩ := in2_n h
    rw [jS_in2 h] at h0 ⊢
    rw [usF, if_neg g3, if_neg g4, if_neg (by simp [g5, g6]), h]
    simp only [Bool.or_true, if_true]
    have := hB (s.labs ++ gl) (cur.toList ++ tg) none (inL s) hk.inn h0 n
    rw [wd_out, this, ← wd_in s n]
    constructor
    · rintro ((h | h) | h)
      · exact .inl (.inl h)
      · exact .inr h
      · exact .inl (.inr h)
    · rintro ((h | h) | h)
      · exact .inl (.inl h)
      · exact .inr h
      · exact .inl (.inr h)
  · rw [jS_10] at h0 ⊢
    rw [usF, if_pos rfl]
    by_cases hl : l = -1
    · rw [if_pos hl] at h0 ⊢
      exact hI gl tg cur s hk h0 n
    · rw [if_neg hl] at h0 ⊢
      have hd := ((jI_ch b gl tg (some (l, kindI b)) (declL l s)).1 (fun _ _ => true)).1 (cl_true h0)
      have h2 : l ∉ s.keys := ((decl_cl l s _).1 hd.1).2
      obtain ⟨f1, f2⟩ := decl_keys h2
      have hm : l ∈ (declL l s).keys := by rw [f1]; simp
      have := hI gl tg (some (l, kindI b)) (declL l s) (hk.up f1 f2 (fun n hn => by rw [List.mem_singleton.1 hn]; exact hm) (fun t ht => by cases ht; exact hm)) h0 n
      rw [this, wd_decl h2]
  · rw [jS_11, usF]
    simp only [show ¬ (11 : Int) = 10 by decide, if_false, if_true, List.mem_singleton]
    exact wd_goto hk.gl hk.labs n
  · rw [jS_12] at h0 ⊢
    rw [usF]
    simp only [show ¬ (12 : Int) = 10 by decide, show ¬ (12 : Int) = 11 by decide, if_false, true_or, if_true]
    by_cases hl : l = 0
    · simp [hl]
    · rw [if_neg hl] at h0
      rw [if_neg hl, if_neg hl, List.mem_singleton]
      have hc := (leave_cl breakK tg l s (fun _ _ => true)).1 (cl_true h0)
      exact wd_leave hc.2 hk.tg n
  · rw [jS_13] at h0 ⊢
    rw [usF]
    simp only [show ¬ (13 : Int) = 10 by decide, show ¬ (13 : Int) = 11 by decide, if_false, or_true, if_true]
    by_cases hl : l = 0
    · simp [hl]
    · rw [if_neg hl] at h0
      rw [if_neg hl, if_neg hl, List.mem_singleton]
      have hc := (leave_cl contK tg l s (fun _ _ => true)).1 (cl_true h0)
      exact wd_leave hc.2 hk.tg n
  · rw [jS_var h, usF]
    have e2 : ¬ k = 10 ∧ ¬ k = 11 ∧ ¬ (k = 12 ∨ k = 13) ∧ in1 k = false ∧ in2 k = false := by rcases h with rfl | rfl <;> decide
    simp only [e2, if_false, Bool.or_false, Bool.false_eq_true, List.not_mem_nil, or_false]
    exact wd_var s n
  · rw [jS_oth h, usF]
    simp [h.a, h.b, h.c, h.d, h.e, h.f]
mutual
theorem jS_us : ∀ x : Fl, UsF x
  | .mk k l d b => usF_of k l d b (jB_us b) (jI_us b)
theorem jI_us : ∀ b : List (List Fl), UsI b
  | (x :: xs) :: ys => by
    intro gl tg cur s hk h0 n
    rw [jI] at h0 ⊢
    rw [usI]
    exact jS_us x gl tg cur s hk h0 n
  | [] => by
    intro gl tg cur s hk h0 n
    rw [jI, usI]; simp
  | [] :: ys => by
    intro gl tg cur s hk h0 n
    rw [jI, usI]; simp
theorem jB_us : ∀ b : List (List Fl), UsB b
  | [] => by
    intro gl tg cur s hk h0 n
    rw [jB, usB]; simp
  | y :: ys => by
    intro gl tg cur s hk h0 n
    rw [jB] at h0 ⊢
    rw [usB, List.mem_append]
    have hr : (jL (s.labs ++ gl) (cur.toList ++ tg) y (inL s)).rep = 0 := ((jB_ch ys gl tg cur _).1 (fun _ _ => true)).1 (cl_true h0) |>.1.rep
    have hkk := (jL_ch y (s.labs ++ gl) (cur.toList ++ tg) (inL s)).2 hr
    have hke : (outL s (jL (s.labs ++ gl) (cur.toList ++ tg) y (inL s))).keys = s.keys ++ dlL y := hkk
    have hk2 : Kn gl tg cur (outL s (jL (s.labs ++ gl) (cur.toList ++ tg) y (inL s))) := hk.up (bl := []) hke (by rw [List.append_nil]; rfl) (fun n hn => by cases hn) (fun t ht => by rw [hke]; exact List.mem_append_left _ (hk.cur t ht))
    rw [jB_us ys gl tg cur _ hk2 h0 n, wd_out, jL_us y (s.labs ++ gl) (cur.toList ++ tg) (inL s) hk.inn hr n, ← wd_in s n]
    constructor
    · rintro (((h | h) | h) | h)
      · exact .inl (.inl h)
      · exact .inr (.inl h)
      · exact .inl (.inr h)
      · exact .inr (.inr h)
    · rintro ((h | h) | (h | h))
      · exact .inl (.inl (.inl h))
      · exact .inl (.inr h)
      · exact .inl (.inl (.inr h))
      · exact .inr h
theorem jL_us : ∀ y : List Fl, UsL y
  | [] => by
    intro gl tg s hk h0 n
    rw [jL, usL]; simp
  | x :: xs => by
    intro gl tg s hk h0 n
    rw [jL] at h0 ⊢
    rw [usL, List.mem_append]
    have hr : (jS gl tg x none s).rep = 0 := ((jL_ch xs gl tg _).1 (fun _ => true)).1 (cl_true h0) |>.1.rep
    obtain ⟨k1, k2⟩ := (jS_ch x gl tg none s).2 hr
    have hk2 : Kn gl tg none (jS gl tg x none s) := hk.up k1 k2 (fun n hn => by rw [k1]; exact List.mem_append_right _ (lbF_dl x n hn)) (fun t ht => by cases ht)
    rw [jL_us xs gl tg _ hk2 h0 n, jS_us x gl tg none s hk hr n, or_assoc]
end
/-- What the code answers. -/
theorem jumpsJ_iff (l : List Fl) : jumpsJ l = true ↔ (okL (fun _ => false) (fun _ => false) l = true ∧ lvL [] l = true ∧ (dlL l).Nodup ∧ ∀ n ∈ dlL l, n ∈ usL l) := by
  rw [jumpsJ_ok]
  have hch := (jL_ch l [] [] j0).1 (fun _ => false)
  have hfr : Fr j0 (dlL l) ↔ (dlL l).Nodup := by
    unfold Fr JS.keys j0; simp
  have hG : GS [] j0 = fun _ => false := by funext n; unfold GS j0; simp
  have hC0 : Cl j0 (rsL (fun _ => false) l) := ⟨rfl, fun f hf => by cases hf⟩
  rw [hfr, hG] at hch
  have hW : ∀ n, ¬ Wd j0 n := by
    intro n h
    unfold Wd j0 at h
    simp at h
  have hkn : Kn [] [] none j0 := ⟨fun n h => (by cases h), fun n h => (by cases h), fun n h => (by cases h), fun t h => (by cases h)⟩
  have hok : (jL [] [] l j0).ok = true ↔ (Cl (jL [] [] l j0) (fun _ _ => false) ∧ ∀ e ∈ (jL [] [] l j0).ds, e.2 = true) := by
    unfold JS.ok Cl
    simp only [Bool.and_eq_true, beq_iff_eq, List.isEmpty_iff, List.all_eq_true]
    constructor
    · rintro ⟨⟨h1, h2⟩, h3⟩
      exact ⟨⟨h1, fun f hf => by rw [h2] at hf; cases hf⟩, h3⟩
    · rintro ⟨⟨h1, h2⟩, h3⟩
      refine ⟨⟨h1, ?_⟩, h3⟩
      cases hf : (jL [] [] l j0).fwd with
      | nil => rfl
      | cons f r =>
        have := h2 f (by rw [hf]; simp)
        cases this
  rw [hok, hch]
  constructor
  · rintro ⟨⟨h0, h1, h2, h3⟩, h4⟩
    refine ⟨h1, h2, h3, fun n hn => ?_⟩
    have hc := hch.2 ⟨h0, h1, h2, h3⟩
    have hk := (jL_ch l [] [] j0).2 hc.rep
    have hu := jL_us l [] [] j0 hkn hc.rep n
    have hn2 : n ∈ (jL [] [] l j0).keys := by rw [hk]; exact List.mem_append_right _ hn
    obtain ⟨e, he, rfl⟩ := List.mem_map.1 hn2
    have := h4 e he
    have hw : Wd (jL [] [] l j0) e.1 := .inl (by rw [← this]; exact he)
    exact (hu.1 hw).resolve_left (hW _)
  · rintro ⟨h1, h2, h3, h4⟩
    have hc := hch.2 ⟨hC0, h1, h2, h3⟩
    refine ⟨⟨hC0, h1, h2, h3⟩, fun e he => ?_⟩
    have hk := (jL_ch l [] [] j0).2 hc.rep
    have hk' : (jL [] [] l j0).ds.map Prod.fst = dlL l := hk
    have hn : e.1 ∈ dlL l := by rw [← hk']; exact List.mem_map.2 ⟨e, he, rfl⟩
    have hu := (jL_us l [] [] j0 hkn hc.rep e.1).2 (.inr (h4 _ hn))
    have hd : ((jL [] [] l j0).ds.map Prod.fst).Nodup := by rw [hk']; exact h3
    have hin : (e.1, true) ∈ (jL [] [] l j0).ds := by
      rcases hu with hu | ⟨fl, hu⟩
      · exact hu
      · have := hc.2 _ hu; cases this
    -- one entry a label
    have : ∀ (ds : List (Int × Bool)), (ds.map Prod.fst).Nodup → e ∈ ds → (e.1, true) ∈ ds → e.2 = true := by
      intro ds
      induction ds with
      | nil => intro _ h; cases h
      | cons a ds ih =>
        intro hnd h1 h2
        rw [List.map_cons, List.nodup_cons] at hnd
        rcases List.mem_cons.1 h1 with rfl | h1
        · rcases List.mem_cons.1 h2 with h2 | h2
          · rw [← h2]
          · exact absurd (List.mem_map.2 ⟨_, h2, rfl⟩) hnd.1
        · rcases List.mem_cons.1 h2 with h2 | h2
          · exact absurd (List.mem_map.2 ⟨_, h1, by rw [← h2]⟩) hnd.1
          · exact ih hnd.2 h1 h2
    exact this _ hd he hin
end Go.Proofs.YtpodifbgfcclbaaGreatDoor

/- What the rules for labels and jumps reckon, in plain Lean, and that the code answers the same. -/
set_option linter.unusedSimpArgs false
set_option linter.unusedVariables false
namespace Go.Proofs.YtpodifbgfcclbaaGreatDoor

abbrev Pth := List (Nat × Nat)
def lblF : Fl → Int | .mk _ l _ _ => l
mutual
/-- A statement without the labels in front of it. -/
def inF : Fl → Fl
  | .mk k l d b => if k = 10 then inI b else .mk k l d b
def inI : List (List Fl) → Fl
  | (x :: _) :: _ => inF x
  | [] => emptyFl
  | [] :: _ => emptyFl
end
/-- The lists within a statement. -/
def bel : Fl → List (List Fl)
  | .mk k _ _ b => if in1 k || in2 k then b else []
/-- The list at a path. -/
def getL (root : List Fl) : Pth → Option (List Fl)
  | [] => some root
  | (i, k) :: p => (getL root p).bind fun xs => (xs[i]?).bind fun x => (bel (inF x))[k]?
mutual
/-- All declarations, in the order in which they are met: the label, its list, its place. -/
def dpF (p : Pth) (i : Nat) : Fl → List (Int × Pth × Nat)
  | .mk k l _ b => if k = 10 then (if l = -1 then dpI p i b else (l, p, i) :: dpI p i b) else if in1 k || in2 k then dpB p i 0 b else []
def dpI (p : Pth) (i : Nat) : List (List Fl) → List (Int × Pth × Nat)
  | (x :: _) :: _ => dpF p i x
  | [] => []
  | [] :: _ => []
def dpB (p : Pth) (i : Nat) : Nat → List (List Fl) → List (Int × Pth × Nat)
  | _, [] => []
  | k, y :: ys => dpL ((i, k) :: p) 0 y ++ dpB p i (k + 1) ys
def dpL (p : Pth) : Nat → List Fl → List (Int × Pth × Nat)
  | _, [] => []
  | i, x :: xs => dpF p i x ++ dpL p (i + 1) xs
end
/-- Where a label is declared last. -/
def whr (D : List (Int × Pth × Nat)) (n : Int) : Option (Pth × Nat) := (D.reverse.find? fun e => e.1 == n).map Prod.snd
/-- The place at which a goto at a list leaves another list around it. -/
def clm (to : Pth) : Pth → Nat → Option Nat
  | [], at' => if [] = to then some at' else none
  | (i, k) :: p, at' => if (i, k) :: p = to then some at' else clm to p i
def noDec (xs : List Fl) (lo hi : Nat) : Bool := ((xs.drop lo).take (hi - lo)).all fun x => !(decF x)
def jOk (D : List (Int × Pth × Nat)) (root : List Fl) (n : Int) (p : Pth) (at' : Nat) : Bool :=
  match whr D n with
  | none => false
  | some (to, a) => match clm to p at' with
    | none => false
    | some i => match getL root to with
      | some xs => noDec xs (i + 1) a
      | none => false
mutual
/-- Are the gotos fine? -/
def gtF (D : List (Int × Pth × Nat)) (root : List Fl) (p : Pth) (i : Nat) : Fl → Bool
  | .mk k l _ b => if k = 10 then gtI D root p i b else if k = 11 then jOk D root l p i else if in1 k || in2 k then gtB D root p i 0 b else true
def gtI (D : List (Int × Pth × Nat)) (root : List Fl) (p : Pth) (i : Nat) : List (List Fl) → Bool
  | (x :: _) :: _ => gtF D root p i x
  | [] => true
  | [] :: _ => true
def gtB (D : List (Int × Pth × Nat)) (root : List Fl) (p : Pth) (i : Nat) : Nat → List (List Fl) → Bool
  | _, [] => true
  | k, y :: ys => gtL D root ((i, k) :: p) 0 y && gtB D root p i (k + 1) ys
def gtL (D : List (Int × Pth × Nat)) (root : List Fl) (p : Pth) : Nat → List Fl → Bool
  | _, [] => true
  | i, x :: xs => gtF D root p i x && gtL D root p (i + 1) xs
end
def isLp (k : Int) : Bool := k == 3 || k == 4 || k == 5
/-- Does a break or a continue name a statement around it? -/
def lvS (ar : List (Int × Bool)) (k l : Int) : Bool := ar.any fun t => t.1 == l && !(l == -1) && (t.2 || k == 12)
mutual
/-- Are the breaks and continues fine? -/
def lsF (ar : List (Int × Bool)) : Int → Fl → Bool
  | lb, .mk k l _ b => if k = 10 then lsI ar l b else if k = 12 ∨ k = 13 then l == 0 || lvS ar k l else if isLp k then lsB (ar ++ [(lb, true)]) b else if in2 k then lsB (ar ++ [(lb, false)]) b else if in1 k then lsB ar b else true
def lsI (ar : List (Int × Bool)) : Int → List (List Fl) → Bool
  | lb, (x :: _) :: _ => lsF ar lb x
  | _, [] => true
  | _, [] :: _ => true
def lsB (ar : List (Int × Bool)) : List (List Fl) → Bool
  | [] => true
  | y :: ys => lsL ar y && lsB ar ys
def lsL (ar : List (Int × Bool)) : List Fl → Bool
  | [] => true
  | x :: xs => lsF ar 0 x && lsL ar xs
end
/-- What the rules say. -/
def jumpsS (l : List Fl) : Bool := decide (dlL l).Nodup && gtL (dpL [] 0 l) l [] 0 l && lsL [] l && (dlL l).all fun n => (usL l).contains n

/-! The labels in front of a statement, and what is behind them. -/
mutual
theorem dpF_eq (p : Pth) (i : Nat) : ∀ x : Fl, dpF p i x = (lbF x).map (fun n => (n, p, i)) ++ dpB p i 0 (bel (inF x))
  | .mk k l d b => by
    rw [dpF, lbF, inF]
    by_cases h : k = 10
    · simp only [if_pos h]
      by_cases hl : l = -1
      · simp only [if_pos hl]; exact dpI_eq p i b
      · simp only [if_neg hl, List.map_cons, List.cons_append]; rw [dpI_eq p i b]
    · simp only [if_neg h, bel, List.map_nil, List.nil_append]
      split
      · rfl
      · rw [dpB]
theorem dpI_eq (p : Pth) (i : Nat) : ∀ b : List (List Fl), dpI p i b = (lbI b).map (fun n => (n, p, i)) ++ dpB p i 0 (bel (inI b))
  | (x :: xs) :: ys => by rw [dpI, lbI, inI]; exact dpF_eq p i x
  | [] => by rw [dpI, lbI, inI]; simp [emptyFl, bel, in1, in2, dpB]
  | [] :: ys => by rw [dpI, lbI, inI]; simp [emptyFl, bel, in1, in2, dpB]
end
mutual
theorem dlF_eq : ∀ x : Fl, dlF x = lbF x ++ dlB (bel (inF x))
  | .mk k l d b => by
    rw [dlF, lbF, inF]
    by_cases h : k = 10
    · simp only [if_pos h]
      by_cases hl : l = -1
      · simp only [if_pos hl]; exact dlI_eq b
      · simp only [if_neg hl, List.cons_append]; rw [dlI_eq b]
    · simp only [if_neg h, bel, List.nil_append]
      split
      · rfl
      · rw [dlB]
theorem dlI_eq : ∀ b : List (List Fl), dlI b = lbI b ++ dlB (bel (inI b))
  | (x :: xs) :: ys => by rw [dlI, lbI, inI]; exact dlF_eq x
  | [] => by rw [dlI, lbI, inI]; simp [emptyFl, bel, in1, in2, dlB]
  | [] :: ys => by rw [dlI, lbI, inI]; simp [emptyFl, bel, in1, in2, dlB]
end
mutual
theorem decF_in : ∀ x : Fl, decF x = ((inF x).kind == 15 || (inF x).kind == 16)
  | .mk k l d b => by
    rw [decF, inF]
    by_cases h : k = 10
    · simp only [if_pos h]; exact decI_in b
    · simp only [if_neg h]; rfl
theorem decI_in : ∀ b : List (List Fl), decI b = ((inI b).kind == 15 || (inI b).kind == 16)
  | (x :: xs) :: ys => by rw [decI, inI]; exact decF_in x
  | [] => by rw [decI, inI]; rfl
  | [] :: ys => by rw [decI, inI]; rfl
end
mutual
theorem gtF_in (D : List (Int × Pth × Nat)) (root : List Fl) (p : Pth) (i : Nat) : ∀ x : Fl, gtF D root p i x = (if (inF x).kind = 11 then jOk D root (lblF (inF x)) p i else gtB D root p i 0 (bel (inF x)))
  | .mk k l d b => by
    rw [gtF, inF]
    by_cases h : k = 10
    · simp only [if_pos h]; exact gtI_in D root p i b
    · simp only [if_neg h, Fl.kind, lblF, bel]
      split
      · rfl
      · split
        · rfl
        · rw [gtB]
theorem gtI_in (D : List (Int × Pth × Nat)) (root : List Fl) (p : Pth) (i : Nat) : ∀ b : List (List Fl), gtI D root p i b = (if (inI b).kind = 11 then jOk D root (lblF (inI b)) p i else gtB D root p i 0 (bel (inI b)))
  | (x :: xs) :: ys => by rw [gtI, inI]; exact gtF_in D root p i x
  | [] => by rw [gtI, inI]; simp [emptyFl, bel, in1, in2, gtB, Fl.kind]
  | [] :: ys => by rw [gtI, inI]; simp [emptyFl, bel, in1, in2, gtB, Fl.kind]
end
mutual
theorem names_F (p : Pth) (i : Nat) : ∀ x : Fl, (dpF p i x).map Prod.fst = dlF x
  | .mk k l d b => by
    rw [dpF, dlF]
    by_cases h : k = 10
    · simp only [if_pos h]
      by_cases hl : l = -1
      · simp only [if_pos hl]; exact names_I p i b
      · simp only [if_neg hl, List.map_cons]; rw [names_I p i b]
    · simp only [if_neg h]
      split
      · exact names_B p i 0 b
      · rfl
theorem names_I (p : Pth) (i : Nat) : ∀ b : List (List Fl), (dpI p i b).map Prod.fst = dlI b
  | (x :: xs) :: ys => by rw [dpI, dlI]; exact names_F p i x
  | [] => by rw [dpI, dlI]; rfl
  | [] :: ys => by rw [dpI, dlI]; rfl
theorem names_B (p : Pth) (i : Nat) : ∀ (k : Nat) (b : List (List Fl)), (dpB p i k b).map Prod.fst = dlB b
  | _, [] => by rw [dpB, dlB]; rfl
  | k, y :: ys => by rw [dpB, dlB, List.map_append, names_L _ 0 y, names_B p i (k + 1) ys]
theorem names_L (p : Pth) : ∀ (i : Nat) (y : List Fl), (dpL p i y).map Prod.fst = dlL y
  | _, [] => by rw [dpL, dlL]; rfl
  | i, x :: xs => by rw [dpL, dlL, List.map_append, names_F p i x, names_L p (i + 1) xs]
end

/-! Where labels are declared. -/
theorem mem_dpB (p : Pth) (i : Nat) (e : Int × Pth × Nat) : ∀ (b : List (List Fl)) (k : Nat), e ∈ dpB p i k b ↔ ∃ j y, b[j]? = some y ∧ e ∈ dpL ((i, k + j) :: p) 0 y
  | [], k => by rw [dpB]; simp
  | y :: ys, k => by
    rw [dpB, List.mem_append, mem_dpB p i e ys (k + 1)]
    constructor
    · rintro (h | ⟨j, z, h1, h2⟩)
      · exact ⟨0, y, rfl, h⟩
      · exact ⟨j + 1, z, by simpa using h1, by rw [show k + (j + 1) = k + 1 + j by omega]; exact h2⟩
    · rintro ⟨j, z, h1, h2⟩
      cases j with
      | zero => simp at h1; subst h1; exact .inl h2
      | succ j => exact .inr ⟨j, z, by simpa using h1, by rw [show k + 1 + j = k + (j + 1) by omega]; exact h2⟩
theorem mem_dpL (p : Pth) (e : Int × Pth × Nat) : ∀ (xs : List Fl) (i : Nat), e ∈ dpL p i xs ↔ ∃ a x, xs[a]? = some x ∧ ((e.2 = (p, i + a) ∧ e.1 ∈ lbF x) ∨ ∃ j y, (bel (inF x))[j]? = some y ∧ e ∈ dpL ((i + a, j) :: p) 0 y)
  | [], i => by rw [dpL]; simp
  | x :: xs, i => by
    rw [dpL, List.mem_append, mem_dpL p e xs (i + 1), dpF_eq, List.mem_append, mem_dpB]
    constructor
    · rintro ((h | h) | ⟨a, z, h1, h2⟩)
      · obtain ⟨n, hn, rfl⟩ := List.mem_map.1 h
        exact ⟨0, x, rfl, .inl ⟨rfl, hn⟩⟩
      · obtain ⟨j, y, h1, h2⟩ := h
        exact ⟨0, x, rfl, .inr ⟨j, y, h1, by rw [show 0 + j = j by omega] at h2; exact h2⟩⟩
      · refine ⟨a + 1, z, by simpa using h1, ?_⟩
        rw [show i + (a + 1) = i + 1 + a by omega]; exact h2
    · rintro ⟨a, z, h1, h2⟩
      cases a with
      | zero =>
        simp at h1; subst h1
        rcases h2 with ⟨h2, h3⟩ | ⟨j, y, h2, h3⟩
        · refine .inl (.inl (List.mem_map.2 ⟨e.1, h3, ?_⟩))
          rw [Nat.add_zero] at h2
          rw [← h2]
        · refine .inl (.inr ⟨j, y, h2, ?_⟩)
          rw [show 0 + j = j by omega]; exact h3
      | succ a =>
        refine .inr ⟨a, z, by simpa using h1, ?_⟩
        rw [show i + 1 + a = i + (a + 1) by omega]; exact h2
mutual
theorem inF_rk : ∀ x : Fl, rk (inF x) ≤ rk x
  | .mk k l d b => by
    rw [inF]
    by_cases h : k = 10
    · rw [if_pos h, rk_mk]; exact inI_rk b
    · rw [if_neg h]; exact Nat.le_refl _
theorem inI_rk : ∀ b : List (List Fl), rk (inI b) ≤ rkB b + 1
  | (x :: xs) :: ys => by rw [inI, rkB, rkL]; have := inF_rk x; omega
  | [] => by rw [inI, emptyFl, rk_mk, rkB]; omega
  | [] :: ys => by rw [inI, emptyFl, rk_mk, rkB]; omega
end
theorem bel_rk (x : Fl) : rkB (bel (inF x)) < rk x := by
  have h := inF_rk x
  have h2 : ∀ y : Fl, rkB (bel y) < rk y := by
    intro y
    cases y with
    | mk k l d b =>
      rw [bel, rk_mk]
      split
      · omega
      · rw [rkB]; omega
  have := h2 (inF x)
  omega
theorem dp_suf : ∀ (n : Nat) (xs : List Fl), rkL xs < n → ∀ (p : Pth) (i : Nat) (e : Int × Pth × Nat), e ∈ dpL p i xs → ∃ r, e.2.1 = r ++ p
  | 0, xs, h, _, _, _, _ => by omega
  | n + 1, xs, h, p, i, e, he => by
    obtain ⟨a, x, h1, h2⟩ := (mem_dpL p e xs i).1 he
    rcases h2 with ⟨h2, _⟩ | ⟨j, y, h2, h3⟩
    · exact ⟨[], by rw [h2]; rfl⟩
    · have q1 := rkL_at h1
      have q2 := rkB_at h2
      have q3 : rkB (bel (inF x)) < rk x := bel_rk x
      obtain ⟨r, hr⟩ := dp_suf n y (by omega) _ _ _ h3
      exact ⟨r ++ [(i + a, j)], by rw [hr]; simp⟩
theorem dp_sufL {xs : List Fl} {p : Pth} {i : Nat} {e : Int × Pth × Nat} (h : e ∈ dpL p i xs) : ∃ r, e.2.1 = r ++ p := dp_suf _ xs (Nat.lt_succ_self _) p i e h
theorem app_cons_inj {α : Type} {r r' : List α} {a b : α} {p : List α} (h : r ++ a :: p = r' ++ b :: p) : a = b ∧ r = r' := by
  have h1 : (r ++ [a]) ++ p = (r' ++ [b]) ++ p := by simpa using h
  have h2 := List.append_cancel_right h1
  have h3 := List.append_inj' h2 rfl
  exact ⟨by simpa using h3.2, h3.1⟩
/-- What is declared at or below the list at a path. -/
theorem dp_at (root : List Fl) : ∀ (p : Pth) (xs : List Fl), getL root p = some xs → ∀ (n : Int) (r : Pth) (a : Nat), (n, r ++ p, a) ∈ dpL [] 0 root ↔ (n, r ++ p, a) ∈ dpL p 0 xs
  | [], xs, h, n, r, a => by
    rw [getL] at h
    cases h
    exact Iff.rfl
  | (i, k) :: p, ys, h, n, r, a => by
    rw [getL] at h
    cases hp : getL root p with
    | none => rw [hp] at h; cases h
    | some xs =>
      rw [hp] at h
      cases hx : xs[i]? with
      | none => simp [hx] at h
      | some x =>
        have hy : (bel (inF x))[k]? = some ys := by simpa [hx] using h
        have ih := dp_at root p xs hp n (r ++ [(i, k)]) a
        rw [List.append_assoc, List.singleton_append] at ih
        rw [ih, mem_dpL]
        constructor
        · rintro ⟨a', x', h1, h2⟩
          rcases h2 with ⟨h2, _⟩ | ⟨j, y, h2, h3⟩
          · have := congrArg (fun q : Pth × Nat => q.1.length) h2
            simp at this
            omega
          · obtain ⟨r', hr⟩ := dp_sufL h3
            obtain ⟨e1, e2⟩ := app_cons_inj hr
            simp only [Prod.mk.injEq, Nat.zero_add] at e1
            obtain ⟨rfl, rfl⟩ := e1
            rw [hx] at h1
            cases h1
            rw [hy] at h2
            cases h2
            rw [Nat.zero_add] at h3
            exact h3
        · intro h3
          exact ⟨i, x, hx, .inr ⟨k, ys, hy, by rw [Nat.zero_add]; exact h3⟩⟩
theorem dp_own {root : List Fl} {p : Pth} {xs : List Fl} (h : getL root p = some xs) (n : Int) (a : Nat) : (n, p, a) ∈ dpL [] 0 root ↔ ∃ x, xs[a]? = some x ∧ n ∈ lbF x := by
  have := dp_at root p xs h n [] a
  rw [List.nil_append] at this
  rw [this, mem_dpL]
  constructor
  · rintro ⟨a', x', h1, h2⟩
    rcases h2 with ⟨h2, h3⟩ | ⟨j, y, h2, h3⟩
    · simp only [Prod.mk.injEq, true_and, Nat.zero_add] at h2
      subst h2
      exact ⟨x', h1, h3⟩
    · obtain ⟨r', hr⟩ := dp_sufL h3
      have := congrArg List.length hr
      simp at this
      omega
  · rintro ⟨x, h1, h2⟩
    exact ⟨a, x, h1, .inl ⟨by rw [Nat.zero_add], h2⟩⟩
theorem whr_iff {D : List (Int × Pth × Nat)} (hD : (D.map Prod.fst).Nodup) (n : Int) (q : Pth × Nat) : whr D n = some q ↔ (n, q) ∈ D := by
  have hR : (D.reverse.map Prod.fst).Nodup := by rw [List.map_reverse]; exact (List.reverse_perm _).nodup_iff.2 hD
  have hm : ∀ e, e ∈ D ↔ e ∈ D.reverse := fun e => List.mem_reverse.symm
  rw [hm]
  unfold whr
  generalize D.reverse = E at hR
  induction E with
  | nil => simp
  | cons e E ih =>
    rw [List.map_cons, List.nodup_cons] at hR
    rw [List.find?_cons]
    by_cases he : e.1 = n
    · simp only [he, beq_self_eq_true, Option.map_some, Option.some.injEq, List.mem_cons]
      constructor
      · rintro rfl; exact .inl (by rw [← he])
      · rintro (h | h)
        · rw [← h]
        · exact absurd (List.mem_map.2 ⟨_, h, rfl⟩) (by rw [← he]; exact hR.1)
    · have : (e.1 == n) = false := by simpa using he
      simp only [this, List.mem_cons]
      refine Iff.trans (ih hR.2) ?_
      constructor
      · exact .inr
      · rintro (h | h)
        · exact absurd (by rw [← h]) he
        · exact h
theorem whr_none {D : List (Int × Pth × Nat)} (n : Int) (h : ∀ q, (n, q) ∉ D) : whr D n = none := by
  unfold whr
  rw [Option.map_eq_none_iff, List.find?_eq_none]
  intro e he h2
  simp only [beq_iff_eq] at h2
  exact h e.2 (by rw [← h2]; exact List.mem_reverse.1 he)

/-! Gotos. -/
def exJ (D : List (Int × Pth × Nat)) (root : List Fl) (n : Int) : Pth → Bool
  | [] => false
  | (i, _) :: p => jOk D root n p i
theorem jOk_up {D : List (Int × Pth × Nat)} {root : List Fl} {n : Int} {p : Pth} {i : Nat} (h : ∀ a, whr D n ≠ some (p, a)) : jOk D root n p i = exJ D root n p := by
  unfold jOk
  cases hw : whr D n with
  | none =>
    cases p with
    | nil => rfl
    | cons e p => obtain ⟨j, k⟩ := e; unfold exJ jOk; rw [hw]
  | some q =>
    obtain ⟨to, a⟩ := q
    have hne : p ≠ to := by rintro rfl; exact h a hw
    cases p with
    | nil => simp only [clm, if_neg hne, exJ]
    | cons e p => obtain ⟨j, k⟩ := e; simp only [clm, if_neg hne, exJ]; unfold jOk; rw [hw]
theorem jOk_own {D : List (Int × Pth × Nat)} {root : List Fl} {n : Int} {p : Pth} {i a : Nat} {xs : List Fl} (h : whr D n = some (p, a)) (hx : getL root p = some xs) : jOk D root n p i = noDec xs (i + 1) a := by
  unfold jOk
  rw [h]
  have : clm p p i = some i := by
    cases p with
    | nil => simp [clm]
    | cons e p => obtain ⟨j, k⟩ := e; simp [clm]
  simp only [this, hx]
theorem rsL_none (R : Int → Bool) (n : Int) : ∀ (xs : List Fl) (fl : Bool), (∀ x ∈ xs, n ∉ lbF x) → rsL R xs n fl = R n
  | [], fl, h => by rw [rsL]
  | x :: xs, fl, h => by
    have h1 : (lbF x).contains n = false := by rw [Bool.eq_false_iff, ne_eq, List.contains_iff_mem]; exact h x (by simp)
    rw [rsL, h1]
    exact rsL_none R n xs _ fun y hy => h y (by simp [hy])
theorem rsL_own (R : Int → Bool) (n : Int) : ∀ (xs : List Fl) (j : Nat) (fl : Bool) (x : Fl), xs[j]? = some x → n ∈ lbF x → (∀ j' x', j' < j → xs[j']? = some x' → n ∉ lbF x') → rsL R xs n fl = (!fl && (xs.take j).all fun x => !(decF x))
  | [], j, fl, x, h, _, _ => by simp at h
  | y :: xs, 0, fl, x, h, h2, _ => by
    simp at h; subst h
    rw [rsL, List.contains_iff_mem.2 h2]; simp
  | y :: xs, j + 1, fl, x, h, h2, h3 => by
    have h1 : (lbF y).contains n = false := by rw [Bool.eq_false_iff, ne_eq, List.contains_iff_mem]; exact h3 0 y (by omega) rfl
    rw [rsL, h1]
    simp only [Bool.false_eq_true, if_false]
    rw [rsL_own R n xs j _ x (by simpa using h) h2 fun j' x' hj hx => h3 (j' + 1) x' (by omega) (by simpa using hx)]
    simp [Bool.and_assoc]
/-- What is known about gotos at the list at a path. -/
structure GH (D : List (Int × Pth × Nat)) (root : List Fl) (p : Pth) (G R : Int → Bool) : Prop where
  out : ∀ n, (∀ a, (n, p, a) ∉ D) → exJ D root n p = (G n || R n)
  back : ∀ n, G n = true → ∃ q a, (n, q, a) ∈ D ∧ q.length < p.length
def lbT (xs : List Fl) (i : Nat) (n : Int) : Bool := (xs.take i).any fun x => (lbF x).contains n
section
variable {root : List Fl}
theorem gt_at (hD : ((dpL [] 0 root).map Prod.fst).Nodup) {p : Pth} {xs : List Fl} (hx : getL root p = some xs) {G R : Int → Bool} (h : GH (dpL [] 0 root) root p G R) {i : Nat} (hi : i < xs.length) (n : Int) :
    jOk (dpL [] 0 root) root n p i = (G n || lbT xs (i + 1) n || rsL R (xs.drop (i + 1)) n false) := by
  by_cases hn : ∃ a, (n, p, a) ∈ dpL [] 0 root
  · obtain ⟨a, ha⟩ := hn
    obtain ⟨x, hxa, hnx⟩ := (dp_own hx n a).1 ha
    have hw := (whr_iff hD n (p, a)).2 ha
    have hG : G n = false := by
      rw [Bool.eq_false_iff]
      intro hg
      obtain ⟨q, a', h1, h2⟩ := h.back n hg
      have h3 := (whr_iff hD n (q, a')).2 h1
      rw [hw] at h3
      simp only [Option.some.injEq, Prod.mk.injEq] at h3
      rw [← h3.1] at h2
      omega
    have huni : ∀ a' x', xs[a']? = some x' → n ∈ lbF x' → a' = a := by
      intro a' x' h1 h2
      have h3 := (whr_iff hD n (p, a')).2 ((dp_own hx n a').2 ⟨x', h1, h2⟩)
      rw [hw] at h3
      simp only [Option.some.injEq, Prod.mk.injEq, true_and] at h3
      exact h3.symm
    have hal : a < xs.length := (List.getElem?_eq_some_iff.1 hxa).1
    rw [jOk_own hw hx, hG, Bool.false_or]
    by_cases hai : a < i + 1
    · have h1 : lbT xs (i + 1) n = true := by
        unfold lbT
        rw [List.any_eq_true]
        exact ⟨x, List.mem_iff_getElem?.2 ⟨a, by rw [List.getElem?_take, if_pos hai]; exact hxa⟩, List.contains_iff_mem.2 hnx⟩
      rw [h1]
      unfold noDec
      rw [show a - (i + 1) = 0 by omega]
      simp
    · have h1 : lbT xs (i + 1) n = false := by
        unfold lbT
        rw [Bool.eq_false_iff]
        intro h1
        rw [List.any_eq_true] at h1
        obtain ⟨y, hy, hny⟩ := h1
        obtain ⟨a', ha'⟩ := List.mem_iff_getElem?.1 hy
        rw [List.getElem?_take] at ha'
        split at ha'
        · have := huni a' y ha' (List.contains_iff_mem.1 hny)
          omega
        · cases ha'
      rw [h1, Bool.false_or, rsL_own R n (xs.drop (i + 1)) (a - (i + 1)) false x (by rw [List.getElem?_drop, show i + 1 + (a - (i + 1)) = a by omega]; exact hxa) hnx (by
        intro j' x' hj hxj hnj
        rw [List.getElem?_drop] at hxj
        have := huni _ _ hxj hnj
        omega)]
      rfl
  · have hn' : ∀ a, (n, p, a) ∉ dpL [] 0 root := fun a ha => hn ⟨a, ha⟩
    have hno : ∀ a x, xs[a]? = some x → n ∉ lbF x := fun a x h1 h2 => hn' a ((dp_own hx n a).2 ⟨x, h1, h2⟩)
    have h1 : lbT xs (i + 1) n = false := by
      unfold lbT
      rw [Bool.eq_false_iff]
      intro h1
      rw [List.any_eq_true] at h1
      obtain ⟨y, hy, hny⟩ := h1
      obtain ⟨a', ha'⟩ := List.mem_iff_getElem?.1 hy
      rw [List.getElem?_take] at ha'
      split at ha'
      · exact hno a' y ha' (List.contains_iff_mem.1 hny)
      · cases ha'
    rw [jOk_up (fun a ha => hn' a ((whr_iff hD n (p, a)).1 ha)), h.out n hn', h1, Bool.or_false, rsL_none R n _ false (by
      intro y hy
      obtain ⟨j, hj⟩ := List.mem_iff_getElem?.1 hy
      rw [List.getElem?_drop] at hj
      exact hno _ _ hj)]
def GtL (root : List Fl) (xs : List Fl) : Prop := ∀ (p : Pth) (G R : Int → Bool), getL root p = some xs → GH (dpL [] 0 root) root p G R → gtL (dpL [] 0 root) root p 0 xs = okL G R xs
/-- What is known about gotos at a statement. -/
structure GX (root : List Fl) (p : Pth) (i : Nat) (G R : Int → Bool) : Prop where
  at' : ∀ n, jOk (dpL [] 0 root) root n p i = (G n || R n)
  back : ∀ n, G n = true → ∃ q a, (n, q, a) ∈ dpL [] 0 root ∧ q.length ≤ p.length
def GtF (root : List Fl) (x : Fl) : Prop := ∀ (p : Pth) (i : Nat) (G Gx R : Int → Bool), GX root p i Gx R → (∀ n, Gx n = (G n || (lbF x).contains n)) → (∀ k y, (bel (inF x))[k]? = some y → getL root ((i, k) :: p) = some y) → gtF (dpL [] 0 root) root p i x = okF G R x
def GtI (root : List Fl) (b : List (List Fl)) : Prop := ∀ (p : Pth) (i : Nat) (G Gx R : Int → Bool), GX root p i Gx R → (∀ n, Gx n = (G n || (lbI b).contains n)) → (∀ k y, (bel (inI b))[k]? = some y → getL root ((i, k) :: p) = some y) → gtI (dpL [] 0 root) root p i b = okI G R b
def GtB (root : List Fl) (b : List (List Fl)) : Prop := ∀ (p : Pth) (i k : Nat) (G R : Int → Bool), GX root p i G R → (∀ j y, b[j]? = some y → getL root ((i, k + j) :: p) = some y) → gtB (dpL [] 0 root) root p i k b = okB G R b
theorem GX.inn (hD : ((dpL [] 0 root).map Prod.fst).Nodup) {p : Pth} {i k : Nat} {G R : Int → Bool} (h : GX root p i G R) : GH (dpL [] 0 root) root ((i, k) :: p) G R where
  out := fun n _ => h.at' n
  back := fun n hg => by
    obtain ⟨q, a, h1, h2⟩ := h.back n hg
    exact ⟨q, a, h1, by simp only [List.length_cons]; omega⟩
theorem gtF_of (hD : ((dpL [] 0 root).map Prod.fst).Nodup) (k l d : Int) (b : List (List Fl)) (hB : GtB root b) (hI : GtI root b) : GtF root (.mk k l d b) := by
  intro p i G Gx R hx hG hy
  rw [gtF, okF]
  by_cases h10 : k = 10
  · simp only [if_pos h10]
    rw [lbF] at hG
    rw [inF] at hy
    simp only [if_pos h10] at hG hy
    by_cases hl : l = -1
    · simp only [if_pos hl] at hG ⊢
      exact hI p i G Gx R hx hG hy
    · simp only [if_neg hl] at hG ⊢
      refine hI p i _ Gx R hx (fun n => ?_) hy
      rw [hG n, List.contains_cons, Bool.or_assoc]
  · simp only [if_neg h10]
    rw [lbF] at hG
    rw [inF] at hy
    simp only [if_neg h10, List.contains_nil, Bool.or_false] at hG hy
    obtain rfl : Gx = G := funext hG
    by_cases h11 : k = 11
    · simp only [if_pos h11]
      exact hx.at' l
    · simp only [if_neg h11]
      rw [bel] at hy
      split
      · next h =>
        rw [if_pos h] at hy
        exact hB p i 0 Gx R hx fun j y h => by rw [Nat.zero_add]; exact hy j y h
      · rfl
theorem gtL_suf (hD : ((dpL [] 0 root).map Prod.fst).Nodup) {p : Pth} {xs : List Fl} (hx : getL root p = some xs) {G R : Int → Bool} (h : GH (dpL [] 0 root) root p G R) (hF : ∀ x ∈ xs, GtF root x) :
    ∀ (m i : Nat), m + i = xs.length → gtL (dpL [] 0 root) root p i (xs.drop i) = okL (fun n => G n || lbT xs i n) R (xs.drop i)
  | 0, i, hm => by
    rw [List.drop_eq_nil_of_le (by omega), gtL, okL]
  | m + 1, i, hm => by
    have hi : i < xs.length := by omega
    have ih := gtL_suf hD hx h hF m (i + 1) (by omega)
    have hxi : xs[i]? = some xs[i] := List.getElem?_eq_getElem hi
    rw [List.drop_eq_getElem_cons hi, gtL, okL, ih]
    have hT : ∀ n, lbT xs (i + 1) n = (lbT xs i n || (lbF xs[i]).contains n) := by
      intro n
      unfold lbT
      rw [List.take_add_one, hxi, List.any_append]
      simp
    have e1 := hF xs[i] (List.getElem_mem hi) p i (fun n => G n || lbT xs i n) (fun n => G n || lbT xs (i + 1) n) (fun n => rsL R (xs.drop (i + 1)) n false)
      ⟨fun n => gt_at hD hx h hi n, fun n hn => by
        rw [Bool.or_eq_true] at hn
        rcases hn with hn | hn
        · obtain ⟨q, a, h1, h2⟩ := h.back n hn
          exact ⟨q, a, h1, by omega⟩
        · unfold lbT at hn
          rw [List.any_eq_true] at hn
          obtain ⟨y, hy, hny⟩ := hn
          obtain ⟨a', ha'⟩ := List.mem_iff_getElem?.1 hy
          rw [List.getElem?_take] at ha'
          split at ha'
          · exact ⟨p, a', (dp_own hx n a').2 ⟨y, ha', List.contains_iff_mem.1 hny⟩, Nat.le_refl _⟩
          · cases ha'⟩
      (fun n => by rw [hT n, Bool.or_assoc])
      (fun k y hy => by rw [getL, hx]; simp [hxi, hy])
    rw [e1]
    congr 2
    funext n
    rw [hT n, Bool.or_assoc]
theorem gtL_of (hD : ((dpL [] 0 root).map Prod.fst).Nodup) (y : List Fl) (hX : ∀ x ∈ y, GtF root x) : GtL root y := by
  intro p G R hx h
  have := gtL_suf hD hx h hX y.length 0 (by omega)
  rw [List.drop_zero] at this
  rw [this]
  congr 1
  funext n
  unfold lbT
  simp
mutual
theorem gtF_all (hD : ((dpL [] 0 root).map Prod.fst).Nodup) : ∀ x : Fl, GtF root x
  | .mk k l d b => gtF_of hD k l d b (gtB_all hD b) (gtI_all hD b)
theorem gtI_all (hD : ((dpL [] 0 root).map Prod.fst).Nodup) : ∀ b : List (List Fl), GtI root b
  | (x :: xs) :: ys => by
    intro p i G Gx R hx hG hy
    rw [gtI, okI]
    rw [lbI] at hG
    rw [inI] at hy
    exact gtF_all hD x p i G Gx R hx hG hy
  | [] => by
    intro p i G Gx R hx hG hy
    rw [gtI, okI]
  | [] :: ys => by
    intro p i G Gx R hx hG hy
    rw [gtI, okI]
theorem gtB_all (hD : ((dpL [] 0 root).map Prod.fst).Nodup) : ∀ b : List (List Fl), GtB root b
  | [] => by
    intro p i k G R hx hy
    rw [gtB, okB]
  | y :: ys => by
    intro p i k G R hx hy
    have h1 := gtL_of hD y (gtX_all hD y) ((i, k) :: p) G R (hy 0 y rfl) (hx.inn hD)
    have h2 := gtB_all hD ys p i (k + 1) G R hx fun j z hz => by
      rw [show k + 1 + j = k + (j + 1) by omega]; exact hy (j + 1) z (by simpa using hz)
    rw [gtB, okB, h1, h2]
theorem gtX_all (hD : ((dpL [] 0 root).map Prod.fst).Nodup) : ∀ (xs : List Fl), ∀ x ∈ xs, GtF root x
  | [], x, h => by cases h
  | y :: ys, x, h => by
    rcases List.mem_cons.1 h with h | h
    · rw [h]; exact gtF_all hD y
    · exact gtX_all hD ys x h
end
theorem gt_root (hD : (dlL root).Nodup) : gtL (dpL [] 0 root) root [] 0 root = okL (fun _ => false) (fun _ => false) root :=
  gtL_of (by rw [names_L]; exact hD) root (gtX_all (by rw [names_L]; exact hD) root) [] _ _ rfl ⟨fun n _ => rfl, fun n h => (by cases h)⟩
end

/-! Breaks and continues. -/
def TA (tg : List (Int × Int)) (ar : List (Int × Bool)) : Prop := ∀ n, n ≠ 0 → lvOk breakK tg n = lvS ar 12 n ∧ lvOk contK tg n = lvS ar 13 n
def FrA (tg : List (Int × Int)) (ar : List (Int × Bool)) (dl : List Int) : Prop := ∀ n ∈ dl, n ≠ 0 → n ≠ -1 → (∀ t ∈ ar, t.1 ≠ n) ∧ (∀ t ∈ tg, t.1 ≠ n)
def CuA (cur : Option (Int × Int)) (lb kd : Int) (tg : List (Int × Int)) (ar : List (Int × Bool)) : Prop :=
  (cur = none ∧ (lb = 0 ∨ lb = -1)) ∨ ∃ m kd', cur = some (m, kd') ∧ m ≠ -1 ∧ (m ≠ 0 → (∀ t ∈ ar, t.1 ≠ m) ∧ (∀ t ∈ tg, t.1 ≠ m)) ∧ ((lb = m ∧ kd' = kd) ∨ (lb = -1 ∧ kd' = 10))
def CuN (cur : Option (Int × Int)) (dl : List Int) : Prop := ∀ m kd, cur = some (m, kd) → m ≠ 0 → m ∉ dl
theorem FrA.sub {tg : List (Int × Int)} {ar : List (Int × Bool)} {dl dl' : List Int} (h : FrA tg ar dl) (hs : ∀ n ∈ dl', n ∈ dl) : FrA tg ar dl' := fun n hn => h n (hs n hn)
theorem lvOk_cons (ok : Int → Bool) (m kd : Int) (tg : List (Int × Int)) (n : Int) : lvOk ok ((m, kd) :: tg) n = if m = n then ok kd else lvOk ok tg n := by
  unfold lvOk
  rw [List.find?_cons]
  by_cases h : m = n
  · simp [h]
  · have : (m == n) = false := by simpa using h
    simp [this, h]
theorem lvOk_fresh (ok : Int → Bool) {tg : List (Int × Int)} {n : Int} (h : ∀ t ∈ tg, t.1 ≠ n) : lvOk ok tg n = false := by
  unfold lvOk
  have : tg.find? (fun t => t.1 == n) = none := by
    rw [List.find?_eq_none]; intro t ht; simpa using h t ht
  rw [this]
theorem lvS_fresh {ar : List (Int × Bool)} {n : Int} (k : Int) (h : ∀ t ∈ ar, t.1 ≠ n) : lvS ar k n = false := by
  unfold lvS
  rw [Bool.eq_false_iff]
  intro h2
  rw [List.any_eq_true] at h2
  obtain ⟨t, ht, h3⟩ := h2
  simp only [Bool.and_eq_true, beq_iff_eq] at h3
  exact h t ht h3.1.1
theorem lvS_app (ar : List (Int × Bool)) (lb : Int) (lp : Bool) (k n : Int) : lvS (ar ++ [(lb, lp)]) k n = (lvS ar k n || (lb == n && !(n == -1) && (lp || k == 12))) := by
  unfold lvS
  rw [List.any_append]
  simp
/-- A loop, a switch or a select with or without a label. -/
theorem TA.tgt {cur : Option (Int × Int)} {lb kd : Int} {tg : List (Int × Int)} {ar : List (Int × Bool)} (h : TA tg ar) (hc : CuA cur lb kd tg ar) (lp : Bool) (h1 : breakK kd = true) (h2 : contK kd = lp) : TA (cur.toList ++ tg) (ar ++ [(lb, lp)]) := by
  intro n hn
  rw [lvS_app, lvS_app]
  obtain ⟨q1, q2⟩ := h n hn
  rcases hc with ⟨rfl, hl⟩ | ⟨m, kd', rfl, hm, hf, hk⟩
  · have e : (lb == n && !(n == -1)) = false := by
      rcases hl with rfl | rfl
      · have : ((0 : Int) == n) = false := by simp; omega
        simp [this]
      · by_cases h3 : n = -1
        · simp [h3]
        · have : ((-1 : Int) == n) = false := by simp; omega
          simp [this]
    simp only [Option.toList, List.nil_append, e, Bool.false_and, Bool.or_false]
    exact ⟨q1, q2⟩
  · simp only [Option.toList, List.cons_append, List.nil_append, lvOk_cons]
    rcases hk with ⟨rfl, rfl⟩ | ⟨rfl, rfl⟩
    · by_cases hmn : lb = n
      · subst hmn
        have hf' := hf hn
        have e1 : (lb == -1) = false := by simpa using hm
        simp only [if_true, beq_self_eq_true, e1, lvS_fresh _ hf'.1, h1, h2]
        simp
      · have : (lb == n) = false := by simpa using hmn
        simp only [if_neg hmn, this, Bool.false_and, Bool.or_false]
        exact ⟨q1, q2⟩
    · have e1 : ((-1 : Int) == n && !(n == -1)) = false := by
        by_cases h3 : n = -1
        · simp [h3]
        · have : ((-1 : Int) == n) = false := by simp; omega
          simp [this]
      simp only [e1, Bool.false_and, Bool.or_false]
      by_cases hmn : m = n
      · subst hmn
        have hf' := hf hn
        simp only [if_true, lvS_fresh _ hf'.1]
        decide
      · simp only [if_neg hmn]
        exact ⟨q1, q2⟩
/-- A block or an if with or without a label. -/
theorem TA.blk {cur : Option (Int × Int)} {lb kd : Int} {tg : List (Int × Int)} {ar : List (Int × Bool)} (h : TA tg ar) (hc : CuA cur lb kd tg ar) (h1 : breakK kd = false) (h2 : contK kd = false) : TA (cur.toList ++ tg) ar := by
  intro n hn
  obtain ⟨q1, q2⟩ := h n hn
  rcases hc with ⟨rfl, hl⟩ | ⟨m, kd', rfl, hm, hf, hk⟩
  · exact ⟨q1, q2⟩
  · simp only [Option.toList, List.cons_append, List.nil_append, lvOk_cons]
    have e : breakK kd' = false ∧ contK kd' = false := by
      rcases hk with ⟨_, rfl⟩ | ⟨_, rfl⟩
      · exact ⟨h1, h2⟩
      · decide
    by_cases hmn : m = n
    · subst hmn
      have hf' := hf hn
      simp only [if_true, lvS_fresh _ hf'.1, e.1, e.2, and_self]
    · simp only [if_neg hmn]
      exact ⟨q1, q2⟩
theorem FrA.tgt {cur : Option (Int × Int)} {lb kd : Int} {tg : List (Int × Int)} {ar : List (Int × Bool)} {dl : List Int} (h : FrA tg ar dl) (hc : CuA cur lb kd tg ar) (hn : CuN cur dl) (lp : Bool) : FrA (cur.toList ++ tg) (ar ++ [(lb, lp)]) dl := by
  intro n hd h0 h1
  obtain ⟨q1, q2⟩ := h n hd h0 h1
  rcases hc with ⟨rfl, hl⟩ | ⟨m, kd', rfl, hm, hf, hk⟩
  · refine ⟨fun t ht => ?_, q2⟩
    rcases List.mem_append.1 ht with ht | ht
    · exact q1 t ht
    · rw [List.mem_singleton.1 ht]; show lb ≠ n; omega
  · have hmn : m ≠ n := by
      rintro rfl
      exact hn m kd' rfl h0 hd
    refine ⟨fun t ht => ?_, fun t ht => ?_⟩
    · rcases List.mem_append.1 ht with ht | ht
      · exact q1 t ht
      · rw [List.mem_singleton.1 ht]; show lb ≠ n; omega
    · simp only [Option.toList, List.cons_append, List.nil_append, List.mem_cons] at ht
      rcases ht with rfl | ht
      · exact hmn
      · exact q2 t ht
theorem FrA.blk {cur : Option (Int × Int)} {tg : List (Int × Int)} {ar : List (Int × Bool)} {dl : List Int} (h : FrA tg ar dl) (hn : CuN cur dl) : FrA (cur.toList ++ tg) ar dl := by
  intro n hd h0 h1
  obtain ⟨q1, q2⟩ := h n hd h0 h1
  refine ⟨q1, fun t ht => ?_⟩
  rcases List.mem_append.1 ht with ht | ht
  · cases cur with
    | none => cases ht
    | some u =>
      simp at ht
      subst ht
      intro e
      exact hn t.1 t.2 rfl (by omega) (by rw [e]; exact hd)
  · exact q2 t ht
def LvF (x : Fl) : Prop := ∀ (tg : List (Int × Int)) (ar : List (Int × Bool)) (cur : Option (Int × Int)) (lb : Int), TA tg ar → CuA cur lb x.kind tg ar → (dlF x).Nodup → FrA tg ar (dlF x) → CuN cur (dlF x) → lvF tg cur x = lsF ar lb x
def LvI (b : List (List Fl)) : Prop := ∀ (tg : List (Int × Int)) (ar : List (Int × Bool)) (cur : Option (Int × Int)) (lb : Int), TA tg ar → CuA cur lb (kindI b) tg ar → (dlI b).Nodup → FrA tg ar (dlI b) → CuN cur (dlI b) → lvI tg cur b = lsI ar lb b
def LvB (b : List (List Fl)) : Prop := ∀ (tg : List (Int × Int)) (ar : List (Int × Bool)) (cur : Option (Int × Int)), TA (cur.toList ++ tg) ar → (dlB b).Nodup → FrA (cur.toList ++ tg) ar (dlB b) → lvB tg cur b = lsB ar b
def LvL (y : List Fl) : Prop := ∀ (tg : List (Int × Int)) (ar : List (Int × Bool)), TA tg ar → (dlL y).Nodup → FrA tg ar (dlL y) → lvL tg y = lsL ar y
theorem lvF_of (k l d : Int) (b : List (List Fl)) (hB : LvB b) (hI : LvI b) : LvF (.mk k l d b) := by
  intro tg ar cur lb hT hC hN hF hU
  rw [lvF, lsF]
  rw [dlF] at hN hF hU
  rcases shape k with h | h | rfl | rfl | rfl | rfl | h | h
  · obtain ⟨g2, g3, g4, g5, g6, g7, g8⟩ := in1_n h
    have hor : ¬ (k = 12 ∨ k = 13) := by omega
    simp only [if_neg g3, if_neg g5, if_neg g6, h, g2, if_true, if_neg hor, Bool.false_eq_true, if_false, Bool.or_false] at hN hF hU ⊢
    by_cases hl : isLp k = true
    · rw [if_pos hl]
      have hk : breakK k = true ∧ contK k = true := by
        unfold isLp at hl
        simp only [Bool.or_eq_true, beq_iff_eq, or_assoc] at hl
        rcases hl with rfl | rfl | rfl <;> decide
      exact hB tg _ cur (hT.tgt hC true hk.1 hk.2) hN (hF.tgt hC hU true)
    · rw [if_neg hl]
      have hk : breakK k = false ∧ contK k = false := by
        unfold isLp at hl
        rcases (in1_iff k).1 h with rfl | rfl | rfl | rfl | rfl
        · decide
        · exact absurd rfl hl
        · exact absurd rfl hl
        · exact absurd rfl hl
        · decide
      exact hB tg _ cur (hT.blk hC hk.1 hk.2) hN (hF.blk hU)
  · obtain ⟨g2, g3, g4, g5, g6, g7, g8⟩ := in2_n h
    have hor : ¬ (k = 12 ∨ k = 13) := by omega
    have hk : breakK k = true ∧ contK k = false ∧ isLp k = false := by
      rcases (in2_iff k).1 h with rfl | rfl | rfl <;> decide
    simp only [if_neg g3, if_neg g5, if_neg g6, h, g2, if_true, if_neg hor, Bool.false_eq_true, if_false, Bool.or_true, hk.2.2] at hN hF hU ⊢
    exact hB (cur.toList ++ tg) _ none (hT.tgt hC false hk.1 hk.2.1) hN (hF.tgt hC hU false)
  · simp only [if_true] at hN hF hU ⊢
    by_cases hl : l = -1
    · simp only [if_pos hl] at hN hF hU ⊢
      refine hI tg ar cur l hT ?_ hN hF hU
      rcases hC with ⟨h1, _⟩ | ⟨m, kd', h1, h2, h3, h4⟩
      · exact .inl ⟨h1, .inr hl⟩
      · refine .inr ⟨m, kd', h1, h2, h3, .inr ⟨hl, ?_⟩⟩
        rcases h4 with ⟨_, h4⟩ | ⟨_, h4⟩
        · exact h4
        · exact h4
    · simp only [if_neg hl] at hN hF hU ⊢
      rw [List.nodup_cons] at hN
      refine hI tg ar (some (l, kindI b)) l hT (.inr ⟨l, kindI b, rfl, hl, fun h0 => hF l (by simp) h0 hl, .inl ⟨rfl, rfl⟩⟩) hN.2 (hF.sub fun n hn => by simp [hn]) fun m kd hm h0 => ?_
      cases hm
      exact hN.1
  · simp [in1, in2, isLp]
  · by_cases hl : l = 0
    · simp [hl]
    · simp [(hT l hl).1]
  · by_cases hl : l = 0
    · simp [hl]
    · simp [(hT l hl).2]
  · rcases h with rfl | rfl <;> simp [in1, in2, isLp]
  · have e : isLp k = false := by
      have := h.a
      unfold in1 at this
      simp only [Bool.or_eq_false_iff, beq_eq_false_iff_ne, ne_eq] at this
      unfold isLp
      simp [this]
    simp [h.a, h.b, h.c, h.e, h.f, e]
mutual
theorem lvF_all : ∀ x : Fl, LvF x
  | .mk k l d b => lvF_of k l d b (lvB_all b) (lvI_all b)
theorem lvI_all : ∀ b : List (List Fl), LvI b
  | (x :: xs) :: ys => by
    intro tg ar cur lb hT hC hN hF hU
    rw [dlI] at hN hF hU
    rw [kindI] at hC
    rw [lvI, lsI]
    exact lvF_all x tg ar cur lb hT hC hN hF hU
  | [] => by intro tg ar cur lb hT hC hN hF hU; rw [lvI, lsI]
  | [] :: ys => by intro tg ar cur lb hT hC hN hF hU; rw [lvI, lsI]
theorem lvB_all : ∀ b : List (List Fl), LvB b
  | [] => by intro tg ar cur hT hN hF; rw [lvB, lsB]
  | y :: ys => by
    intro tg ar cur hT hN hF
    rw [dlB] at hN hF
    have hn := List.nodup_append.1 hN
    rw [lvB, lsB, lvL_all y (cur.toList ++ tg) ar hT hn.1 (hF.sub fun n hn => by simp [hn]), lvB_all ys tg ar cur hT hn.2.1 (hF.sub fun n hn => by simp [hn])]
theorem lvL_all : ∀ y : List Fl, LvL y
  | [] => by intro tg ar hT hN hF; rw [lvL, lsL]
  | x :: xs => by
    intro tg ar hT hN hF
    rw [dlL] at hN hF
    have hn := List.nodup_append.1 hN
    rw [lvL, lsL, lvF_all x tg ar none 0 hT (.inl ⟨rfl, .inl rfl⟩) hn.1 (hF.sub fun n hn => by simp [hn]) (fun m kd h => by cases h), lvL_all xs tg ar hT hn.2.1 (hF.sub fun n hn => by simp [hn])]
end
/-- The rules say what the code answers. -/
theorem jumpsS_eq (l : List Fl) : jumpsS l = jumpsJ l := by
  rw [Bool.eq_iff_iff, jumpsJ_iff]
  unfold jumpsS
  simp only [Bool.and_eq_true, decide_eq_true_eq, List.all_eq_true, List.contains_iff_mem]
  have hl : (dlL l).Nodup → lvL [] l = lsL [] l := fun h => lvL_all l [] [] (fun n _ => ⟨rfl, rfl⟩) h fun n _ _ _ => ⟨fun t h => (by cases h), fun t h => (by cases h)⟩
  constructor
  · rintro ⟨⟨⟨h1, h2⟩, h3⟩, h4⟩
    rw [gt_root h1] at h2
    exact ⟨h2, by rw [hl h1]; exact h3, h1, h4⟩
  · rintro ⟨h2, h3, h1, h4⟩
    rw [gt_root h1, ← hl h1]
    exact ⟨⟨⟨h1, h2⟩, h3⟩, h4⟩
end Go.Proofs.YtpodifbgfcclbaaGreatDoor
