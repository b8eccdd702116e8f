/- The data of the statements (a statement of Go as a tree) and what spec.Valid computes of it, in plain Lean. -/
set_option linter.unusedSimpArgs false
set_option linter.unusedVariables false
namespace Go.Proofs.YtpodifbgfcclbaaGreatDoor
/-- A statement as data: its kind, its label, the number of its default, its lists. -/
inductive Fl where
  | mk (k l d : Int) (b : List (List Fl))
instance : Inhabited Fl := ⟨.mk 20 0 0 []⟩

mutual
def szGo : Nat → List Fl → Nat → Nat
  | _, [], n => n
  | deep, .mk _ _ _ b :: xs, n => match szB deep b (n + 1) with
    | some m => szGo deep xs m
    | none => 1001
def szB : Nat → List (List Fl) → Nat → Option Nat
  | _, [], n => some n
  | deep, y :: ys, n => if n + (if deep + 1 > 50 then 1001 else szGo (deep + 1) y 0) > 1000 then none else szB deep ys (n + (if deep + 1 > 50 then 1001 else szGo (deep + 1) y 0))
end
def szL (deep : Nat) (l : List Fl) : Nat := if deep > 50 then 1001 else szGo deep l 0

mutual
def rk : Fl → Nat
  | .mk _ _ _ b => rkB b + 1
def rkL : List Fl → Nat
  | [] => 0
  | x :: xs => rk x + rkL xs
def rkB : List (List Fl) → Nat
  | [] => 0
  | y :: ys => rkL y + 1 + rkB ys
end

def emptyFl : Fl := .mk 20 0 0 []
def partB (b : List (List Fl)) (i : Nat) : List Fl := b.getD i []
def innerB (b : List (List Fl)) : Fl := match b with
  | (y :: _) :: _ => y
  | _ => emptyFl

mutual
def stF : Fl → Bool → Bool
  | .mk k l _ b, t =>
    if k < 0 then false else if k > 20 then false else if l < -1 then false else if l > 9 then false
    else if k = 10 then (!(l == 0)) && decide (b.length < 2) && stI b t && decide ((partB b 0).length < 2)
    else if k = 11 then (!(l == 0)) && b.length == 0
    else if k = 12 then b.length == 0
    else if k = 13 then b.length == 0
    else if k = 14 then t && l == 0 && b.length == 0
    else if k = 2 then l == 0 && decide (b.length < 3) && liB b false
    else if k = 6 then l == 0 && liB b true
    else if k = 7 then l == 0 && liB b false
    else if k = 8 then l == 0 && liB b false
    else if k = 3 then l == 0 && decide (b.length < 2) && liB b false
    else if k = 4 then l == 0 && decide (b.length < 2) && liB b false
    else if k = 5 then l == 0 && decide (b.length < 2) && liB b false
    else if k = 9 then l == 0 && decide (b.length < 2) && liB b false
    else if k = 19 then l == 0 && decide (b.length < 2) && liB b false
    else l == 0 && b.length == 0
def stI : List (List Fl) → Bool → Bool
  | (y :: _) :: _, t => stF y t
  | _, _ => true
def fiL : List Fl → Bool → Bool
  | [], _ => true
  | x :: xs, t => stF x (t && xs.isEmpty) && fiL xs t
def liB : List (List Fl) → Bool → Bool
  | [], _ => true
  | y :: ys, t => fiL y (t && !ys.isEmpty) && liB ys t
end
def validL (l : List Fl) : Bool := decide (szL 0 l ≤ 1000) && fiL l false
theorem szB_cons (deep : Nat) (y : List Fl) (ys : List (List Fl)) (n : Nat) : szB deep (y :: ys) n = if n + szL (deep + 1) y > 1000 then none else szB deep ys (n + szL (deep + 1) y) := by
  rw [szB]; rfl
theorem szGo_cons (deep : Nat) (k l d : Int) (b : List (List Fl)) (xs : List Fl) (n : Nat) : szGo deep (.mk k l d b :: xs) n = match szB deep b (n + 1) with
    | some m => szGo deep xs m
    | none => 1001 := by rw [szGo]
theorem szB_le (deep : Nat) : ∀ (b : List (List Fl)) (n m : Nat), szB deep b n = some m → m ≤ n ∨ m ≤ 1000
  | [], n, m, h => by rw [szB] at h; cases h; exact .inl (Nat.le_refl _)
  | y :: ys, n, m, h => by
    rw [szB_cons] at h
    by_cases hn : n + szL (deep + 1) y > 1000
    · rw [if_pos hn] at h; cases h
    · rw [if_neg hn] at h
      rcases szB_le deep ys _ m h with h' | h' <;> omega
theorem szGo_le (deep : Nat) : ∀ (l : List Fl) (n M : Nat), n ≤ M → 1000 ≤ M → szGo deep l n ≤ M + l.length + 1
  | [], n, M, h1, h2 => by rw [szGo]; omega
  | .mk k l d b :: xs, n, M, h1, h2 => by
    rw [szGo_cons]
    cases hm : szB deep b (n + 1) with
    | some m =>
      have h3 := szB_le deep b _ _ hm
      have := szGo_le deep xs m (M + 1) (by omega) (by omega)
      simp only [List.length_cons]
      omega
    | none => simp only []; omega
theorem szL_le (deep : Nat) (l : List Fl) : szL deep l ≤ l.length + 1001 := by
  unfold szL
  split
  · omega
  · have := szGo_le deep l 0 1000 (by omega) (by omega)
    omega
theorem rkL_at : ∀ {l : List Fl} {i : Nat} {x : Fl}, l[i]? = some x → rk x ≤ rkL l
  | y :: ys, 0, x, h => by simp at h; subst h; rw [rkL]; omega
  | y :: ys, i + 1, x, h => by have := rkL_at (l := ys) (i := i) (x := x) (by simpa using h); rw [rkL]; omega
theorem rkB_at : ∀ {b : List (List Fl)} {i : Nat} {y : List Fl}, b[i]? = some y → rkL y < rkB b
  | z :: zs, 0, x, h => by simp at h; subst h; rw [rkB]; omega
  | z :: zs, i + 1, x, h => by have := rkB_at (b := zs) (i := i) (y := x) (by simpa using h); rw [rkB]; omega
theorem rk_mk (k l d : Int) (b : List (List Fl)) : rk (.mk k l d b) = rkB b + 1 := by rw [rk]
end Go.Proofs.YtpodifbgfcclbaaGreatDoor

/- Where a list of statements ends, in plain Lean. -/
set_option linter.unusedVariables false
namespace Go.Proofs.YtpodifbgfcclbaaGreatDoor

def Fl.kind : Fl → Int | .mk k _ _ _ => k
def allE (l : List Fl) : Bool := l.all fun x => x.kind == 20

mutual
/-- Does a break in a statement refer to the statement around it? -/
def hbF : Fl → Int → Bool → Bool
  | .mk k l _ b, lb, imp =>
    if k = 12 then (if l = 0 then imp else l == lb)
    else if k = 10 then hbI b lb imp
    else if k = 2 then hbB b lb imp
    else if k = 9 then hbB b lb imp
    else if k = 3 then (!(lb == 0)) && hbB b lb false
    else if k = 4 then (!(lb == 0)) && hbB b lb false
    else if k = 5 then (!(lb == 0)) && hbB b lb false
    else if k = 6 then (!(lb == 0)) && hbB b lb false
    else if k = 7 then (!(lb == 0)) && hbB b lb false
    else if k = 8 then (!(lb == 0)) && hbB b lb false
    else false
def hbI : List (List Fl) → Int → Bool → Bool
  | (y :: _) :: _, lb, imp => hbF y lb imp
  | _, _, _ => false
def hbL : List Fl → Int → Bool → Bool
  | [], _, _ => false
  | x :: xs, lb, imp => hbF x lb imp || hbL xs lb imp
def hbB : List (List Fl) → Int → Bool → Bool
  | [], _, _ => false
  | y :: ys, lb, imp => hbL y lb imp || hbB ys lb imp
end
mutual
/-- Is a statement, with a label or without one (0), a terminating one? -/
def teF : Fl → Int → Bool
  | .mk k l d b, lb =>
    if k = 0 then true
    else if k = 1 then true
    else if k = 11 then true
    else if k = 14 then true
    else if k = 2 then teTwo b
    else if k = 9 then teOne b
    else if k = 3 then !(hbB b lb true)
    else if k = 6 then decide (0 ≤ d) && decide (d < (b.length : Int)) && teAll b lb
    else if k = 7 then decide (0 ≤ d) && decide (d < (b.length : Int)) && teAll b lb
    else if k = 8 then teAll b lb
    else if k = 10 then teI b l
    else false
def teI : List (List Fl) → Int → Bool
  | (y :: _) :: _, lb => teF y lb
  | _, _ => false
def teOne : List (List Fl) → Bool
  | [y] => teL y
  | _ => false
def teTwo : List (List Fl) → Bool
  | [y, z] => teL y && teL z
  | _ => false
def teAll : List (List Fl) → Int → Bool
  | [], _ => true
  | y :: ys, lb => teL y && !(hbL y lb true) && teAll ys lb
def teL : List Fl → Bool
  | [] => false
  | x :: xs => if allE xs then (if x.kind = 20 then false else teF x 0) else teL xs
end
end Go.Proofs.YtpodifbgfcclbaaGreatDoor
