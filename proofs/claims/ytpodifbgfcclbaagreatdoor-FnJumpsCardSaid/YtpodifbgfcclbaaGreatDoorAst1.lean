/- When an interface value in memory reads as the tree of a statement, as go/ast lays it. -/
import Derived.Test.YtpodifbgfcclbaaGreatDoorMem1
import Derived.Test.YtpodifbgfcclbaaGreatDoorPure1
set_option linter.unusedSimpArgs false
set_option linter.unusedVariables false
namespace Go.Proofs.YtpodifbgfcclbaaGreatDoor
open Go.RowKit

/-- A statement with the number of the block in which its node lies. -/
inductive Tr where
  | mk (a : Nat) (k l d : Int) (b : List (List Tr))
mutual
def er : Tr → Fl
  | .mk _ k l d b => .mk k l d (erB b)
def erL : List Tr → List Fl
  | [] => []
  | t :: ts => er t :: erL ts
def erB : List (List Tr) → List (List Fl)
  | [] => []
  | y :: ys => erL y :: erB ys
end
mutual
def rt : Tr → Nat
  | .mk _ _ _ _ b => rtB b + 1
def rtL : List Tr → Nat
  | [] => 0
  | x :: xs => rt x + rtL xs
def rtB : List (List Tr) → Nat
  | [] => 0
  | y :: ys => rtL y + 1 + rtB ys
end

/-- The name of a label by its number: none for 0, '_' for a negative one. -/
def nm (n : Int) : ByteArray := if n = 0 then ⟨#[]⟩ else if n < 0 then ⟨#[95]⟩ else ⟨#[76, UInt8.ofNat (48 + n.toNat)]⟩

/-- A node that holds a call: is it one of panic's? -/
def NE (w : World) (lo H : Nat) (ps : List Nat) (a : Nat) (p : Bool) : Prop :=
  ∃ c, lo ≤ c ∧ c < H ∧ w.cell? ⟨a, 0, none⟩ = some (.iface 119 (.pointer (some ⟨c, 0, none⟩))) ∧ ps.contains c = p ∧ Own w c 214
/-- The cell o of a node holds a label. -/
def NL (w : World) (lo H : Nat) (a o : Nat) (n : Int) : Prop :=
  -1 ≤ n ∧ n ≤ 9 ∧ if n = 0 then w.cell? ⟨a, o, none⟩ = some (.pointer none) else
  ∃ i p, lo ≤ i ∧ i < H ∧ w.cell? ⟨a, o, none⟩ = some (.pointer (some ⟨i, 0, none⟩)) ∧ w.cell? ⟨i, 0, none⟩ = some (.int .i64 p) ∧ w.cell? ⟨i, 1, none⟩ = some (.string (nm n))
mutual
def ST (w : World) (lo H : Nat) (ps : List Nat) : Value → Tr → Prop
  | v, .mk a k l d b => lo ≤ a ∧ a < H ∧
    (if k = 0 then v = .iface 115 (.pointer (some ⟨a, 0, none⟩)) ∧ b = []
    else if k = 1 then v = .iface 121 (.pointer (some ⟨a, 0, none⟩)) ∧ NE w lo H ps a true ∧ b = []
    else if k = 2 then v = .iface 126 (.pointer (some ⟨a, 0, none⟩)) ∧ b.length < 3 ∧ (∃ a1, w.cell? ⟨a, 3, none⟩ = some (.pointer (some ⟨a1, 0, none⟩)) ∧ BS0 w lo H ps a1 b) ∧ ∃ e, w.cell? ⟨a, 4, none⟩ = some e ∧ BS1 w lo H ps e b
    else if k = 3 then v = .iface 130 (.pointer (some ⟨a, 0, none⟩)) ∧ b.length < 2 ∧ w.cell? ⟨a, 2, none⟩ = some .nilIface ∧ ∃ a1, w.cell? ⟨a, 4, none⟩ = some (.pointer (some ⟨a1, 0, none⟩)) ∧ BS0 w lo H ps a1 b
    else if k = 4 then v = .iface 130 (.pointer (some ⟨a, 0, none⟩)) ∧ b.length < 2 ∧ (∃ c, w.cell? ⟨a, 2, none⟩ = some (.iface 101 (.pointer (some ⟨c, 0, none⟩)))) ∧ ∃ a1, w.cell? ⟨a, 4, none⟩ = some (.pointer (some ⟨a1, 0, none⟩)) ∧ BS0 w lo H ps a1 b
    else if k = 5 then v = .iface 133 (.pointer (some ⟨a, 0, none⟩)) ∧ b.length < 2 ∧ ∃ a1, w.cell? ⟨a, 7, none⟩ = some (.pointer (some ⟨a1, 0, none⟩)) ∧ BS0 w lo H ps a1 b
    else if k = 6 then v = .iface 137 (.pointer (some ⟨a, 0, none⟩)) ∧ ∃ a1, w.cell? ⟨a, 3, none⟩ = some (.pointer (some ⟨a1, 0, none⟩)) ∧ lo ≤ a1 ∧ a1 < H ∧ ∃ sa cap, w.cell? ⟨a1, 1, none⟩ = some (.slice sa b.length cap) ∧ b.length ≤ 8796093022208 ∧ ∃ b' o', (b ≠ [] → sa = some ⟨b', o', none⟩) ∧ CL w lo H ps false b' o' 0 d b
    else if k = 7 then v = .iface 141 (.pointer (some ⟨a, 0, none⟩)) ∧ ∃ a1, w.cell? ⟨a, 3, none⟩ = some (.pointer (some ⟨a1, 0, none⟩)) ∧ lo ≤ a1 ∧ a1 < H ∧ ∃ sa cap, w.cell? ⟨a1, 1, none⟩ = some (.slice sa b.length cap) ∧ b.length ≤ 8796093022208 ∧ ∃ b' o', (b ≠ [] → sa = some ⟨b', o', none⟩) ∧ CL w lo H ps false b' o' 0 d b
    else if k = 8 then v = .iface 147 (.pointer (some ⟨a, 0, none⟩)) ∧ ∃ a1, w.cell? ⟨a, 1, none⟩ = some (.pointer (some ⟨a1, 0, none⟩)) ∧ lo ≤ a1 ∧ a1 < H ∧ ∃ sa cap, w.cell? ⟨a1, 1, none⟩ = some (.slice sa b.length cap) ∧ b.length ≤ 8796093022208 ∧ ∃ b' o', (b ≠ [] → sa = some ⟨b', o', none⟩) ∧ CL w lo H ps true b' o' 0 d b
    else if k = 9 then v = .iface 50 (.pointer (some ⟨a, 0, none⟩)) ∧ b.length < 2 ∧ BS0 w lo H ps a b
    else if k = 10 then v = .iface 156 (.pointer (some ⟨a, 0, none⟩)) ∧ b.length < 2 ∧ NL w lo H a 0 l ∧ l ≠ 0 ∧ ∃ v', w.cell? ⟨a, 2, none⟩ = some v' ∧ SI w lo H ps v' b
    else if k = 11 then v = .iface 95 (.pointer (some ⟨a, 0, none⟩)) ∧ b = [] ∧ w.cell? ⟨a, 1, none⟩ = some (.int .i64 73) ∧ NL w lo H a 2 l ∧ l ≠ 0 ∧ Own w a 103
    else if k = 12 then v = .iface 95 (.pointer (some ⟨a, 0, none⟩)) ∧ b = [] ∧ w.cell? ⟨a, 1, none⟩ = some (.int .i64 61) ∧ NL w lo H a 2 l
    else if k = 13 then v = .iface 95 (.pointer (some ⟨a, 0, none⟩)) ∧ b = [] ∧ w.cell? ⟨a, 1, none⟩ = some (.int .i64 65) ∧ NL w lo H a 2 l
    else if k = 14 then v = .iface 95 (.pointer (some ⟨a, 0, none⟩)) ∧ b = [] ∧ w.cell? ⟨a, 1, none⟩ = some (.int .i64 69) ∧ w.cell? ⟨a, 2, none⟩ = some (.pointer none)
    else if k = 15 then v = .iface 165 (.pointer (some ⟨a, 0, none⟩)) ∧ b = [] ∧ ∃ g p, lo ≤ g ∧ g < H ∧ w.cell? ⟨a, 0, none⟩ = some (.iface 166 (.pointer (some ⟨g, 0, none⟩))) ∧ w.cell? ⟨g, 2, none⟩ = some (.int .i64 85) ∧ w.cell? ⟨g, 1, none⟩ = some (.int .i64 p) ∧ 0 < p
    else if k = 16 then v = .iface 189 (.pointer (some ⟨a, 0, none⟩)) ∧ b = [] ∧ w.cell? ⟨a, 2, none⟩ = some (.int .i64 47) ∧ ∃ p, w.cell? ⟨a, 1, none⟩ = some (.int .i64 p) ∧ 0 < p
    else if k = 17 then v = .iface 165 (.pointer (some ⟨a, 0, none⟩)) ∧ b = [] ∧ ∃ g p, lo ≤ g ∧ g < H ∧ w.cell? ⟨a, 0, none⟩ = some (.iface 166 (.pointer (some ⟨g, 0, none⟩))) ∧ w.cell? ⟨g, 2, none⟩ = some (.int .i64 64) ∧ w.cell? ⟨g, 1, none⟩ = some (.int .i64 p) ∧ 0 < p
    else if k = 18 then v = .iface 121 (.pointer (some ⟨a, 0, none⟩)) ∧ NE w lo H ps a false ∧ b = []
    else if k = 19 then v = .iface 121 (.pointer (some ⟨a, 0, none⟩)) ∧ NE w lo H ps a false
    else if k = 20 then v = .iface 112 (.pointer (some ⟨a, 0, none⟩)) ∧ b = []
    else False)
def TL (w : World) (lo H : Nat) (ps : List Nat) : Nat → Nat → List Tr → Prop
  | _, _, [] => True
  | b, o, t :: ts => lo ≤ b ∧ b < H ∧ (∃ v, w.cell? ⟨b, o, none⟩ = some v ∧ ST w lo H ps v t) ∧ TL w lo H ps b (o + 1) ts
/-- The block statement at block a with the first list, or with none. -/
def BS0 (w : World) (lo H : Nat) (ps : List Nat) : Nat → List (List Tr) → Prop
  | a, [] => lo ≤ a ∧ a < H ∧ w.cell? ⟨a, 1, none⟩ = some (.slice none 0 0)
  | a, y :: _ => lo ≤ a ∧ a < H ∧ ∃ sa cap, w.cell? ⟨a, 1, none⟩ = some (.slice sa y.length cap) ∧ y.length ≤ 8796093022208 ∧ ∃ b o, (y ≠ [] → sa = some ⟨b, o, none⟩) ∧ TL w lo H ps b o y
/-- What stands for else. -/
def BS1 (w : World) (lo H : Nat) (ps : List Nat) : Value → List (List Tr) → Prop
  | e, _ :: z :: _ => ∃ a, e = .iface 50 (.pointer (some ⟨a, 0, none⟩)) ∧ lo ≤ a ∧ a < H ∧ ∃ sa cap, w.cell? ⟨a, 1, none⟩ = some (.slice sa z.length cap) ∧ z.length ≤ 8796093022208 ∧ ∃ b o, (z ≠ [] → sa = some ⟨b, o, none⟩) ∧ TL w lo H ps b o z
  | e, _ => e = .nilIface
/-- The statement behind a label. -/
def SI (w : World) (lo H : Nat) (ps : List Nat) : Value → List (List Tr) → Prop
  | v, (t :: ts) :: _ => ts = [] ∧ ST w lo H ps v t
  | v, [] => ∃ a, v = .iface 112 (.pointer (some ⟨a, 0, none⟩))
  | v, [] :: _ => ∃ a, v = .iface 112 (.pointer (some ⟨a, 0, none⟩))
def CL (w : World) (lo H : Nat) (ps : List Nat) (sel : Bool) : Nat → Nat → Nat → Int → List (List Tr) → Prop
  | _, _, _, _, [] => True
  | b, o, i, d, y :: ys => lo ≤ b ∧ b < H ∧ (∃ c, lo ≤ c ∧ c < H ∧ w.cell? ⟨b, o, none⟩ = some (.iface (if sel then 195 else 192) (.pointer (some ⟨c, 0, none⟩))) ∧
      (sel = false → if (i : Int) = d then w.cell? ⟨c, 1, none⟩ = some (.slice none 0 0) else ∃ x, w.cell? ⟨c, 1, none⟩ = some (.slice (some x) 1 1)) ∧
      ∃ sa cap, w.cell? ⟨c, 3, none⟩ = some (.slice sa y.length cap) ∧ y.length ≤ 8796093022208 ∧ ∃ b' o', (y ≠ [] → sa = some ⟨b', o', none⟩) ∧ TL w lo H ps b' o' y) ∧
      CL w lo H ps sel b (o + 1) (i + 1) d ys
end
/-- The block statement of a switch or a select. -/
def CS (w : World) (lo H : Nat) (ps : List Nat) (sel : Bool) : Nat → Int → List (List Tr) → Prop
  | a, d, b => lo ≤ a ∧ a < H ∧ ∃ sa cap, w.cell? ⟨a, 1, none⟩ = some (.slice sa b.length cap) ∧ b.length ≤ 8796093022208 ∧ ∃ b' o', (b ≠ [] → sa = some ⟨b', o', none⟩) ∧ CL w lo H ps sel b' o' 0 d b
theorem ST_0 {w : World} {lo H : Nat} {ps : List Nat} {v : Value} {a : Nat} {l d : Int} {b : List (List Tr)} : ST w lo H ps v (.mk a 0 l d b) ↔
    lo ≤ a ∧ a < H ∧ v = .iface 115 (.pointer (some ⟨a, 0, none⟩)) ∧ b = [] := by
  rw [ST]; rfl
theorem ST_1 {w : World} {lo H : Nat} {ps : List Nat} {v : Value} {a : Nat} {l d : Int} {b : List (List Tr)} : ST w lo H ps v (.mk a 1 l d b) ↔
    lo ≤ a ∧ a < H ∧ v = .iface 121 (.pointer (some ⟨a, 0, none⟩)) ∧ NE w lo H ps a true ∧ b = [] := by
  rw [ST]; rfl
theorem ST_2 {w : World} {lo H : Nat} {ps : List Nat} {v : Value} {a : Nat} {l d : Int} {b : List (List Tr)} : ST w lo H ps v (.mk a 2 l d b) ↔
    lo ≤ a ∧ a < H ∧ v = .iface 126 (.pointer (some ⟨a, 0, none⟩)) ∧ b.length < 3 ∧ (∃ a1, w.cell? ⟨a, 3, none⟩ = some (.pointer (some ⟨a1, 0, none⟩)) ∧ BS0 w lo H ps a1 b) ∧ ∃ e, w.cell? ⟨a, 4, none⟩ = some e ∧ BS1 w lo H ps e b := by
  rw [ST]; rfl
theorem ST_3 {w : World} {lo H : Nat} {ps : List Nat} {v : Value} {a : Nat} {l d : Int} {b : List (List Tr)} : ST w lo H ps v (.mk a 3 l d b) ↔
    lo ≤ a ∧ a < H ∧ v = .iface 130 (.pointer (some ⟨a, 0, none⟩)) ∧ b.length < 2 ∧ w.cell? ⟨a, 2, none⟩ = some .nilIface ∧ ∃ a1, w.cell? ⟨a, 4, none⟩ = some (.pointer (some ⟨a1, 0, none⟩)) ∧ BS0 w lo H ps a1 b := by
  rw [ST]; rfl
theorem ST_4 {w : World} {lo H : Nat} {ps : List Nat} {v : Value} {a : Nat} {l d : Int} {b : List (List Tr)} : ST w lo H ps v (.mk a 4 l d b) ↔
    lo ≤ a ∧ a < H ∧ v = .iface 130 (.pointer (some ⟨a, 0, none⟩)) ∧ b.length < 2 ∧ (∃ c, w.cell? ⟨a, 2, none⟩ = some (.iface 101 (.pointer (some ⟨c, 0, none⟩)))) ∧ ∃ a1, w.cell? ⟨a, 4, none⟩ = some (.pointer (some ⟨a1, 0, none⟩)) ∧ BS0 w lo H ps a1 b := by
  rw [ST]; rfl
theorem ST_5 {w : World} {lo H : Nat} {ps : List Nat} {v : Value} {a : Nat} {l d : Int} {b : List (List Tr)} : ST w lo H ps v (.mk a 5 l d b) ↔
    lo ≤ a ∧ a < H ∧ v = .iface 133 (.pointer (some ⟨a, 0, none⟩)) ∧ b.length < 2 ∧ ∃ a1, w.cell? ⟨a, 7, none⟩ = some (.pointer (some ⟨a1, 0, none⟩)) ∧ BS0 w lo H ps a1 b := by
  rw [ST]; rfl
theorem ST_6 {w : World} {lo H : Nat} {ps : List Nat} {v : Value} {a : Nat} {l d : Int} {b : List (List Tr)} : ST w lo H ps v (.mk a 6 l d b) ↔
    lo ≤ a ∧ a < H ∧ v = .iface 137 (.pointer (some ⟨a, 0, none⟩)) ∧ ∃ a1, w.cell? ⟨a, 3, none⟩ = some (.pointer (some ⟨a1, 0, none⟩)) ∧ CS w lo H ps false a1 d b := by
  rw [ST]; rfl
theorem ST_7 {w : World} {lo H : Nat} {ps : List Nat} {v : Value} {a : Nat} {l d : Int} {b : List (List Tr)} : ST w lo H ps v (.mk a 7 l d b) ↔
    lo ≤ a ∧ a < H ∧ v = .iface 141 (.pointer (some ⟨a, 0, none⟩)) ∧ ∃ a1, w.cell? ⟨a, 3, none⟩ = some (.pointer (some ⟨a1, 0, none⟩)) ∧ CS w lo H ps false a1 d b := by
  rw [ST]; rfl
theorem ST_8 {w : World} {lo H : Nat} {ps : List Nat} {v : Value} {a : Nat} {l d : Int} {b : List (List Tr)} : ST w lo H ps v (.mk a 8 l d b) ↔
    lo ≤ a ∧ a < H ∧ v = .iface 147 (.pointer (some ⟨a, 0, none⟩)) ∧ ∃ a1, w.cell? ⟨a, 1, none⟩ = some (.pointer (some ⟨a1, 0, none⟩)) ∧ CS w lo H ps true a1 d b := by
  rw [ST]; rfl
theorem ST_9 {w : World} {lo H : Nat} {ps : List Nat} {v : Value} {a : Nat} {l d : Int} {b : List (List Tr)} : ST w lo H ps v (.mk a 9 l d b) ↔
    lo ≤ a ∧ a < H ∧ v = .iface 50 (.pointer (some ⟨a, 0, none⟩)) ∧ b.length < 2 ∧ BS0 w lo H ps a b := by
  rw [ST]; rfl
theorem ST_10 {w : World} {lo H : Nat} {ps : List Nat} {v : Value} {a : Nat} {l d : Int} {b : List (List Tr)} : ST w lo H ps v (.mk a 10 l d b) ↔
    lo ≤ a ∧ a < H ∧ v = .iface 156 (.pointer (some ⟨a, 0, none⟩)) ∧ b.length < 2 ∧ NL w lo H a 0 l ∧ l ≠ 0 ∧ ∃ v', w.cell? ⟨a, 2, none⟩ = some v' ∧ SI w lo H ps v' b := by
  rw [ST]; rfl
theorem ST_11 {w : World} {lo H : Nat} {ps : List Nat} {v : Value} {a : Nat} {l d : Int} {b : List (List Tr)} : ST w lo H ps v (.mk a 11 l d b) ↔
    lo ≤ a ∧ a < H ∧ v = .iface 95 (.pointer (some ⟨a, 0, none⟩)) ∧ b = [] ∧ w.cell? ⟨a, 1, none⟩ = some (.int .i64 73) ∧ NL w lo H a 2 l ∧ l ≠ 0 ∧ Own w a 103 := by
  rw [ST]; rfl
theorem ST_12 {w : World} {lo H : Nat} {ps : List Nat} {v : Value} {a : Nat} {l d : Int} {b : List (List Tr)} : ST w lo H ps v (.mk a 12 l d b) ↔
    lo ≤ a ∧ a < H ∧ v = .iface 95 (.pointer (some ⟨a, 0, none⟩)) ∧ b = [] ∧ w.cell? ⟨a, 1, none⟩ = some (.int .i64 61) ∧ NL w lo H a 2 l := by
  rw [ST]; rfl
theorem ST_13 {w : World} {lo H : Nat} {ps : List Nat} {v : Value} {a : Nat} {l d : Int} {b : List (List Tr)} : ST w lo H ps v (.mk a 13 l d b) ↔
    lo ≤ a ∧ a < H ∧ v = .iface 95 (.pointer (some ⟨a, 0, none⟩)) ∧ b = [] ∧ w.cell? ⟨a, 1, none⟩ = some (.int .i64 65) ∧ NL w lo H a 2 l := by
  rw [ST]; rfl
theorem ST_14 {w : World} {lo H : Nat} {ps : List Nat} {v : Value} {a : Nat} {l d : Int} {b : List (List Tr)} : ST w lo H ps v (.mk a 14 l d b) ↔
    lo ≤ a ∧ a < H ∧ v = .iface 95 (.pointer (some ⟨a, 0, none⟩)) ∧ b = [] ∧ w.cell? ⟨a, 1, none⟩ = some (.int .i64 69) ∧ w.cell? ⟨a, 2, none⟩ = some (.pointer none) := by
  rw [ST]; rfl
theorem ST_15 {w : World} {lo H : Nat} {ps : List Nat} {v : Value} {a : Nat} {l d : Int} {b : List (List Tr)} : ST w lo H ps v (.mk a 15 l d b) ↔
    lo ≤ a ∧ a < H ∧ v = .iface 165 (.pointer (some ⟨a, 0, none⟩)) ∧ b = [] ∧ ∃ g p, lo ≤ g ∧ g < H ∧ w.cell? ⟨a, 0, none⟩ = some (.iface 166 (.pointer (some ⟨g, 0, none⟩))) ∧ w.cell? ⟨g, 2, none⟩ = some (.int .i64 85) ∧ w.cell? ⟨g, 1, none⟩ = some (.int .i64 p) ∧ 0 < p := by
  rw [ST]; rfl
theorem ST_16 {w : World} {lo H : Nat} {ps : List Nat} {v : Value} {a : Nat} {l d : Int} {b : List (List Tr)} : ST w lo H ps v (.mk a 16 l d b) ↔
    lo ≤ a ∧ a < H ∧ v = .iface 189 (.pointer (some ⟨a, 0, none⟩)) ∧ b = [] ∧ w.cell? ⟨a, 2, none⟩ = some (.int .i64 47) ∧ ∃ p, w.cell? ⟨a, 1, none⟩ = some (.int .i64 p) ∧ 0 < p := by
  rw [ST]; rfl
theorem ST_17 {w : World} {lo H : Nat} {ps : List Nat} {v : Value} {a : Nat} {l d : Int} {b : List (List Tr)} : ST w lo H ps v (.mk a 17 l d b) ↔
    lo ≤ a ∧ a < H ∧ v = .iface 165 (.pointer (some ⟨a, 0, none⟩)) ∧ b = [] ∧ ∃ g p, lo ≤ g ∧ g < H ∧ w.cell? ⟨a, 0, none⟩ = some (.iface 166 (.pointer (some ⟨g, 0, none⟩))) ∧ w.cell? ⟨g, 2, none⟩ = some (.int .i64 64) ∧ w.cell? ⟨g, 1, none⟩ = some (.int .i64 p) ∧ 0 < p := by
  rw [ST]; rfl
theorem ST_18 {w : World} {lo H : Nat} {ps : List Nat} {v : Value} {a : Nat} {l d : Int} {b : List (List Tr)} : ST w lo H ps v (.mk a 18 l d b) ↔
    lo ≤ a ∧ a < H ∧ v = .iface 121 (.pointer (some ⟨a, 0, none⟩)) ∧ NE w lo H ps a false ∧ b = [] := by
  rw [ST]; rfl
theorem ST_19 {w : World} {lo H : Nat} {ps : List Nat} {v : Value} {a : Nat} {l d : Int} {b : List (List Tr)} : ST w lo H ps v (.mk a 19 l d b) ↔
    lo ≤ a ∧ a < H ∧ v = .iface 121 (.pointer (some ⟨a, 0, none⟩)) ∧ NE w lo H ps a false := by
  rw [ST]; rfl
theorem ST_20 {w : World} {lo H : Nat} {ps : List Nat} {v : Value} {a : Nat} {l d : Int} {b : List (List Tr)} : ST w lo H ps v (.mk a 20 l d b) ↔
    lo ≤ a ∧ a < H ∧ v = .iface 112 (.pointer (some ⟨a, 0, none⟩)) ∧ b = [] := by
  rw [ST]; rfl
theorem ST_kind {w : World} {lo H : Nat} {ps : List Nat} {v : Value} {a : Nat} {k l d : Int} {b : List (List Tr)} (h : ST w lo H ps v (.mk a k l d b)) : 0 ≤ k ∧ k ≤ 20 := by
  by_cases hk : 0 ≤ k ∧ k ≤ 20
  · exact hk
  · rw [ST] at h
    obtain ⟨_, _, h⟩ := h
    repeat rw [if_neg (by omega)] at h
    exact h.elim
theorem TL_cons {w : World} {lo H : Nat} {ps : List Nat} {b o : Nat} {t : Tr} {ts : List Tr} : TL w lo H ps b o (t :: ts) ↔ lo ≤ b ∧ b < H ∧ (∃ v, w.cell? ⟨b, o, none⟩ = some v ∧ ST w lo H ps v t) ∧ TL w lo H ps b (o + 1) ts := by rw [TL]
theorem TL_nil {w : World} {lo H : Nat} {ps : List Nat} {b o : Nat} : TL w lo H ps b o [] := by rw [TL]; trivial
end Go.Proofs.YtpodifbgfcclbaaGreatDoor

/- The tree of a statement in memory while other blocks turn; the elements of a list. -/
set_option linter.unusedVariables false
namespace Go.Proofs.YtpodifbgfcclbaaGreatDoor
open Go.RowKit

/-- What lies in the blocks from lo to H is as it was; so are the calls of panic among them. -/
structure Kept (lo H : Nat) (ps ps' : List Nat) (w w' : World) : Prop where
  heap : ∀ k, lo ≤ k → k < H → w'.heap[k]? = w.heap[k]?
  pan : ∀ c, lo ≤ c → c < H → ps'.contains c = ps.contains c
theorem Kept.cell {lo H : Nat} {ps ps' : List Nat} {w w' : World} (h : Kept lo H ps ps' w w') {a o : Nat} (h1 : lo ≤ a) (h2 : a < H) {v : Value} (hv : w.cell? ⟨a, o, none⟩ = some v) : w'.cell? ⟨a, o, none⟩ = some v :=
  (World.cell?_of_block (w := w) (h.heap a h1 h2)).trans hv
theorem NE.keepG {lo lo' H H' : Nat} {ps ps' : List Nat} {w w' : World} (hk : Kept lo H ps ps' w w') (hlo : lo' ≤ lo) (hH : H ≤ H') {a : Nat} {p : Bool} (h1 : lo ≤ a) (h2 : a < H) (h : NE w lo H ps a p) : NE w' lo' H' ps' a p := by
  obtain ⟨c, g1, g2, g3, g4, cs, g5⟩ := h
  exact ⟨c, by omega, by omega, hk.cell h1 h2 g3, (hk.pan c g1 g2).trans g4, cs, (hk.heap c g1 g2).trans g5⟩
theorem NL.keepG {lo lo' H H' : Nat} {ps ps' : List Nat} {w w' : World} (hk : Kept lo H ps ps' w w') (hlo : lo' ≤ lo) (hH : H ≤ H') {a o : Nat} {n : Int} (h1 : lo ≤ a) (h2 : a < H) (h : NL w lo H a o n) : NL w' lo' H' a o n := by
  obtain ⟨g1, g2, g3⟩ := h
  refine ⟨g1, g2, ?_⟩
  split
  · rename_i hn
    rw [if_pos hn] at g3
    exact hk.cell h1 h2 g3
  · rename_i hn
    rw [if_neg hn] at g3
    obtain ⟨i, p, g4, g5, g6, g7, g8⟩ := g3
    exact ⟨i, p, by omega, by omega, hk.cell h1 h2 g6, hk.cell g4 g5 g7, hk.cell g4 g5 g8⟩
mutual
theorem ST.keepG {lo lo' H H' : Nat} {ps ps' : List Nat} {w w' : World} (hk : Kept lo H ps ps' w w') (hlo : lo' ≤ lo) (hH : H ≤ H') : ∀ {t : Tr} {v : Value}, ST w lo H ps v t → ST w' lo' H' ps' v t
  | .mk a k l d b, v, h => by
    have hb0 := fun a (h : BS0 w lo H ps a b) => BS0.keepG hk hlo hH (b := b) h
    have hb1 := fun e (h : BS1 w lo H ps e b) => BS1.keepG hk hlo hH (b := b) h
    have hsi := fun e (h : SI w lo H ps e b) => SI.keepG hk hlo hH (b := b) h
    have hcl := fun sel b' o i d (h : CL w lo H ps sel b' o i d b) => CL.keepG hk hlo hH (b := b) h
    have hcs : ∀ sel a1, CS w lo H ps sel a1 d b → CS w' lo' H' ps' sel a1 d b := by
      rintro sel a1 ⟨g1, g2, sa, cap, g3, g4, b', o', g5, g6⟩
      exact ⟨by omega, by omega, sa, cap, hk.cell g1 g2 g3, g4, b', o', g5, hcl _ _ _ _ _ g6⟩
    obtain ⟨hk1, hk2⟩ := ST_kind h
    have hkk : k = 0 ∨ k = 1 ∨ k = 2 ∨ k = 3 ∨ k = 4 ∨ k = 5 ∨ k = 6 ∨ k = 7 ∨ k = 8 ∨ k = 9 ∨ k = 10 ∨ k = 11 ∨ k = 12 ∨ k = 13 ∨ k = 14 ∨ k = 15 ∨ k = 16 ∨ k = 17 ∨ k = 18 ∨ k = 19 ∨ k = 20 := by omega
    rcases hkk with rfl | rfl | rfl | rfl | rfl | rfl | rfl | rfl | rfl | rfl | rfl | rfl | rfl | rfl | rfl | rfl | rfl | rfl | rfl | rfl | rfl
    · rw [ST_0] at h ⊢
      obtain ⟨h1, h2, hv, h⟩ := h
      exact ⟨by omega, by omega, hv, h⟩
    · rw [ST_1] at h ⊢
      obtain ⟨h1, h2, hv, h⟩ := h
      exact ⟨by omega, by omega, hv, h.1.keepG hk hlo hH h1 h2, h.2⟩
    · rw [ST_2] at h ⊢
      obtain ⟨h1, h2, hv, h⟩ := h
      obtain ⟨hl, ⟨a1, g1, g2⟩, e, g3, g4⟩ := h
      exact ⟨by omega, by omega, hv, hl, ⟨a1, hk.cell h1 h2 g1, hb0 _ g2⟩, e, hk.cell h1 h2 g3, hb1 _ g4⟩
    · rw [ST_3] at h ⊢
      obtain ⟨h1, h2, hv, h⟩ := h
      obtain ⟨hl, g0, a1, g1, g2⟩ := h
      exact ⟨by omega, by omega, hv, hl, hk.cell h1 h2 g0, a1, hk.cell h1 h2 g1, hb0 _ g2⟩
    · rw [ST_4] at h ⊢
      obtain ⟨h1, h2, hv, h⟩ := h
      obtain ⟨hl, ⟨c, g0⟩, a1, g1, g2⟩ := h
      exact ⟨by omega, by omega, hv, hl, ⟨c, hk.cell h1 h2 g0⟩, a1, hk.cell h1 h2 g1, hb0 _ g2⟩
    · rw [ST_5] at h ⊢
      obtain ⟨h1, h2, hv, h⟩ := h
      obtain ⟨hl, a1, g1, g2⟩ := h
      exact ⟨by omega, by omega, hv, hl, a1, hk.cell h1 h2 g1, hb0 _ g2⟩
    · rw [ST_6] at h ⊢
      obtain ⟨h1, h2, hv, h⟩ := h
      obtain ⟨a1, g1, g2⟩ := h
      exact ⟨by omega, by omega, hv, a1, hk.cell h1 h2 g1, hcs _ _ g2⟩
    · rw [ST_7] at h ⊢
      obtain ⟨h1, h2, hv, h⟩ := h
      obtain ⟨a1, g1, g2⟩ := h
      exact ⟨by omega, by omega, hv, a1, hk.cell h1 h2 g1, hcs _ _ g2⟩
    · rw [ST_8] at h ⊢
      obtain ⟨h1, h2, hv, h⟩ := h
      obtain ⟨a1, g1, g2⟩ := h
      exact ⟨by omega, by omega, hv, a1, hk.cell h1 h2 g1, hcs _ _ g2⟩
    · rw [ST_9] at h ⊢
      obtain ⟨h1, h2, hv, h⟩ := h
      exact ⟨by omega, by omega, hv, h.1, hb0 _ h.2⟩
    · rw [ST_10] at h ⊢
      obtain ⟨h1, h2, hv, h⟩ := h
      obtain ⟨hl, g1, g2, v', g3, g4⟩ := h
      exact ⟨by omega, by omega, hv, hl, g1.keepG hk hlo hH h1 h2, g2, v', hk.cell h1 h2 g3, hsi _ g4⟩
    · rw [ST_11] at h ⊢
      obtain ⟨h1, h2, hv, h⟩ := h
      exact ⟨by omega, by omega, hv, h.1, hk.cell h1 h2 h.2.1, h.2.2.1.keepG hk hlo hH h1 h2, h.2.2.2.1, h.2.2.2.2.imp fun cs hcs => (hk.heap a h1 h2).trans hcs⟩
    · rw [ST_12] at h ⊢
      obtain ⟨h1, h2, hv, h⟩ := h
      exact ⟨by omega, by omega, hv, h.1, hk.cell h1 h2 h.2.1, h.2.2.keepG hk hlo hH h1 h2⟩
    · rw [ST_13] at h ⊢
      obtain ⟨h1, h2, hv, h⟩ := h
      exact ⟨by omega, by omega, hv, h.1, hk.cell h1 h2 h.2.1, h.2.2.keepG hk hlo hH h1 h2⟩
    · rw [ST_14] at h ⊢
      obtain ⟨h1, h2, hv, h⟩ := h
      exact ⟨by omega, by omega, hv, h.1, hk.cell h1 h2 h.2.1, hk.cell h1 h2 h.2.2⟩
    · rw [ST_15] at h ⊢
      obtain ⟨h1, h2, hv, h⟩ := h
      obtain ⟨g0, g, p, g1, g2, g3, g4, g5, g6⟩ := h
      exact ⟨by omega, by omega, hv, g0, g, p, by omega, by omega, hk.cell h1 h2 g3, hk.cell g1 g2 g4, hk.cell g1 g2 g5, g6⟩
    · rw [ST_16] at h ⊢
      obtain ⟨h1, h2, hv, h⟩ := h
      obtain ⟨g0, g1, p, g2, g3⟩ := h
      exact ⟨by omega, by omega, hv, g0, hk.cell h1 h2 g1, p, hk.cell h1 h2 g2, g3⟩
    · rw [ST_17] at h ⊢
      obtain ⟨h1, h2, hv, h⟩ := h
      obtain ⟨g0, g, p, g1, g2, g3, g4, g5, g6⟩ := h
      exact ⟨by omega, by omega, hv, g0, g, p, by omega, by omega, hk.cell h1 h2 g3, hk.cell g1 g2 g4, hk.cell g1 g2 g5, g6⟩
    · rw [ST_18] at h ⊢
      obtain ⟨h1, h2, hv, h⟩ := h
      exact ⟨by omega, by omega, hv, h.1.keepG hk hlo hH h1 h2, h.2⟩
    · rw [ST_19] at h ⊢
      obtain ⟨h1, h2, hv, h⟩ := h
      exact ⟨by omega, by omega, hv, h.keepG hk hlo hH h1 h2⟩
    · rw [ST_20] at h ⊢
      obtain ⟨h1, h2, hv, h⟩ := h
      exact ⟨by omega, by omega, hv, h⟩
theorem TL.keepG {lo lo' H H' : Nat} {ps ps' : List Nat} {w w' : World} (hk : Kept lo H ps ps' w w') (hlo : lo' ≤ lo) (hH : H ≤ H') : ∀ {y : List Tr} {b o : Nat}, TL w lo H ps b o y → TL w' lo' H' ps' b o y
  | [], _, _, _ => TL_nil
  | t :: ts, b, o, h => by
    obtain ⟨h1, h2, ⟨v, h3, h4⟩, h5⟩ := TL_cons.1 h
    exact TL_cons.2 ⟨by omega, by omega, ⟨v, hk.cell h1 h2 h3, ST.keepG hk hlo hH h4⟩, TL.keepG hk hlo hH h5⟩
theorem BS0.keepG {lo lo' H H' : Nat} {ps ps' : List Nat} {w w' : World} (hk : Kept lo H ps ps' w w') (hlo : lo' ≤ lo) (hH : H ≤ H') : ∀ {b : List (List Tr)} {a : Nat}, BS0 w lo H ps a b → BS0 w' lo' H' ps' a b
  | [], a, h => by
    rw [BS0] at h ⊢
    exact ⟨by have := h.1; omega, by omega, hk.cell h.1 h.2.1 h.2.2⟩
  | y :: ys, a, h => by
    rw [BS0] at h ⊢
    obtain ⟨h1, h2, sa, cap, h3, h4, b, o, h5, h6⟩ := h
    exact ⟨by omega, by omega, sa, cap, hk.cell h1 h2 h3, h4, b, o, h5, TL.keepG hk hlo hH h6⟩
theorem BS1.keepG {lo lo' H H' : Nat} {ps ps' : List Nat} {w w' : World} (hk : Kept lo H ps ps' w w') (hlo : lo' ≤ lo) (hH : H ≤ H') : ∀ {b : List (List Tr)} {e : Value}, BS1 w lo H ps e b → BS1 w' lo' H' ps' e b
  | [], e, h => by rw [BS1] at h ⊢ <;> first | exact h | (intro _ _ _ hh; cases hh)
  | [y], e, h => by rw [BS1] at h ⊢ <;> first | exact h | (intro _ _ _ hh; cases hh)
  | y :: z :: ys, e, h => by
    rw [BS1] at h ⊢
    obtain ⟨a, h0, h1, h2, sa, cap, h3, h4, b, o, h5, h6⟩ := h
    exact ⟨a, h0, by omega, by omega, sa, cap, hk.cell h1 h2 h3, h4, b, o, h5, TL.keepG hk hlo hH h6⟩
theorem SI.keepG {lo lo' H H' : Nat} {ps ps' : List Nat} {w w' : World} (hk : Kept lo H ps ps' w w') (hlo : lo' ≤ lo) (hH : H ≤ H') : ∀ {b : List (List Tr)} {e : Value}, SI w lo H ps e b → SI w' lo' H' ps' e b
  | [], e, h => by rw [SI] at h ⊢; exact h
  | [] :: _, e, h => by rw [SI] at h ⊢; exact h
  | (t :: ts) :: _, e, h => by
    rw [SI] at h ⊢
    exact ⟨h.1, ST.keepG hk hlo hH h.2⟩
theorem CL.keepG {lo lo' H H' : Nat} {ps ps' : List Nat} {w w' : World} (hk : Kept lo H ps ps' w w') (hlo : lo' ≤ lo) (hH : H ≤ H') : ∀ {b : List (List Tr)} {sel : Bool} {b' o i : Nat} {d : Int}, CL w lo H ps sel b' o i d b → CL w' lo' H' ps' sel b' o i d b
  | [], _, _, _, _, _, _ => by rw [CL]; trivial
  | y :: ys, sel, b', o, i, d, h => by
    rw [CL] at h ⊢
    obtain ⟨h1, h2, ⟨c, h3, h4, h5, h6, sa, cap, h7, h8, b, o, h9, h10⟩, h11⟩ := h
    refine ⟨by omega, by omega, ⟨c, by omega, by omega, hk.cell h1 h2 h5, fun hs => ?_, sa, cap, hk.cell h3 h4 h7, h8, b, o, h9, TL.keepG hk hlo hH h10⟩, CL.keepG hk hlo hH h11⟩
    have h6 := h6 hs
    split
    · rename_i hd
      rw [if_pos hd] at h6
      exact hk.cell h3 h4 h6
    · rename_i hd
      rw [if_neg hd] at h6
      obtain ⟨x, h6⟩ := h6
      exact ⟨x, hk.cell h3 h4 h6⟩
end
theorem ST.keep {lo H H' : Nat} {ps ps' : List Nat} {w w' : World} (hk : Kept lo H ps ps' w w') (hH : H ≤ H') {t : Tr} {v : Value} (h : ST w lo H ps v t) : ST w' lo H' ps' v t := ST.keepG hk (Nat.le_refl _) hH h
theorem TL.keep {lo H H' : Nat} {ps ps' : List Nat} {w w' : World} (hk : Kept lo H ps ps' w w') (hH : H ≤ H') {y : List Tr} {b o : Nat} (h : TL w lo H ps b o y) : TL w' lo H' ps' b o y := TL.keepG hk (Nat.le_refl _) hH h
theorem SI.keep {lo H H' : Nat} {ps ps' : List Nat} {w w' : World} (hk : Kept lo H ps ps' w w') (hH : H ≤ H') {b : List (List Tr)} {e : Value} (h : SI w lo H ps e b) : SI w' lo H' ps' e b := SI.keepG hk (Nat.le_refl _) hH h
theorem BS0.keep {lo H H' : Nat} {ps ps' : List Nat} {w w' : World} (hk : Kept lo H ps ps' w w') (hH : H ≤ H') {b : List (List Tr)} {e : Nat} (h : BS0 w lo H ps e b) : BS0 w' lo H' ps' e b := BS0.keepG hk (Nat.le_refl _) hH h
/-- Element i of a list that lies in memory. -/
theorem TL.at {w : World} {lo H b : Nat} {ps : List Nat} : ∀ {l : List Tr} {o : Nat}, TL w lo H ps b o l → ∀ i, i < l.length →
    lo ≤ b ∧ b < H ∧ ∃ t v, l.drop i = t :: l.drop (i + 1) ∧ l[i]? = some t ∧ w.cell? ⟨b, o + i, none⟩ = some v ∧ ST w lo H ps v t
  | t :: ts, o, h, 0, _ => by
    obtain ⟨h1, h2, ⟨v, h3, h4⟩, h5⟩ := TL_cons.1 h
    exact ⟨h1, h2, t, v, rfl, rfl, by simpa using h3, h4⟩
  | t :: ts, o, h, i + 1, hi => by
    obtain ⟨h1, h2, ⟨v, h3, h4⟩, h5⟩ := TL_cons.1 h
    obtain ⟨g1, g2, t', v', g3, g4, g5, g6⟩ := TL.at h5 i (by simpa using hi)
    have e : o + 1 + i = o + (i + 1) := by omega
    rw [e] at g5
    exact ⟨h1, h2, t', v', by simpa using g3, by simpa using g4, g5, g6⟩
/-- Clause i of a switch or a select that lies in memory. -/
theorem CL.at {w : World} {lo H b : Nat} {ps : List Nat} {sel : Bool} {d : Int} : ∀ {l : List (List Tr)} {o j : Nat}, CL w lo H ps sel b o j d l → ∀ i, i < l.length →
    lo ≤ b ∧ b < H ∧ ∃ y c, l.drop i = y :: l.drop (i + 1) ∧ l[i]? = some y ∧ w.cell? ⟨b, o + i, none⟩ = some (.iface (if sel then 195 else 192) (.pointer (some ⟨c, 0, none⟩))) ∧ lo ≤ c ∧ c < H ∧
      (sel = false → if ((j + i : Nat) : Int) = d then w.cell? ⟨c, 1, none⟩ = some (.slice none 0 0) else ∃ x, w.cell? ⟨c, 1, none⟩ = some (.slice (some x) 1 1)) ∧
      ∃ sa cap, w.cell? ⟨c, 3, none⟩ = some (.slice sa y.length cap) ∧ y.length ≤ 8796093022208 ∧ ∃ b' o', (y ≠ [] → sa = some ⟨b', o', none⟩) ∧ TL w lo H ps b' o' y
  | y :: ys, o, j, h, 0, _ => by
    rw [CL] at h
    obtain ⟨h1, h2, ⟨c, h3, h4, h5, h6, h7⟩, h8⟩ := h
    exact ⟨h1, h2, y, c, rfl, rfl, by simpa using h5, h3, h4, h6, h7⟩
  | y :: ys, o, j, h, i + 1, hi => by
    rw [CL] at h
    obtain ⟨h1, h2, ⟨c, h3, h4, h5, h6, h7⟩, h8⟩ := h
    obtain ⟨g1, g2, y', c', g3, g4, g5, g6, g7, g8, g9⟩ := CL.at h8 i (by simpa using hi)
    have e : o + 1 + i = o + (i + 1) := by omega
    have e2 : j + 1 + i = j + (i + 1) := by omega
    rw [e] at g5
    rw [e2] at g8
    exact ⟨h1, h2, y', c', by simpa using g3, by simpa using g4, g5, g6, g7, g8, g9⟩
theorem rtL_at : ∀ {l : List Tr} {i : Nat} {x : Tr}, l[i]? = some x → rt x ≤ rtL l
  | y :: ys, 0, x, h => by simp at h; subst h; rw [rtL]; omega
  | y :: ys, i + 1, x, h => by have := rtL_at (l := ys) (i := i) (x := x) (by simpa using h); rw [rtL]; omega
theorem rtB_at : ∀ {b : List (List Tr)} {i : Nat} {y : List Tr}, b[i]? = some y → rtL y < rtB b
  | z :: zs, 0, x, h => by simp at h; subst h; rw [rtB]; omega
  | z :: zs, i + 1, x, h => by have := rtB_at (b := zs) (i := i) (y := x) (by simpa using h); rw [rtB]; omega
theorem rt_mk (a : Nat) (k l d : Int) (b : List (List Tr)) : rt (.mk a k l d b) = rtB b + 1 := by rw [rt]
theorem er_mk (a : Nat) (k l d : Int) (b : List (List Tr)) : er (.mk a k l d b) = .mk k l d (erB b) := by rw [er]
theorem erL_cons (t : Tr) (ts : List Tr) : erL (t :: ts) = er t :: erL ts := by rw [erL]
theorem erB_cons (y : List Tr) (ys : List (List Tr)) : erB (y :: ys) = erL y :: erB ys := by rw [erB]
theorem erL_nil : erL [] = [] := by rw [erL]
theorem erB_nil : erB [] = [] := by rw [erB]
theorem erL_map (l : List Tr) : erL l = l.map er := by
  induction l with
  | nil => rw [erL]; rfl
  | cons t ts ih => rw [erL, ih]; rfl
theorem erB_map (l : List (List Tr)) : erB l = l.map erL := by
  induction l with
  | nil => rw [erB]; rfl
  | cons t ts ih => rw [erB, ih]; rfl
theorem erL_length (l : List Tr) : (erL l).length = l.length := by rw [erL_map, List.length_map]
theorem erB_length (l : List (List Tr)) : (erB l).length = l.length := by rw [erB_map, List.length_map]
end Go.Proofs.YtpodifbgfcclbaaGreatDoor
