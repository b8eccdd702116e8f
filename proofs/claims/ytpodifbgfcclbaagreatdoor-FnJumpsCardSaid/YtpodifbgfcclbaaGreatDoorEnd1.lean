/- What goflow.hasBreak computes of the tree of a statement. -/
import Derived.Test.YtpodifbgfcclbaaGreatDoorTa
set_option linter.unusedVariables false
set_option linter.unusedSimpArgs false
namespace Go.Proofs.YtpodifbgfcclbaaGreatDoor
open Go.RowKit
attribute [local go_sem] Nat.lt_add_one_of_lt

/-- What a function leaves that hands back yes or no and turns nothing. -/
def RetQ (w : World) (b : Bool) (e : Ending) (w' : World) : Prop := e = .returned (.bool b) ∧ w = w'
theorem nm_eqs {l m : Int} (h1 : -1 ≤ l) (h2 : l ≤ 9) (h3 : -1 ≤ m) (h4 : m ≤ 9) : ((nm l).toList == (nm m).toList) = (l == m) := by
  rw [ByteArray.toList_eq, ByteArray.toList_eq]
  have hl : l = -1 ∨ l = 0 ∨ l = 1 ∨ l = 2 ∨ l = 3 ∨ l = 4 ∨ l = 5 ∨ l = 6 ∨ l = 7 ∨ l = 8 ∨ l = 9 := by omega
  have hm : m = -1 ∨ m = 0 ∨ m = 1 ∨ m = 2 ∨ m = 3 ∨ m = 4 ∨ m = 5 ∨ m = 6 ∨ m = 7 ∨ m = 8 ∨ m = 9 := by omega
  rcases hl with rfl | rfl | rfl | rfl | rfl | rfl | rfl | rfl | rfl | rfl | rfl <;> rcases hm with rfl | rfl | rfl | rfl | rfl | rfl | rfl | rfl | rfl | rfl | rfl <;> decide
theorem nm_empty {l : Int} (h1 : -1 ≤ l) (h2 : l ≤ 9) : (nm l).toList.isEmpty = (l == 0) := by
  rw [ByteArray.toList_eq]
  have hl : l = -1 ∨ l = 0 ∨ l = 1 ∨ l = 2 ∨ l = 3 ∨ l = 4 ∨ l = 5 ∨ l = 6 ∨ l = 7 ∨ l = 8 ∨ l = 9 := by omega
  rcases hl with rfl | rfl | rfl | rfl | rfl | rfl | rfl | rfl | rfl | rfl | rfl <;> decide
theorem any_drop {α : Type} (xs : List α) (f : α → Bool) (k : Nat) (x : α) (h : xs.drop k = x :: xs.drop (k + 1)) : (xs.drop k).any f = (f x || (xs.drop (k + 1)).any f) := by rw [h, List.any_cons]
theorem drop_at {α : Type} (xs : List α) (k : Nat) (h : k < xs.length) : ∃ x, xs[k]? = some x ∧ xs.drop k = x :: xs.drop (k + 1) :=
  ⟨xs[k], List.getElem?_eq_getElem h, List.drop_eq_getElem_cons h⟩

set_option maxHeartbeats 1000000 in
/-- hasBreakList over whatever elements of which hasBreak is known. -/
theorem hbl_gen {α : Type} (xs : List α) (f : α → Bool) (sa : Option Addr) (cap b o : Nat) (s : ByteArray) (imp : Bool) (w : World) (hsa : xs ≠ [] → sa = some ⟨b, o, none⟩) (hlen : xs.length ≤ 8796093022208)
    (hx : ∀ i x, xs[i]? = some x → ∃ v, w.cell? ⟨b, o + i, none⟩ = some v ∧ Calls Tryz.prog 92 #[v, .string s, .bool imp] w (RetQ w (f x))) :
    Calls Tryz.prog 91 #[.slice sa xs.length cap, .string s, .bool imp] w (RetQ w (xs.any f)) := by
  have HX := Lib.hid hx
  clear hx
  go_enter Tryz.func91, Tryz.ntmps91
  go_wp2_with fail
  go_loopg [11] xs.length (fun g vi wr => ∃ k : Nat, k + g = xs.length ∧ vi = .int .i64 k ∧ Hid ((xs.drop k).any f = xs.any f) ∧ w = wr)
  case atStart => exact ⟨0, by omega, rfl, rfl, rfl⟩
  case round =>
    obtain ⟨k, hk, rfl, hrest, rfl⟩ := hrel
    by_cases hlt : k < xs.length
    · obtain ⟨x, hx1, hx2⟩ := drop_at xs k hlt
      obtain ⟨v, hv, hcall⟩ := HX.out k x hx1
      have HC := Lib.hid hcall
      have hR := hrest.out
      rw [any_drop xs f k x hx2] at hR
      have HR := Lib.hid hR
      obtain rfl := hsa (by rintro rfl; simp at hlt)
      clear hR hrest hcall hx1 hx2 hsa
      generalize hZ : f x = Z at *
      go_wp2_with fail
      refine HC.out.mono ?_
      rintro e w1 ⟨rfl, rfl⟩
      cases Z with
      | true =>
        go_wp2_with fail
        go_ret
        exact ⟨by rw [← HR.out]; rfl, rfl⟩
      | false =>
        go_wp2_with fail
        have h5 := HR.out
        rw [Bool.false_or] at h5
        go_roundg (gk - 1)
        case measure => omega
        case rel => exact ⟨k + 1, by omega, by go_num, h5, rfl⟩
    · go_wp2_with fail
      go_ret
      have h5 := hrest.out
      rw [List.drop_eq_nil_of_le (by omega), List.any_nil] at h5
      exact ⟨by rw [← h5]; rfl, rfl⟩

set_option maxRecDepth 100000 in
set_option maxHeartbeats 1000000 in
theorem hb_block (a1 : Nat) (sa : Option Addr) (n cap : Nat) (s : ByteArray) (imp r : Bool) (w : World) (hc : w.cell? ⟨a1, 1, none⟩ = some (.slice sa n cap)) (h : Calls Tryz.prog 91 #[.slice sa n cap, .string s, .bool imp] w (RetQ w r)) :
    Calls Tryz.prog 92 #[.iface 50 (.pointer (some ⟨a1, 0, none⟩)), .string s, .bool imp] w (RetQ w r) := by
  have HC := Lib.hid h
  clear h
  go_enter Tryz.func92, Tryz.ntmps92
  go_wp2_with fail
  refine HC.out.mono ?_
  rintro e w1 ⟨rfl, rfl⟩
  go_wp2_with fail
  go_ret
  exact ⟨rfl, rfl⟩

set_option maxRecDepth 100000 in
set_option maxHeartbeats 1000000 in
theorem hb_clause192 (c : Nat) (sa : Option Addr) (n cap : Nat) (s : ByteArray) (imp r : Bool) (w : World) (hc : w.cell? ⟨c, 3, none⟩ = some (.slice sa n cap)) (h : Calls Tryz.prog 91 #[.slice sa n cap, .string s, .bool imp] w (RetQ w r)) :
    Calls Tryz.prog 92 #[.iface 192 (.pointer (some ⟨c, 0, none⟩)), .string s, .bool imp] w (RetQ w r) := by
  have HC := Lib.hid h
  clear h
  go_enter Tryz.func92, Tryz.ntmps92
  go_wp2_with fail
  refine HC.out.mono ?_
  rintro e w1 ⟨rfl, rfl⟩
  go_wp2_with fail
  go_ret
  exact ⟨rfl, rfl⟩

set_option maxRecDepth 100000 in
set_option maxHeartbeats 1000000 in
theorem hb_clause195 (c : Nat) (sa : Option Addr) (n cap : Nat) (s : ByteArray) (imp r : Bool) (w : World) (hc : w.cell? ⟨c, 3, none⟩ = some (.slice sa n cap)) (h : Calls Tryz.prog 91 #[.slice sa n cap, .string s, .bool imp] w (RetQ w r)) :
    Calls Tryz.prog 92 #[.iface 195 (.pointer (some ⟨c, 0, none⟩)), .string s, .bool imp] w (RetQ w r) := by
  have HC := Lib.hid h
  clear h
  go_enter Tryz.func92, Tryz.ntmps92
  go_wp2_with fail
  refine HC.out.mono ?_
  rintro e w1 ⟨rfl, rfl⟩
  go_wp2_with fail
  go_ret
  exact ⟨rfl, rfl⟩

set_option maxRecDepth 100000 in
set_option maxHeartbeats 1000000 in
theorem hb_leaf115 (a : Nat) (s : ByteArray) (imp : Bool) (w : World) :
    Calls Tryz.prog 92 #[.iface 115 (.pointer (some ⟨a, 0, none⟩)), .string s, .bool imp] w (RetQ w false) := by
  go_enter Tryz.func92, Tryz.ntmps92
  go_wp2_with fail
  go_ret
  exact ⟨rfl, rfl⟩

set_option maxRecDepth 100000 in
set_option maxHeartbeats 1000000 in
theorem hb_leaf121 (a : Nat) (s : ByteArray) (imp : Bool) (w : World) :
    Calls Tryz.prog 92 #[.iface 121 (.pointer (some ⟨a, 0, none⟩)), .string s, .bool imp] w (RetQ w false) := by
  go_enter Tryz.func92, Tryz.ntmps92
  go_wp2_with fail
  go_ret
  exact ⟨rfl, rfl⟩

set_option maxRecDepth 100000 in
set_option maxHeartbeats 1000000 in
theorem hb_leaf165 (a : Nat) (s : ByteArray) (imp : Bool) (w : World) :
    Calls Tryz.prog 92 #[.iface 165 (.pointer (some ⟨a, 0, none⟩)), .string s, .bool imp] w (RetQ w false) := by
  go_enter Tryz.func92, Tryz.ntmps92
  go_wp2_with fail
  go_ret
  exact ⟨rfl, rfl⟩

set_option maxRecDepth 100000 in
set_option maxHeartbeats 1000000 in
theorem hb_leaf189 (a : Nat) (s : ByteArray) (imp : Bool) (w : World) :
    Calls Tryz.prog 92 #[.iface 189 (.pointer (some ⟨a, 0, none⟩)), .string s, .bool imp] w (RetQ w false) := by
  go_enter Tryz.func92, Tryz.ntmps92
  go_wp2_with fail
  go_ret
  exact ⟨rfl, rfl⟩

set_option maxRecDepth 100000 in
set_option maxHeartbeats 1000000 in
theorem hb_leaf112 (a : Nat) (s : ByteArray) (imp : Bool) (w : World) :
    Calls Tryz.prog 92 #[.iface 112 (.pointer (some ⟨a, 0, none⟩)), .string s, .bool imp] w (RetQ w false) := by
  go_enter Tryz.func92, Tryz.ntmps92
  go_wp2_with fail
  go_ret
  exact ⟨rfl, rfl⟩

set_option maxRecDepth 100000 in
set_option maxHeartbeats 1000000 in
theorem hb_break (a : Nat) (l lb : Int) (imp : Bool) (w : World) (lo H : Nat) (g1 : w.cell? ⟨a, 1, none⟩ = some (.int .i64 61)) (hl : NL w lo H a 2 l) (h1 : -1 ≤ lb) (h2 : lb ≤ 9) :
    Calls Tryz.prog 92 #[.iface 95 (.pointer (some ⟨a, 0, none⟩)), .string (nm lb), .bool imp] w (RetQ w (if l = 0 then imp else l == lb)) := by
  obtain ⟨g2, g3, g4⟩ := hl
  by_cases hl : l = 0
  · subst hl
    rw [if_pos rfl] at g4
    rw [if_pos rfl]
    go_enter Tryz.func92, Tryz.ntmps92
    go_wp2_with fail
    go_ret
    exact ⟨rfl, rfl⟩
  · rw [if_neg hl] at g4
    rw [if_neg hl]
    obtain ⟨i, p, g5, g6, g7, g8, g9⟩ := g4
    have he := nm_eqs g2 g3 h1 h2
    cases hZ : (l == lb) with
    | true =>
      rw [hZ] at he
      go_enter Tryz.func92, Tryz.ntmps92
      go_wp2_with fail
      go_ret
      exact ⟨rfl, rfl⟩
    | false =>
      rw [hZ] at he
      go_enter Tryz.func92, Tryz.ntmps92
      go_wp2_with fail
      go_ret
      exact ⟨rfl, rfl⟩
set_option maxRecDepth 100000 in
set_option maxHeartbeats 1000000 in
theorem hb_branch (a : Nat) (tok : Int) (s : ByteArray) (imp : Bool) (w : World) (g1 : w.cell? ⟨a, 1, none⟩ = some (.int .i64 tok)) (ht : (tok == 61) = false) :
    Calls Tryz.prog 92 #[.iface 95 (.pointer (some ⟨a, 0, none⟩)), .string s, .bool imp] w (RetQ w false) := by
  go_enter Tryz.func92, Tryz.ntmps92
  go_wp2_with fail
  go_ret
  exact ⟨rfl, rfl⟩
set_option maxRecDepth 100000 in
set_option maxHeartbeats 1000000 in
theorem hb_labeled (a : Nat) (v : Value) (s : ByteArray) (imp r : Bool) (w : World) (g1 : w.cell? ⟨a, 2, none⟩ = some v) (h : Calls Tryz.prog 92 #[v, .string s, .bool imp] w (RetQ w r)) :
    Calls Tryz.prog 92 #[.iface 156 (.pointer (some ⟨a, 0, none⟩)), .string s, .bool imp] w (RetQ w r) := by
  have HC := Lib.hid h
  clear h
  go_enter Tryz.func92, Tryz.ntmps92
  go_wp2_with fail
  refine HC.out.mono ?_
  rintro e w1 ⟨rfl, rfl⟩
  go_wp2_with fail
  go_ret
  exact ⟨rfl, rfl⟩
set_option maxRecDepth 100000 in
set_option maxHeartbeats 1000000 in
theorem hb_if (a a1 : Nat) (el : Value) (s : ByteArray) (imp r : Bool) (w : World) (g1 : w.cell? ⟨a, 3, none⟩ = some (.pointer (some ⟨a1, 0, none⟩))) (g2 : w.cell? ⟨a, 4, none⟩ = some .nilIface)
    (h : Calls Tryz.prog 92 #[.iface 50 (.pointer (some ⟨a1, 0, none⟩)), .string s, .bool imp] w (RetQ w r)) :
    Calls Tryz.prog 92 #[.iface 126 (.pointer (some ⟨a, 0, none⟩)), .string s, .bool imp] w (RetQ w r) := by
  have HC := Lib.hid h
  clear h
  go_enter Tryz.func92, Tryz.ntmps92
  go_wp2_with fail
  refine HC.out.mono ?_
  rintro e w1 ⟨rfl, rfl⟩
  cases r with
  | true =>
    go_wp2_with fail
    go_ret
    exact ⟨rfl, rfl⟩
  | false =>
    go_wp2_with fail
    go_ret
    exact ⟨rfl, rfl⟩
set_option maxRecDepth 100000 in
set_option maxHeartbeats 1000000 in
theorem hb_ifelse (a a1 a2 : Nat) (s : ByteArray) (imp r r2 : Bool) (w : World) (g1 : w.cell? ⟨a, 3, none⟩ = some (.pointer (some ⟨a1, 0, none⟩))) (g2 : w.cell? ⟨a, 4, none⟩ = some (.iface 50 (.pointer (some ⟨a2, 0, none⟩))))
    (h : Calls Tryz.prog 92 #[.iface 50 (.pointer (some ⟨a1, 0, none⟩)), .string s, .bool imp] w (RetQ w r)) (h2 : Calls Tryz.prog 92 #[.iface 50 (.pointer (some ⟨a2, 0, none⟩)), .string s, .bool imp] w (RetQ w r2)) :
    Calls Tryz.prog 92 #[.iface 126 (.pointer (some ⟨a, 0, none⟩)), .string s, .bool imp] w (RetQ w (r || r2)) := by
  have HC := Lib.hid h
  have HC2 := Lib.hid h2
  clear h h2
  go_enter Tryz.func92, Tryz.ntmps92
  go_wp2_with fail
  refine HC.out.mono ?_
  rintro e w1 ⟨rfl, rfl⟩
  cases r with
  | true =>
    go_wp2_with fail
    go_ret
    exact ⟨rfl, rfl⟩
  | false =>
    go_wp2_with fail
    refine HC2.out.mono ?_
    rintro e w1 ⟨rfl, rfl⟩
    cases r2 with
    | true =>
      go_wp2_with fail
      go_ret
      exact ⟨rfl, rfl⟩
    | false =>
      go_wp2_with fail
      go_ret
      exact ⟨rfl, rfl⟩

set_option maxRecDepth 100000 in
set_option maxHeartbeats 1000000 in
theorem hb_inner137 (a a1 : Nat) (lb : Int) (imp r : Bool) (w : World) (h1 : -1 ≤ lb) (h2 : lb ≤ 9) (g1 : w.cell? ⟨a, 3, none⟩ = some (.pointer (some ⟨a1, 0, none⟩)))
    (h : Calls Tryz.prog 92 #[.iface 50 (.pointer (some ⟨a1, 0, none⟩)), .string (nm lb), .bool false] w (RetQ w r)) :
    Calls Tryz.prog 92 #[.iface 137 (.pointer (some ⟨a, 0, none⟩)), .string (nm lb), .bool imp] w (RetQ w ((!(lb == 0)) && r)) := by
  have HC := Lib.hid h
  clear h
  have he := nm_empty h1 h2
  cases hZ : (lb == 0) with
  | true =>
    rw [hZ] at he
    have he2 : (nm lb).toList = [] := List.isEmpty_iff.1 he
    go_enter Tryz.func92, Tryz.ntmps92
    go_wp2_with fail
    go_ret
    exact ⟨rfl, rfl⟩
  | false =>
    rw [hZ] at he
    have he2 : ¬ (nm lb).toList = [] := fun h => by rw [h] at he; exact absurd he (by decide)
    go_enter Tryz.func92, Tryz.ntmps92
    go_wp2_with fail
    refine HC.out.mono ?_
    rintro e w1 ⟨rfl, rfl⟩
    cases r with
    | true =>
      go_wp2_with fail
      go_ret
      exact ⟨rfl, rfl⟩
    | false =>
      go_wp2_with fail
      go_ret
      exact ⟨rfl, rfl⟩

set_option maxRecDepth 100000 in
set_option maxHeartbeats 1000000 in
theorem hb_inner141 (a a1 : Nat) (lb : Int) (imp r : Bool) (w : World) (h1 : -1 ≤ lb) (h2 : lb ≤ 9) (g1 : w.cell? ⟨a, 3, none⟩ = some (.pointer (some ⟨a1, 0, none⟩)))
    (h : Calls Tryz.prog 92 #[.iface 50 (.pointer (some ⟨a1, 0, none⟩)), .string (nm lb), .bool false] w (RetQ w r)) :
    Calls Tryz.prog 92 #[.iface 141 (.pointer (some ⟨a, 0, none⟩)), .string (nm lb), .bool imp] w (RetQ w ((!(lb == 0)) && r)) := by
  have HC := Lib.hid h
  clear h
  have he := nm_empty h1 h2
  cases hZ : (lb == 0) with
  | true =>
    rw [hZ] at he
    have he2 : (nm lb).toList = [] := List.isEmpty_iff.1 he
    go_enter Tryz.func92, Tryz.ntmps92
    go_wp2_with fail
    go_ret
    exact ⟨rfl, rfl⟩
  | false =>
    rw [hZ] at he
    have he2 : ¬ (nm lb).toList = [] := fun h => by rw [h] at he; exact absurd he (by decide)
    go_enter Tryz.func92, Tryz.ntmps92
    go_wp2_with fail
    refine HC.out.mono ?_
    rintro e w1 ⟨rfl, rfl⟩
    cases r with
    | true =>
      go_wp2_with fail
      go_ret
      exact ⟨rfl, rfl⟩
    | false =>
      go_wp2_with fail
      go_ret
      exact ⟨rfl, rfl⟩

set_option maxRecDepth 100000 in
set_option maxHeartbeats 1000000 in
theorem hb_inner147 (a a1 : Nat) (lb : Int) (imp r : Bool) (w : World) (h1 : -1 ≤ lb) (h2 : lb ≤ 9) (g1 : w.cell? ⟨a, 1, none⟩ = some (.pointer (some ⟨a1, 0, none⟩)))
    (h : Calls Tryz.prog 92 #[.iface 50 (.pointer (some ⟨a1, 0, none⟩)), .string (nm lb), .bool false] w (RetQ w r)) :
    Calls Tryz.prog 92 #[.iface 147 (.pointer (some ⟨a, 0, none⟩)), .string (nm lb), .bool imp] w (RetQ w ((!(lb == 0)) && r)) := by
  have HC := Lib.hid h
  clear h
  have he := nm_empty h1 h2
  cases hZ : (lb == 0) with
  | true =>
    rw [hZ] at he
    have he2 : (nm lb).toList = [] := List.isEmpty_iff.1 he
    go_enter Tryz.func92, Tryz.ntmps92
    go_wp2_with fail
    go_ret
    exact ⟨rfl, rfl⟩
  | false =>
    rw [hZ] at he
    have he2 : ¬ (nm lb).toList = [] := fun h => by rw [h] at he; exact absurd he (by decide)
    go_enter Tryz.func92, Tryz.ntmps92
    go_wp2_with fail
    refine HC.out.mono ?_
    rintro e w1 ⟨rfl, rfl⟩
    cases r with
    | true =>
      go_wp2_with fail
      go_ret
      exact ⟨rfl, rfl⟩
    | false =>
      go_wp2_with fail
      go_ret
      exact ⟨rfl, rfl⟩

set_option maxRecDepth 100000 in
set_option maxHeartbeats 1000000 in
theorem hb_inner130 (a a1 : Nat) (lb : Int) (imp r : Bool) (w : World) (h1 : -1 ≤ lb) (h2 : lb ≤ 9) (g1 : w.cell? ⟨a, 4, none⟩ = some (.pointer (some ⟨a1, 0, none⟩)))
    (h : Calls Tryz.prog 92 #[.iface 50 (.pointer (some ⟨a1, 0, none⟩)), .string (nm lb), .bool false] w (RetQ w r)) :
    Calls Tryz.prog 92 #[.iface 130 (.pointer (some ⟨a, 0, none⟩)), .string (nm lb), .bool imp] w (RetQ w ((!(lb == 0)) && r)) := by
  have HC := Lib.hid h
  clear h
  have he := nm_empty h1 h2
  cases hZ : (lb == 0) with
  | true =>
    rw [hZ] at he
    have he2 : (nm lb).toList = [] := List.isEmpty_iff.1 he
    go_enter Tryz.func92, Tryz.ntmps92
    go_wp2_with fail
    go_ret
    exact ⟨rfl, rfl⟩
  | false =>
    rw [hZ] at he
    have he2 : ¬ (nm lb).toList = [] := fun h => by rw [h] at he; exact absurd he (by decide)
    go_enter Tryz.func92, Tryz.ntmps92
    go_wp2_with fail
    refine HC.out.mono ?_
    rintro e w1 ⟨rfl, rfl⟩
    cases r with
    | true =>
      go_wp2_with fail
      go_ret
      exact ⟨rfl, rfl⟩
    | false =>
      go_wp2_with fail
      go_ret
      exact ⟨rfl, rfl⟩

set_option maxRecDepth 100000 in
set_option maxHeartbeats 1000000 in
theorem hb_inner133 (a a1 : Nat) (lb : Int) (imp r : Bool) (w : World) (h1 : -1 ≤ lb) (h2 : lb ≤ 9) (g1 : w.cell? ⟨a, 7, none⟩ = some (.pointer (some ⟨a1, 0, none⟩)))
    (h : Calls Tryz.prog 92 #[.iface 50 (.pointer (some ⟨a1, 0, none⟩)), .string (nm lb), .bool false] w (RetQ w r)) :
    Calls Tryz.prog 92 #[.iface 133 (.pointer (some ⟨a, 0, none⟩)), .string (nm lb), .bool imp] w (RetQ w ((!(lb == 0)) && r)) := by
  have HC := Lib.hid h
  clear h
  have he := nm_empty h1 h2
  cases hZ : (lb == 0) with
  | true =>
    rw [hZ] at he
    have he2 : (nm lb).toList = [] := List.isEmpty_iff.1 he
    go_enter Tryz.func92, Tryz.ntmps92
    go_wp2_with fail
    go_ret
    exact ⟨rfl, rfl⟩
  | false =>
    rw [hZ] at he
    have he2 : ¬ (nm lb).toList = [] := fun h => by rw [h] at he; exact absurd he (by decide)
    go_enter Tryz.func92, Tryz.ntmps92
    go_wp2_with fail
    refine HC.out.mono ?_
    rintro e w1 ⟨rfl, rfl⟩
    cases r with
    | true =>
      go_wp2_with fail
      go_ret
      exact ⟨rfl, rfl⟩
    | false =>
      go_wp2_with fail
      go_ret
      exact ⟨rfl, rfl⟩

end Go.Proofs.YtpodifbgfcclbaaGreatDoor
