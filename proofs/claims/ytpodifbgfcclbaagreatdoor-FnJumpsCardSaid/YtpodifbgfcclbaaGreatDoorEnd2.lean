/- goflow.hasBreak and hasBreakList over every tree. -/
import Derived.Test.YtpodifbgfcclbaaGreatDoorEnd1
import Derived.Test.YtpodifbgfcclbaaGreatDoorMap1
import Derived.Deep.QuietTactic
import Derived.BigQuiet
import Derived.Deep.Draws
set_option linter.unusedVariables false
set_option linter.unusedSimpArgs false
namespace Go.Proofs.YtpodifbgfcclbaaGreatDoor
open Go.RowKit

def HbF (t : Tr) : Prop := ∀ (v : Value) (lo H : Nat) (ps : List Nat) (lb : Int) (imp : Bool) (w : World), ST w lo H ps v t → -1 ≤ lb → lb ≤ 9 →
    Calls Tryz.prog 92 #[v, .string (nm lb), .bool imp] w (RetQ w (hbF (er t) lb imp))
def HbL (y : List Tr) : Prop := ∀ (sa : Option Addr) (cap b o lo H : Nat) (ps : List Nat) (lb : Int) (imp : Bool) (w : World), (y ≠ [] → sa = some ⟨b, o, none⟩) → y.length ≤ 8796093022208 → TL w lo H ps b o y → -1 ≤ lb → lb ≤ 9 →
    Calls Tryz.prog 91 #[.slice sa y.length cap, .string (nm lb), .bool imp] w (RetQ w (hbL (erL y) lb imp))
theorem hbL_any (y : List Tr) (lb : Int) (imp : Bool) : hbL (erL y) lb imp = y.any fun t => hbF (er t) lb imp := by
  induction y with
  | nil => rw [erL, hbL]; rfl
  | cons t ts ih => rw [erL, hbL, ih]; rfl
theorem hbB_any (b : List (List Tr)) (lb : Int) (imp : Bool) : hbB (erB b) lb imp = b.any fun y => hbL (erL y) lb imp := by
  induction b with
  | nil => rw [erB, hbB]; rfl
  | cons t ts ih => rw [erB, hbB, ih]; rfl
theorem hbL_of (y : List Tr) (h : ∀ t, rt t ≤ rtL y → HbF t) : HbL y := by
  intro sa cap b o lo H ps lb imp w hsa hlen hy h1 h2
  rw [hbL_any]
  refine hbl_gen y _ sa cap b o _ imp w hsa hlen fun i t hi => ?_
  have hlt : i < y.length := (List.getElem?_eq_some_iff.1 hi).1
  obtain ⟨_, _, t', v, _, g4, g5, g6⟩ := hy.at i hlt
  obtain rfl : t = t' := by rw [hi] at g4; exact Option.some.inj g4
  exact ⟨v, g5, h t (rtL_at hi) v lo H ps lb imp w g6 h1 h2⟩
theorem hb_bs0 (b : List (List Tr)) (hb : b.length < 2) (h : ∀ y ∈ b, HbL y) (a1 lo H : Nat) (ps : List Nat) (lb : Int) (imp : Bool) (w : World) (hs : BS0 w lo H ps a1 b) (h1 : -1 ≤ lb) (h2 : lb ≤ 9) :
    Calls Tryz.prog 92 #[.iface 50 (.pointer (some ⟨a1, 0, none⟩)), .string (nm lb), .bool imp] w (RetQ w (hbB (erB b) lb imp)) := by
  rcases b with _ | ⟨y, _ | ⟨z, zs⟩⟩
  · rw [BS0] at hs
    rw [erB, hbB]
    exact hb_block a1 none 0 0 _ imp false w hs.2.2 (hbl_gen ([] : List Tr) (fun _ => false) none 0 0 0 _ imp w (fun h => absurd rfl h) (by simp) (fun i x hx => by simp at hx))
  · rw [BS0] at hs
    obtain ⟨_, _, sa, cap, g1, g2, b, o, g3, g4⟩ := hs
    rw [erB, hbB, erB, hbB, Bool.or_false]
    exact hb_block a1 sa _ cap _ imp _ w g1 (h y (by simp) sa cap b o lo H ps lb imp w g3 g2 g4 h1 h2)
  · simp at hb; omega
theorem hb_cs (b : List (List Tr)) (h : ∀ y ∈ b, HbL y) (sel : Bool) (a1 lo H : Nat) (ps : List Nat) (d lb : Int) (imp : Bool) (w : World) (hs : CS w lo H ps sel a1 d b) (h1 : -1 ≤ lb) (h2 : lb ≤ 9) :
    Calls Tryz.prog 92 #[.iface 50 (.pointer (some ⟨a1, 0, none⟩)), .string (nm lb), .bool imp] w (RetQ w (hbB (erB b) lb imp)) := by
  obtain ⟨_, _, sa, cap, g1, g2, b', o', g3, g4⟩ := hs
  refine hb_block a1 sa _ cap _ imp _ w g1 ?_
  rw [hbB_any]
  refine hbl_gen b _ sa cap b' o' _ imp w g3 g2 fun i y hi => ?_
  have hlt : i < b.length := (List.getElem?_eq_some_iff.1 hi).1
  obtain ⟨_, _, y', c, _, q4, q5, q6, q7, _, sa2, cap2, q8, q9, b2, o2, q10, q11⟩ := g4.at i hlt
  obtain rfl : y = y' := by rw [hi] at q4; exact Option.some.inj q4
  have hy : y ∈ b := List.mem_of_getElem? hi
  have hC := h y hy sa2 cap2 b2 o2 lo H ps lb imp w q10 q9 q11 h1 h2
  cases sel with
  | true => exact ⟨_, q5, hb_clause195 c sa2 _ cap2 _ imp _ w q8 hC⟩
  | false => exact ⟨_, q5, hb_clause192 c sa2 _ cap2 _ imp _ w q8 hC⟩
theorem hb_si (b : List (List Tr)) (h : ∀ t ts bs, b = (t :: ts) :: bs → HbF t) (lo H : Nat) (ps : List Nat) (v : Value) (lb : Int) (imp : Bool) (w : World) (hs : SI w lo H ps v b) (h1 : -1 ≤ lb) (h2 : lb ≤ 9) :
    Calls Tryz.prog 92 #[v, .string (nm lb), .bool imp] w (RetQ w (hbI (erB b) lb imp)) := by
  rcases b with _ | ⟨_ | ⟨t, ts⟩, bs⟩
  · rw [SI] at hs
    obtain ⟨a, rfl⟩ := hs
    rw [erB, hbI]
    · exact hb_leaf112 a _ imp w
    · intro _ _ _ h; cases h
  · rw [SI] at hs
    obtain ⟨a, rfl⟩ := hs
    rw [erB, erL, hbI]
    · exact hb_leaf112 a _ imp w
    · intro _ _ _ h; cases h
  · rw [SI] at hs
    rw [erB, erL, hbI]
    exact h t ts bs rfl v lo H ps lb imp w hs.2 h1 h2
theorem rt_in {b : List (List Tr)} {y : List Tr} (h : y ∈ b) : rtL y < rtB b := by
  obtain ⟨i, hi, e⟩ := List.getElem_of_mem h
  exact rtB_at (i := i) (by rw [List.getElem?_eq_getElem hi, e])
theorem hbF_of (n : Nat) (hP : ∀ y, rtL y < n → HbL y) : ∀ (m : Nat) (t : Tr), rt t < m → rt t ≤ n → HbF t := by
  intro m
  induction m with
  | zero => exact fun t h => absurd h (Nat.not_lt_zero _)
  | succ m ih =>
    rintro ⟨a, k, l, d, b⟩ hm hn v lo H ps lb imp w hs h1 h2
    rw [rt_mk] at hm hn
    have hL : ∀ y ∈ b, HbL y := fun y hy => hP y (by have := rt_in hy; omega)
    have hI : ∀ t ts bs, b = (t :: ts) :: bs → HbF t := by
      intro t ts bs e
      have : rt t < rtB b := by rw [e, rtB, rtL]; omega
      exact ih t (by omega) (by omega)
    have hk := ST_kind hs
    have hkk : k = 0 ∨ k = 1 ∨ k = 2 ∨ k = 3 ∨ k = 4 ∨ k = 5 ∨ k = 6 ∨ k = 7 ∨ k = 8 ∨ k = 9 ∨ k = 10 ∨ k = 11 ∨ k = 12 ∨ k = 13 ∨ k = 14 ∨ k = 15 ∨ k = 16 ∨ k = 17 ∨ k = 18 ∨ k = 19 ∨ k = 20 := by omega
    rw [er_mk]
    rcases hkk with rfl | rfl | rfl | rfl | rfl | rfl | rfl | rfl | rfl | rfl | rfl | rfl | rfl | rfl | rfl | rfl | rfl | rfl | rfl | rfl | rfl
    · rw [ST_0] at hs
      rw [show hbF (.mk 0 l d (erB b)) lb imp = (false) from by rw [hbF]; simp]
      obtain ⟨_, _, rfl, _⟩ := hs
      exact hb_leaf115 a _ imp w
    · rw [ST_1] at hs
      rw [show hbF (.mk 1 l d (erB b)) lb imp = (false) from by rw [hbF]; simp]
      obtain ⟨_, _, rfl, _⟩ := hs
      exact hb_leaf121 a _ imp w
    · rw [ST_2] at hs
      rw [show hbF (.mk 2 l d (erB b)) lb imp = (hbB (erB b) lb imp) from by rw [hbF]; simp]
      obtain ⟨_, _, rfl, hl, ⟨a1, g1, g2⟩, e, g3, g4⟩ := hs
      rcases b with _ | ⟨y, _ | ⟨z, _ | ⟨u, us⟩⟩⟩
      · rw [BS1] at g4
        · subst g4
          exact hb_if a a1 .nilIface _ imp _ w g1 g3 (hb_bs0 [] (by simp) hL a1 lo H ps lb imp w g2 h1 h2)
        · intro _ _ _ h; cases h
      · rw [BS1] at g4
        · subst g4
          exact hb_if a a1 .nilIface _ imp _ w g1 g3 (hb_bs0 [y] (by simp) hL a1 lo H ps lb imp w g2 h1 h2)
        · intro _ _ _ h; cases h
      · rw [BS1] at g4
        obtain ⟨a2, rfl, q1, q2, sa, cap, q3, q4, b', o', q5, q6⟩ := g4
        have hz := hb_block a2 sa _ cap _ imp _ w q3 (hL z (by simp) sa cap b' o' lo H ps lb imp w q5 q4 q6 h1 h2)
        have hy := hb_bs0 [y] (by simp) (fun x hx => hL x (by simp at hx; simp [hx])) a1 lo H ps lb imp w (by rw [BS0] at g2 ⊢; exact g2) h1 h2
        have e : hbB (erB [y, z]) lb imp = (hbB (erB [y]) lb imp || hbL (erL z) lb imp) := by simp [erB, hbB]
        rw [e]
        exact hb_ifelse a a1 a2 _ imp _ _ w g1 g3 hy hz
      · simp at hl; omega
    · rw [ST_3] at hs
      rw [show hbF (.mk 3 l d (erB b)) lb imp = ((!(lb == 0)) && hbB (erB b) lb false) from by rw [hbF]; simp]
      obtain ⟨_, _, rfl, hl, _, a1, g1, g2⟩ := hs
      exact hb_inner130 a a1 lb imp _ w h1 h2 g1 (hb_bs0 b hl hL a1 lo H ps lb false w g2 h1 h2)
    · rw [ST_4] at hs
      rw [show hbF (.mk 4 l d (erB b)) lb imp = ((!(lb == 0)) && hbB (erB b) lb false) from by rw [hbF]; simp]
      obtain ⟨_, _, rfl, hl, _, a1, g1, g2⟩ := hs
      exact hb_inner130 a a1 lb imp _ w h1 h2 g1 (hb_bs0 b hl hL a1 lo H ps lb false w g2 h1 h2)
    · rw [ST_5] at hs
      rw [show hbF (.mk 5 l d (erB b)) lb imp = ((!(lb == 0)) && hbB (erB b) lb false) from by rw [hbF]; simp]
      obtain ⟨_, _, rfl, hl, a1, g1, g2⟩ := hs
      exact hb_inner133 a a1 lb imp _ w h1 h2 g1 (hb_bs0 b hl hL a1 lo H ps lb false w g2 h1 h2)
    · rw [ST_6] at hs
      rw [show hbF (.mk 6 l d (erB b)) lb imp = ((!(lb == 0)) && hbB (erB b) lb false) from by rw [hbF]; simp]
      obtain ⟨_, _, rfl, a1, g1, g2⟩ := hs
      exact hb_inner137 a a1 lb imp _ w h1 h2 g1 (hb_cs b hL _ a1 lo H ps d lb false w g2 h1 h2)
    · rw [ST_7] at hs
      rw [show hbF (.mk 7 l d (erB b)) lb imp = ((!(lb == 0)) && hbB (erB b) lb false) from by rw [hbF]; simp]
      obtain ⟨_, _, rfl, a1, g1, g2⟩ := hs
      exact hb_inner141 a a1 lb imp _ w h1 h2 g1 (hb_cs b hL _ a1 lo H ps d lb false w g2 h1 h2)
    · rw [ST_8] at hs
      rw [show hbF (.mk 8 l d (erB b)) lb imp = ((!(lb == 0)) && hbB (erB b) lb false) from by rw [hbF]; simp]
      obtain ⟨_, _, rfl, a1, g1, g2⟩ := hs
      exact hb_inner147 a a1 lb imp _ w h1 h2 g1 (hb_cs b hL _ a1 lo H ps d lb false w g2 h1 h2)
    · rw [ST_9] at hs
      rw [show hbF (.mk 9 l d (erB b)) lb imp = (hbB (erB b) lb imp) from by rw [hbF]; simp]
      obtain ⟨_, _, rfl, hl, g⟩ := hs
      exact hb_bs0 b hl hL a lo H ps lb imp w g h1 h2
    · rw [ST_10] at hs
      rw [show hbF (.mk 10 l d (erB b)) lb imp = (hbI (erB b) lb imp) from by rw [hbF]; simp]
      obtain ⟨_, _, rfl, hl, _, _, v', g1, g2⟩ := hs
      exact hb_labeled a v' _ imp _ w g1 (hb_si b hI lo H ps v' lb imp w g2 h1 h2)
    · rw [ST_11] at hs
      rw [show hbF (.mk 11 l d (erB b)) lb imp = (false) from by rw [hbF]; simp]
      obtain ⟨_, _, rfl, _, g1, _⟩ := hs
      exact hb_branch a _ _ imp w g1 (by decide)
    · rw [ST_12] at hs
      rw [show hbF (.mk 12 l d (erB b)) lb imp = (if l = 0 then imp else l == lb) from by rw [hbF]; simp]
      obtain ⟨_, _, rfl, _, g1, g2⟩ := hs
      exact hb_break a l lb imp w lo H g1 g2 h1 h2
    · rw [ST_13] at hs
      rw [show hbF (.mk 13 l d (erB b)) lb imp = (false) from by rw [hbF]; simp]
      obtain ⟨_, _, rfl, _, g1, _⟩ := hs
      exact hb_branch a _ _ imp w g1 (by decide)
    · rw [ST_14] at hs
      rw [show hbF (.mk 14 l d (erB b)) lb imp = (false) from by rw [hbF]; simp]
      obtain ⟨_, _, rfl, _, g1, _⟩ := hs
      exact hb_branch a _ _ imp w g1 (by decide)
    · rw [ST_15] at hs
      rw [show hbF (.mk 15 l d (erB b)) lb imp = (false) from by rw [hbF]; simp]
      obtain ⟨_, _, rfl, _⟩ := hs
      exact hb_leaf165 a _ imp w
    · rw [ST_16] at hs
      rw [show hbF (.mk 16 l d (erB b)) lb imp = (false) from by rw [hbF]; simp]
      obtain ⟨_, _, rfl, _⟩ := hs
      exact hb_leaf189 a _ imp w
    · rw [ST_17] at hs
      rw [show hbF (.mk 17 l d (erB b)) lb imp = (false) from by rw [hbF]; simp]
      obtain ⟨_, _, rfl, _⟩ := hs
      exact hb_leaf165 a _ imp w
    · rw [ST_18] at hs
      rw [show hbF (.mk 18 l d (erB b)) lb imp = (false) from by rw [hbF]; simp]
      obtain ⟨_, _, rfl, _⟩ := hs
      exact hb_leaf121 a _ imp w
    · rw [ST_19] at hs
      rw [show hbF (.mk 19 l d (erB b)) lb imp = (false) from by rw [hbF]; simp]
      obtain ⟨_, _, rfl, _⟩ := hs
      exact hb_leaf121 a _ imp w
    · rw [ST_20] at hs
      rw [show hbF (.mk 20 l d (erB b)) lb imp = (false) from by rw [hbF]; simp]
      obtain ⟨_, _, rfl, _⟩ := hs
      exact hb_leaf112 a _ imp w
theorem hbL_all (n : Nat) : ∀ y, rtL y < n → HbL y := by
  induction n with
  | zero => exact fun y h => absurd h (Nat.not_lt_zero _)
  | succ n ih => exact fun y h => hbL_of y fun t ht => hbF_of n ih (rt t + 1) t (by omega) (by omega)
theorem hbL_any_list (y : List Tr) : HbL y := hbL_all (rtL y + 1) y (by omega)
end Go.Proofs.YtpodifbgfcclbaaGreatDoor

/- What goflow.isTerminating computes of the tree of a statement, kind by kind. -/
set_option linter.unusedVariables false
set_option linter.unusedSimpArgs false
namespace Go.Proofs.YtpodifbgfcclbaaGreatDoor
open Go.RowKit
attribute [local go_sem] Nat.lt_add_one_of_lt

/-- What a function leaves that hands back yes or no and only draws. -/
def RetD (w : World) (b : Bool) (e : Ending) (w' : World) : Prop := e = .returned (.bool b) ∧ ∃ n, w' = w.drewN n
theorem RetD.trans {w : World} {n m : Nat} : ∃ k, (w.drewN n).drewN m = w.drewN k := ⟨n + m, World.drewN_drewN ..⟩

set_option maxRecDepth 100000 in
set_option maxHeartbeats 1000000 in
theorem unparen_call (v : Value) (w : World) : Calls Tryz.prog 89 #[.iface 119 v] w fun e w' => e = .returned (.iface 119 v) ∧ w = w' := by
  go_enter Tryz.func89, Tryz.ntmps89
  go_wp2_with fail
  refine wp_loop_rounds 1 ?_
  rw [rounds_succ]
  go_wp2_with fail
  go_ret
  exact ⟨rfl, rfl⟩
set_option maxRecDepth 100000 in
set_option maxHeartbeats 1000000 in
theorem te_labeled (a i : Nat) (v C : Value) (s s' : ByteArray) (r : Bool) (w : World) (g1 : w.cell? ⟨a, 2, none⟩ = some v) (g2 : w.cell? ⟨a, 0, none⟩ = some (.pointer (some ⟨i, 0, none⟩))) (g3 : w.cell? ⟨i, 1, none⟩ = some (.string s))
    (h : ∀ n, Calls Tryz.prog 64 #[C, v, .string s] (w.drewN n) (RetD (w.drewN n) r)) :
    Calls Tryz.prog 64 #[C, .iface 156 (.pointer (some ⟨a, 0, none⟩)), .string s'] w (RetD w r) := by
  have HC := Lib.hid h
  clear h
  go_enter Tryz.func64, Tryz.ntmps64
  go_wp2_with fail
  go_quiet ((go_at_call 64; exact Calls.quiet_of (HC.out _)))
  go_wp2_with fail
  go_ret
  exact ⟨rfl, nq, rfl⟩

set_option maxRecDepth 100000 in
set_option maxHeartbeats 1000000 in
theorem te_leaf165 (a : Nat) (C : Value) (s : ByteArray) (w : World) :
    Calls Tryz.prog 64 #[C, .iface 165 (.pointer (some ⟨a, 0, none⟩)), .string s] w (RetD w false) := by
  go_enter Tryz.func64, Tryz.ntmps64
  go_wp2_with fail
  go_ret
  exact ⟨rfl, 0, rfl⟩

set_option maxRecDepth 100000 in
set_option maxHeartbeats 1000000 in
theorem te_leaf112 (a : Nat) (C : Value) (s : ByteArray) (w : World) :
    Calls Tryz.prog 64 #[C, .iface 112 (.pointer (some ⟨a, 0, none⟩)), .string s] w (RetD w false) := by
  go_enter Tryz.func64, Tryz.ntmps64
  go_wp2_with fail
  go_ret
  exact ⟨rfl, 0, rfl⟩

set_option maxRecDepth 100000 in
set_option maxHeartbeats 1000000 in
theorem te_leaf189 (a : Nat) (C : Value) (s : ByteArray) (w : World) :
    Calls Tryz.prog 64 #[C, .iface 189 (.pointer (some ⟨a, 0, none⟩)), .string s] w (RetD w false) := by
  go_enter Tryz.func64, Tryz.ntmps64
  go_wp2_with fail
  go_ret
  exact ⟨rfl, 0, rfl⟩

set_option maxRecDepth 100000 in
set_option maxHeartbeats 1000000 in
theorem te_leaf133 (a : Nat) (C : Value) (s : ByteArray) (w : World) :
    Calls Tryz.prog 64 #[C, .iface 133 (.pointer (some ⟨a, 0, none⟩)), .string s] w (RetD w false) := by
  go_enter Tryz.func64, Tryz.ntmps64
  go_wp2_with fail
  go_ret
  exact ⟨rfl, 0, rfl⟩

set_option maxRecDepth 100000 in
set_option maxHeartbeats 1000000 in
theorem te_return (a : Nat) (C : Value) (s : ByteArray) (w : World) :
    Calls Tryz.prog 64 #[C, .iface 115 (.pointer (some ⟨a, 0, none⟩)), .string s] w (RetD w true) := by
  go_enter Tryz.func64, Tryz.ntmps64
  go_wp2_with fail
  go_ret
  exact ⟨rfl, 0, rfl⟩
set_option maxRecDepth 100000 in
set_option maxHeartbeats 1000000 in
theorem te_expr (a c C R : Nat) (ps : List Nat) (s : ByteArray) (w : World) (g1 : w.cell? ⟨a, 0, none⟩ = some (.iface 119 (.pointer (some ⟨c, 0, none⟩)))) (g2 : w.cell? ⟨C, 0, none⟩ = some (.map (some R))) (r : Bool)
    (hl : (Instr.lookup 44 (.map (some R)) (.pointer (some ⟨c, 0, none⟩)) false).run Tryz.prog w = .ok (.bool r) w) :
    Calls Tryz.prog 64 #[.pointer (some ⟨C, 0, none⟩), .iface 121 (.pointer (some ⟨a, 0, none⟩)), .string s] w (RetD w r) := by
  cases r with
  | true =>
    go_enter Tryz.func64, Tryz.ntmps64
    go_wp2_with fail
    refine (unparen_call _ _).mono ?_
    rintro e w1 ⟨rfl, rfl⟩
    go_wp2_with fail
    go_ret
    exact ⟨rfl, 0, rfl⟩
  | false =>
    go_enter Tryz.func64, Tryz.ntmps64
    go_wp2_with fail
    refine (unparen_call _ _).mono ?_
    rintro e w1 ⟨rfl, rfl⟩
    go_wp2_with fail
    go_ret
    exact ⟨rfl, 0, rfl⟩
set_option maxRecDepth 100000 in
set_option maxHeartbeats 1000000 in
theorem te_branch (a : Nat) (C : Value) (tok : Int) (s : ByteArray) (w : World) (g1 : w.cell? ⟨a, 1, none⟩ = some (.int .i64 tok)) (r : Bool) (hr : r = (tok == 73 || tok == 69)) :
    Calls Tryz.prog 64 #[C, .iface 95 (.pointer (some ⟨a, 0, none⟩)), .string s] w (RetD w r) := by
  have HR := Lib.hid hr
  clear hr
  cases h1 : (tok == 73) with
  | true =>
    go_enter Tryz.func64, Tryz.ntmps64
    go_wp2_with fail
    go_ret
    exact ⟨ret_eq (by rw [HR.out, h1]; rfl), 0, rfl⟩
  | false =>
    cases h2 : (tok == 69) with
    | true =>
      go_enter Tryz.func64, Tryz.ntmps64
      go_wp2_with fail
      go_ret
      exact ⟨ret_eq (by rw [HR.out, h1, h2]; rfl), 0, rfl⟩
    | false =>
      go_enter Tryz.func64, Tryz.ntmps64
      go_wp2_with fail
      go_ret
      exact ⟨ret_eq (by rw [HR.out, h1, h2]; rfl), 0, rfl⟩
set_option maxRecDepth 100000 in
set_option maxHeartbeats 1000000 in
theorem te_block (a1 : Nat) (C : Value) (sa : Option Addr) (n cap : Nat) (s : ByteArray) (r : Bool) (w : World) (hc : w.cell? ⟨a1, 1, none⟩ = some (.slice sa n cap)) (h : Calls Tryz.prog 46 #[C, .slice sa n cap, .string (nm 0)] w (RetD w r)) :
    Calls Tryz.prog 64 #[C, .iface 50 (.pointer (some ⟨a1, 0, none⟩)), .string s] w (RetD w r) := by
  have HC := Lib.hid h
  clear h
  go_enter Tryz.func64, Tryz.ntmps64
  go_wp2_with fail
  refine HC.out.mono ?_
  rintro e w1 ⟨rfl, n, rfl⟩
  go_wp2_with fail
  go_ret
  exact ⟨rfl, n, rfl⟩
set_option maxRecDepth 100000 in
set_option maxHeartbeats 1000000 in
theorem te_if (a : Nat) (C : Value) (s : ByteArray) (w : World) (g2 : w.cell? ⟨a, 4, none⟩ = some .nilIface) :
    Calls Tryz.prog 64 #[C, .iface 126 (.pointer (some ⟨a, 0, none⟩)), .string s] w (RetD w false) := by
  have hn := fun (w : World) (t : Nat) (v : Value) => run_eql_iface_nil_left w (ti := 79) (P := Tryz.prog) t v Tryz.underlying79
  go_enter Tryz.func64, Tryz.ntmps64
  go_wp2_with fail
  go_ret
  exact ⟨rfl, 0, rfl⟩
set_option maxRecDepth 100000 in
set_option maxHeartbeats 1000000 in
theorem te_ifelse (a a1 a2 : Nat) (C : Value) (s : ByteArray) (r r2 : Bool) (w : World) (g1 : w.cell? ⟨a, 3, none⟩ = some (.pointer (some ⟨a1, 0, none⟩))) (g2 : w.cell? ⟨a, 4, none⟩ = some (.iface 50 (.pointer (some ⟨a2, 0, none⟩))))
    (h : Calls Tryz.prog 64 #[C, .iface 50 (.pointer (some ⟨a1, 0, none⟩)), .string (nm 0)] w (RetD w r)) (h2 : ∀ n, Calls Tryz.prog 64 #[C, .iface 50 (.pointer (some ⟨a2, 0, none⟩)), .string (nm 0)] (w.drewN n) (RetD (w.drewN n) r2)) :
    Calls Tryz.prog 64 #[C, .iface 126 (.pointer (some ⟨a, 0, none⟩)), .string s] w (RetD w (r && r2)) := by
  have HC := Lib.hid h
  have HC2 := Lib.hid h2
  clear h h2
  cases r with
  | false =>
    go_enter Tryz.func64, Tryz.ntmps64
    go_wp2_with fail
    refine HC.out.mono ?_
    rintro e w1 ⟨rfl, n, rfl⟩
    go_wp2_with fail
    go_ret
    exact ⟨rfl, n, rfl⟩
  | true =>
    go_enter Tryz.func64, Tryz.ntmps64
    go_wp2_with fail
    refine HC.out.mono ?_
    rintro e w1 ⟨rfl, n, rfl⟩
    go_wp2_with fail
    refine (HC2.out n).mono ?_
    rintro e w1 ⟨rfl, m, rfl⟩
    cases r2 with
    | true =>
      go_wp2_with fail
      go_ret
      exact ⟨rfl, _, rfl⟩
    | false =>
      go_wp2_with fail
      go_ret
      exact ⟨rfl, _, rfl⟩

set_option maxRecDepth 100000 in
set_option maxHeartbeats 1000000 in
theorem te_switch137 (a a1 : Nat) (C : Value) (s : ByteArray) (r : Bool) (w : World) (g1 : w.cell? ⟨a, 3, none⟩ = some (.pointer (some ⟨a1, 0, none⟩))) (h : Calls Tryz.prog 90 #[C, .pointer (some ⟨a1, 0, none⟩), .string s] w (RetD w r)) :
    Calls Tryz.prog 64 #[C, .iface 137 (.pointer (some ⟨a, 0, none⟩)), .string s] w (RetD w r) := by
  have HC := Lib.hid h
  clear h
  go_enter Tryz.func64, Tryz.ntmps64
  go_wp2_with fail
  refine HC.out.mono ?_
  rintro e w1 ⟨rfl, n, rfl⟩
  go_wp2_with fail
  go_ret
  exact ⟨rfl, n, rfl⟩

set_option maxRecDepth 100000 in
set_option maxHeartbeats 1000000 in
theorem te_switch141 (a a1 : Nat) (C : Value) (s : ByteArray) (r : Bool) (w : World) (g1 : w.cell? ⟨a, 3, none⟩ = some (.pointer (some ⟨a1, 0, none⟩))) (h : Calls Tryz.prog 90 #[C, .pointer (some ⟨a1, 0, none⟩), .string s] w (RetD w r)) :
    Calls Tryz.prog 64 #[C, .iface 141 (.pointer (some ⟨a, 0, none⟩)), .string s] w (RetD w r) := by
  have HC := Lib.hid h
  clear h
  go_enter Tryz.func64, Tryz.ntmps64
  go_wp2_with fail
  refine HC.out.mono ?_
  rintro e w1 ⟨rfl, n, rfl⟩
  go_wp2_with fail
  go_ret
  exact ⟨rfl, n, rfl⟩

set_option maxRecDepth 100000 in
set_option maxHeartbeats 1000000 in
theorem te_for (a c : Nat) (C : Value) (s : ByteArray) (w : World) (g0 : w.cell? ⟨a, 2, none⟩ = some (.iface 101 (.pointer (some ⟨c, 0, none⟩)))) :
    Calls Tryz.prog 64 #[C, .iface 130 (.pointer (some ⟨a, 0, none⟩)), .string s] w (RetD w false) := by
  go_enter Tryz.func64, Tryz.ntmps64
  go_wp2_with fail
  go_ret
  exact ⟨rfl, 0, rfl⟩
set_option maxRecDepth 100000 in
set_option maxHeartbeats 1000000 in
theorem te_endless (a a1 : Nat) (C : Value) (s : ByteArray) (r : Bool) (w : World) (g0 : w.cell? ⟨a, 2, none⟩ = some .nilIface) (g1 : w.cell? ⟨a, 4, none⟩ = some (.pointer (some ⟨a1, 0, none⟩)))
    (h : Calls Tryz.prog 92 #[.iface 50 (.pointer (some ⟨a1, 0, none⟩)), .string s, .bool true] w (RetQ w r)) :
    Calls Tryz.prog 64 #[C, .iface 130 (.pointer (some ⟨a, 0, none⟩)), .string s] w (RetD w (!r)) := by
  have HC := Lib.hid h
  clear h
  cases r with
  | false =>
    go_enter Tryz.func64, Tryz.ntmps64
    go_wp2_with fail
    refine HC.out.mono ?_
    rintro e w1 ⟨rfl, rfl⟩
    go_wp2_with fail
    go_ret
    exact ⟨rfl, 0, rfl⟩
  | true =>
    go_enter Tryz.func64, Tryz.ntmps64
    go_wp2_with fail
    refine HC.out.mono ?_
    rintro e w1 ⟨rfl, rfl⟩
    go_wp2_with fail
    go_ret
    exact ⟨rfl, 0, rfl⟩

end Go.Proofs.YtpodifbgfcclbaaGreatDoor
