/- stmtBranches at each kind of statement, as the plain algorithm says. -/
import Derived.Test.YtpodifbgfcclbaaGreatDoorJm17
import Derived.Test.YtpodifbgfcclbaaGreatDoorJm19
import Derived.Test.YtpodifbgfcclbaaGreatDoorJm21
set_option linter.unusedVariables false
set_option linter.unusedSimpArgs false
namespace Go.Proofs.YtpodifbgfcclbaaGreatDoor
open Go.RowKit
attribute [local go_sem] Nat.lt_add_one_of_lt

def tgX (lst : CUR) (up : List BE) : List (Int × Int) := (curT lst).toList ++ tgB up
theorem tgB_cons (b : Nat) (labs : List Int) (lst : CUR) (up : List BE) : tgB (⟨b, labs, lst⟩ :: up) = tgX lst up := by
  unfold tgB tgX curT
  cases lst <;> rfl
theorem glB_cons (b : Nat) (labs : List Int) (lst : CUR) (up : List BE) : glB (⟨b, labs, lst⟩ :: up) = labs ++ glB up := by
  unfold glB; rw [List.flatMap_cons]
theorem LSt.sw {w0 w : World} {H0 : Nat} (h : SW w0 w H0) {a : Nat} (ha : a < H0) (o : Nat) {v : Value} (hv : w0.cell? ⟨a, o, none⟩ = some v) : w.cell? ⟨a, o, none⟩ = some v := (h.cell ha o).trans hv
theorem NL.sw {w0 w : World} {lo H0 a o : Nat} {l : Int} (h : NL w0 lo H0 a o l) (hs : SW w0 w H0) (g1 : lo ≤ a) (g2 : a < H0) : NL w lo H0 a o l :=
  NL.keepG (ps := []) (ps' := []) ⟨fun k _ hk' => hs k hk', fun _ _ _ => rfl⟩ (Nat.le_refl _) (Nat.le_refl _) g1 g2 h
theorem ItemC.of_same {lo H0 C A M0 : Nat} {w0 : World} {up : List BE} {lst cur : CUR} {v : Value} {nodes : List Nat} {cnt : Nat}
    (h : ∀ (n : Nat) (w : World), SW w0 w H0 → Calls Tryz.prog 76 #[ptr (cur.map fun x => x.1), v, .pointer (some ⟨n + 7, 0, none⟩), .pointer (some ⟨n, 0, none⟩), .pointer (some ⟨n + 1, 0, none⟩), .pointer (some ⟨n + 3, 0, none⟩), .pointer (some ⟨n + 5, 0, none⟩), .pointer (some ⟨n + 8, 0, none⟩), .pointer (some ⟨n + 4, 0, none⟩), .pointer (some ⟨n + 10, 0, none⟩), .pointer (some ⟨n + 9, 0, none⟩)] w fun e w' => e = .returned (.tuple #[]) ∧ w' = w) :
    ItemC lo H0 C A M0 w0 up lst cur v (fun s => s) nodes cnt := by
  refine ⟨fun s => by show s.m ≤ _; omega, ?_⟩
  intro n gd rep labs fs bs w hL hsw hcur hcap hfr
  refine (h n w hsw).mono ?_
  rintro e w1 ⟨rfl, hw1⟩
  rw [hw1]
  exact StmR.same hL
theorem item_skip (lo H0 C A M0 : Nat) (w0 : World) (up : List BE) (lst cur : CUR) (T : Nat) (x : Value) (nodes : List Nat) (cnt : Nat) (t165 : T ≠ 165) (t156 : T ≠ 156) (t95 : T ≠ 95) (t189 : T ≠ 189) (t50 : T ≠ 50) (t126 : T ≠ 126) (t192 : T ≠ 192) (t137 : T ≠ 137) (t141 : T ≠ 141) (t195 : T ≠ 195) (t147 : T ≠ 147) (t130 : T ≠ 130) (t133 : T ≠ 133) :
    ItemC lo H0 C A M0 w0 up lst cur (.iface T x) (fun s => s) nodes cnt :=
  ItemC.of_same fun n w _ => st_skip n T _ x w t165 t156 t95 t189 t50 t126 t192 t137 t141 t195 t147 t130 t133
theorem item_17 (lo H0 C A M0 : Nat) (w0 : World) (up : List BE) (lst cur : CUR) (a g : Nat) (nodes : List Nat) (cnt : Nat) (ha : a < H0) (hg : g < H0) (h0 : w0.cell? ⟨a, 0, none⟩ = some (.iface 166 (.pointer (some ⟨g, 0, none⟩)))) (h2 : w0.cell? ⟨g, 2, none⟩ = some (.int .i64 64)) :
    ItemC lo H0 C A M0 w0 up lst cur (.iface 165 (.pointer (some ⟨a, 0, none⟩))) (fun s => s) nodes cnt :=
  ItemC.of_same fun n w hs => st_17 n a g _ w (LSt.sw hs ha 0 h0) (LSt.sw hs hg 2 h2)
theorem item_nolabel (lo H0 C A M0 : Nat) (w0 : World) (up : List BE) (lst cur : CUR) (a : Nat) (nodes : List Nat) (cnt : Nat) (ha : a < H0) (h2 : w0.cell? ⟨a, 2, none⟩ = some (.pointer none)) :
    ItemC lo H0 C A M0 w0 up lst cur (.iface 95 (.pointer (some ⟨a, 0, none⟩))) (fun s => s) nodes cnt :=
  ItemC.of_same fun n w hs => st_nolabel n a _ w (LSt.sw hs ha 2 h2)
theorem varL_m (s : JS) : (varL s).m = s.m := by simp [varL, JS.m]
theorem item_16 (lo H0 C A M0 : Nat) (w0 : World) (up : List BE) (lst cur : CUR) (a : Nat) (p : Int) (nodes : List Nat) (cnt : Nat) (ha : a < H0) (h2 : w0.cell? ⟨a, 2, none⟩ = some (.int .i64 47)) (h1 : w0.cell? ⟨a, 1, none⟩ = some (.int .i64 p)) (hp : 0 < p) :
    ItemC lo H0 C A M0 w0 up lst cur (.iface 189 (.pointer (some ⟨a, 0, none⟩))) varL nodes cnt := by
  refine ⟨fun s => by rw [varL_m]; omega, ?_⟩
  intro n gd rep labs fs bs w hL hsw hcur hcap hfr
  exact st_16 lo H0 C A M0 n up lst cur gd rep labs fs bs a p _ nodes w hL (LSt.sw hsw ha 2 h2) (LSt.sw hsw ha 1 h1) hp (by omega)
theorem item_15 (lo H0 C A M0 : Nat) (w0 : World) (up : List BE) (lst cur : CUR) (a g : Nat) (p : Int) (nodes : List Nat) (cnt : Nat) (ha : a < H0) (hg : g < H0) (h0 : w0.cell? ⟨a, 0, none⟩ = some (.iface 166 (.pointer (some ⟨g, 0, none⟩)))) (h2 : w0.cell? ⟨g, 2, none⟩ = some (.int .i64 85)) (h1 : w0.cell? ⟨g, 1, none⟩ = some (.int .i64 p)) (hp : 0 < p) :
    ItemC lo H0 C A M0 w0 up lst cur (.iface 165 (.pointer (some ⟨a, 0, none⟩))) varL nodes cnt := by
  refine ⟨fun s => by rw [varL_m]; omega, ?_⟩
  intro n gd rep labs fs bs w hL hsw hcur hcap hfr
  exact st_15 lo H0 C A M0 n up lst cur gd rep labs fs bs a g p _ nodes w hL (LSt.sw hsw ha 0 h0) (LSt.sw hsw hg 2 h2) (LSt.sw hsw hg 1 h1) hp (by omega)
theorem item_goto (lo H0 C A M0 : Nat) (w0 : World) (up : List BE) (lst cur : CUR) (a : Nat) (l : Int) (g1 : lo ≤ a) (g2 : a < H0) (h1 : w0.cell? ⟨a, 1, none⟩ = some (.int .i64 73)) (hn : NL w0 lo H0 a 2 l) (hl : l ≠ 0) (ho : Own w0 a 103) :
    ItemC lo H0 C A M0 w0 up lst cur (.iface 95 (.pointer (some ⟨a, 0, none⟩))) (gotoL (glB up) l) [a] 1 := by
  refine ⟨fun s => gotoL_m _ _ _, ?_⟩
  intro n gd rep labs fs bs w hL hsw hcur hcap hfr
  have hgt : GT w lo H0 a l := ⟨g1, g2, ho.low g2 hsw, hn.sw hsw g1 g2, hl⟩
  have h1' := LSt.sw hsw g2 1 h1
  by_cases hin : (labs ++ glB up).contains l = true
  · exact st_goto_back lo H0 C A M0 n up lst cur gd rep labs fs bs a l _ w hL hgt h1' (hfr a (by simp)).1 (by omega) hin
  · exact st_goto_ahead lo H0 C A M0 n up lst cur gd rep labs fs bs a l _ w hL hgt h1' (hfr a (by simp)).1 (by omega) (Bool.eq_false_iff.2 hin)
theorem item_break (lo H0 C A M0 : Nat) (w0 : World) (up : List BE) (lst cur : CUR) (a : Nat) (l : Int) (nodes : List Nat) (g1 : lo ≤ a) (g2 : a < H0) (h1 : w0.cell? ⟨a, 1, none⟩ = some (.int .i64 61)) (hn : NL w0 lo H0 a 2 l) (hl : l ≠ 0) :
    ItemC lo H0 C A M0 w0 up lst cur (.iface 95 (.pointer (some ⟨a, 0, none⟩))) (leaveL breakK (tgX lst up) l) nodes 1 := by
  refine ⟨fun s => leaveL_m _ _ _ _, ?_⟩
  intro n gd rep labs fs bs w hL hsw hcur hcap hfr
  obtain ⟨k1, k2, k3⟩ := hn
  rw [if_neg hl] at k3
  obtain ⟨i, p, j1, j2, i3, i4, i5⟩ := k3
  have h1' := LSt.sw hsw g2 1 h1
  have i3' := LSt.sw hsw g2 2 i3
  have i4' := LSt.sw hsw j2 0 i4
  have i5' := LSt.sw hsw j2 1 i5
  rw [← tgB_cons (n + 2) labs lst up]
  cases henc : encB (⟨n + 2, labs, lst⟩ :: up) l with
  | none => exact st_break_none lo H0 C A M0 n up lst cur gd rep labs fs bs a i l p _ nodes w hL g1 g2 j1 j2 k1 k2 h1' i3' i4' i5' (by omega) henc
  | some x =>
    by_cases hok : breakK x.2.2 = true
    · have ht := (tag_break x.2.2).2 hok
      rcases ht with ht | ht | ht | ht | ht
      · exact st_break_137 lo H0 C A M0 n up lst cur gd rep labs fs bs a i l p _ nodes w hL g1 g2 j1 j2 k1 k2 h1' i3' i4' i5' (by omega) x henc ht hok
      · exact st_break_141 lo H0 C A M0 n up lst cur gd rep labs fs bs a i l p _ nodes w hL g1 g2 j1 j2 k1 k2 h1' i3' i4' i5' (by omega) x henc ht hok
      · exact st_break_147 lo H0 C A M0 n up lst cur gd rep labs fs bs a i l p _ nodes w hL g1 g2 j1 j2 k1 k2 h1' i3' i4' i5' (by omega) x henc ht hok
      · exact st_break_130 lo H0 C A M0 n up lst cur gd rep labs fs bs a i l p _ nodes w hL g1 g2 j1 j2 k1 k2 h1' i3' i4' i5' (by omega) x henc ht hok
      · exact st_break_133 lo H0 C A M0 n up lst cur gd rep labs fs bs a i l p _ nodes w hL g1 g2 j1 j2 k1 k2 h1' i3' i4' i5' (by omega) x henc ht hok
    · have ht := fun h => hok ((tag_break x.2.2).1 h)
      exact st_break_bad lo H0 C A M0 n up lst cur gd rep labs fs bs a i l p _ nodes w hL g1 g2 j1 j2 k1 k2 h1' i3' i4' i5' (by omega) x henc _ rfl (fun e => ht (.inl e)) (fun e => ht (.inr (.inl e))) (fun e => ht (.inr (.inr (.inl e)))) (fun e => ht (.inr (.inr (.inr (.inl e))))) (fun e => ht (.inr (.inr (.inr (.inr e))))) (Bool.eq_false_iff.2 hok)
theorem item_continue (lo H0 C A M0 : Nat) (w0 : World) (up : List BE) (lst cur : CUR) (a : Nat) (l : Int) (nodes : List Nat) (g1 : lo ≤ a) (g2 : a < H0) (h1 : w0.cell? ⟨a, 1, none⟩ = some (.int .i64 65)) (hn : NL w0 lo H0 a 2 l) (hl : l ≠ 0) :
    ItemC lo H0 C A M0 w0 up lst cur (.iface 95 (.pointer (some ⟨a, 0, none⟩))) (leaveL contK (tgX lst up) l) nodes 1 := by
  refine ⟨fun s => leaveL_m _ _ _ _, ?_⟩
  intro n gd rep labs fs bs w hL hsw hcur hcap hfr
  obtain ⟨k1, k2, k3⟩ := hn
  rw [if_neg hl] at k3
  obtain ⟨i, p, j1, j2, i3, i4, i5⟩ := k3
  have h1' := LSt.sw hsw g2 1 h1
  have i3' := LSt.sw hsw g2 2 i3
  have i4' := LSt.sw hsw j2 0 i4
  have i5' := LSt.sw hsw j2 1 i5
  rw [← tgB_cons (n + 2) labs lst up]
  cases henc : encB (⟨n + 2, labs, lst⟩ :: up) l with
  | none => exact st_continue_none lo H0 C A M0 n up lst cur gd rep labs fs bs a i l p _ nodes w hL g1 g2 j1 j2 k1 k2 h1' i3' i4' i5' (by omega) henc
  | some x =>
    by_cases hok : contK x.2.2 = true
    · have ht := (tag_cont x.2.2).2 hok
      rcases ht with ht | ht
      · exact st_continue_130 lo H0 C A M0 n up lst cur gd rep labs fs bs a i l p _ nodes w hL g1 g2 j1 j2 k1 k2 h1' i3' i4' i5' (by omega) x henc ht hok
      · exact st_continue_133 lo H0 C A M0 n up lst cur gd rep labs fs bs a i l p _ nodes w hL g1 g2 j1 j2 k1 k2 h1' i3' i4' i5' (by omega) x henc ht hok
    · have ht := fun h => hok ((tag_cont x.2.2).1 h)
      exact st_continue_bad lo H0 C A M0 n up lst cur gd rep labs fs bs a i l p _ nodes w hL g1 g2 j1 j2 k1 k2 h1' i3' i4' i5' (by omega) x henc _ rfl (fun e => ht (.inl e)) (fun e => ht (.inr e)) (Bool.eq_false_iff.2 hok)
/-- A label that is not _. -/
theorem item_label (lo H0 C A M0 : Nat) (w0 : World) (up : List BE) (lst cur : CUR) (a : Nat) (l k : Int) (x : Value) (J : JS → JS) (nodes : List Nat) (cnt : Nat) (g1 : lo ≤ a) (g2 : a < H0) (hn : NL w0 lo H0 a 0 l) (hl : 1 ≤ l) (h2 : w0.cell? ⟨a, 2, none⟩ = some (.iface (tagK k) x))
    (hit : ItemC lo H0 C A M0 w0 up lst (some (a, l, k)) (.iface (tagK k) x) J nodes cnt) : ItemC lo H0 C A M0 w0 up lst cur (.iface 156 (.pointer (some ⟨a, 0, none⟩))) (fun s => J (declL l s)) nodes (cnt + 1) := by
  refine ⟨fun s => by have e1 := hit.1 (declL l s); have e2 := declL_m l s; show (J (declL l s)).m ≤ _; omega, ?_⟩
  intro n gd rep labs fs bs w hL hsw hcur hcap hfr
  obtain ⟨k1, k2, k3⟩ := hn
  rw [if_neg (show ¬ l = 0 by omega)] at k3
  obtain ⟨i, p, j1, j2, i3, i4, i5⟩ := k3
  have hin : ∀ (gd' : GD) (rep' : Nat) (labs' : List Int) (fs' : List (Nat × Int)) (w' : World), LSt lo H0 C A M0 n up lst gd' rep' labs' fs' bs w' → GF H0 M0 n w w' → (∀ k ∈ keysG gd, k ∈ keysG gd') → l ∈ keysG gd' → (∀ x ∈ fs', x ∈ fs) → jsOf gd' rep' labs' fs' bs = declL l (jsOf gd rep labs fs bs) → Calls Tryz.prog 76 #[.pointer (some ⟨a, 0, none⟩), .iface (tagK k) x, .pointer (some ⟨n + 7, 0, none⟩), .pointer (some ⟨n, 0, none⟩), .pointer (some ⟨n + 1, 0, none⟩), .pointer (some ⟨n + 3, 0, none⟩), .pointer (some ⟨n + 5, 0, none⟩), .pointer (some ⟨n + 8, 0, none⟩), .pointer (some ⟨n + 4, 0, none⟩), .pointer (some ⟨n + 10, 0, none⟩), .pointer (some ⟨n + 9, 0, none⟩)] w' (StmR lo H0 C A M0 n up lst gd' rep' labs' fs' bs J nodes w') := by
    intro gd' rep' labs' fs' w' hL' hgf hk hlk hfs hj
    have hm := declL_m l (jsOf gd rep labs fs bs)
    rw [← hj] at hm
    simp only [jsOf, JS.m, List.length_map] at hm
    refine hit.2 n gd' rep' labs' fs' bs w' hL' (fun j hj => (hgf.low j hj).trans (hsw j hj)) ?_ (by omega) (fun b hb => ⟨(hfr b hb).1, fun hh => ?_⟩)
    · intro y hy
      cases hy
      exact ⟨⟨g1, g2, hl, k2, ⟨i, j1, j2, i3, i5⟩, x, h2⟩, hlk⟩
    · obtain ⟨y, hy, rfl⟩ := List.mem_map.1 hh
      exact (hfr _ hb).2 (List.mem_map_of_mem (hfs y hy))
  have i3' := LSt.sw hsw g2 0 i3
  have i4' := LSt.sw hsw j2 0 i4
  have i5' := LSt.sw hsw j2 1 i5
  have h2' := LSt.sw hsw g2 2 h2
  by_cases hkey : l ∈ keysG gd
  · exact lab_twice lo H0 C A M0 n up lst cur gd rep labs fs bs a i l p _ J nodes cnt w hL g1 g2 j1 j2 hl k2 i3' i4' i5' h2' (by omega) hkey hin
  · exact lab_new lo H0 C A M0 n up lst cur gd rep labs fs bs a i l p _ J nodes cnt w hL g1 g2 j1 j2 hl k2 i3' i4' i5' h2' (by omega) hkey hin
set_option maxRecDepth 100000 in
set_option maxHeartbeats 4000000 in
/-- The label _. -/
theorem item_blank (lo H0 C A M0 : Nat) (w0 : World) (up : List BE) (lst cur : CUR) (a : Nat) (v : Value) (J : JS → JS) (nodes : List Nat) (cnt : Nat) (g1 : lo ≤ a) (g2 : a < H0) (hn : NL w0 lo H0 a 0 (-1)) (h2 : w0.cell? ⟨a, 2, none⟩ = some v)
    (hit : ItemC lo H0 C A M0 w0 up lst cur v J nodes cnt) : ItemC lo H0 C A M0 w0 up lst cur (.iface 156 (.pointer (some ⟨a, 0, none⟩))) J nodes cnt := by
  refine ⟨hit.1, ?_⟩
  intro n gd rep labs fs bs w h hsw hcur hcap hfr
  obtain ⟨k1, k2, k3⟩ := hn
  rw [if_neg (by decide)] at k3
  obtain ⟨i, p, j1, j2, i3, i4, i5⟩ := k3
  have c0 := LSt.sw hsw g2 0 i3
  have c2 := LSt.sw hsw g2 2 h2
  have ci := LSt.sw hsw j2 1 i5
  have hnm : (nm (-1)).toList = [95] := by decide +kernel
  have la := World.block_lt_of_cell? w _ c0
  have li := World.block_lt_of_cell? w _ ci
  have hfc := h.fc
  have hH := h.hH
  have l10 : n + 10 < w.heap.size := h.lt
  have c10 : ∀ o, w.cell? ⟨n + 10, o, none⟩ = _ := blk_cell hfc.z10
  have hn := hit.2 n gd rep labs fs bs w.drew h.drew hsw hcur hcap hfr
  have HN := Lib.hid hn
  clear h hfc hn hit hfr hcur hsw h2 i3 i4 i5
  go_enter Tryz.func76, Tryz.ntmps76
  go_wp2_with fail
  go_region_law (first | (go_simp; go_at_call 76; refine (HN.out).mono ?_; rintro e w1 ⟨rfl, gd', rep', labs', fs', bs', q1, q2, q3, q4, q5⟩))
  all_goals
    go_wp2_with fail
    go_end0
    exact ⟨rfl, gd', rep', labs', fs', bs', q1, (GF.refl _ _ _ w).drew.trans q2, q3, q4, q5⟩
end Go.Proofs.YtpodifbgfcclbaaGreatDoor

/- blockBranches on a list of statements: what the plain algorithm reckons. -/
set_option linter.unusedVariables false
set_option linter.unusedSimpArgs false
namespace Go.Proofs.YtpodifbgfcclbaaGreatDoor
open Go.RowKit

def itmsL (w0 : World) (gl : List Int) (tg : List (Int × Int)) (b : Nat) : Nat → List Tr → List Itm
  | _, [] => []
  | o, t :: ts => ⟨(w0.cell? ⟨b, o, none⟩).getD .nilIface, fun s => jS gl tg (er t) none s, gts t, ct (er t)⟩ :: itmsL w0 gl tg b (o + 1) ts
def itmsC (w0 : World) (gl : List Int) (tg : List (Int × Int)) (b : Nat) : Nat → List (List Tr) → List Itm
  | _, [] => []
  | o, y :: ys => ⟨(w0.cell? ⟨b, o, none⟩).getD .nilIface, fun s => outL s (jL (s.labs ++ gl) tg (erL y) (inL s)), gtsL y, ctL (erL y)⟩ :: itmsC w0 gl tg b (o + 1) ys
theorem itmsL_fold (w0 : World) (gl : List Int) (tg : List (Int × Int)) (b : Nat) : ∀ (y : List Tr) (o : Nat), foldI (itmsL w0 gl tg b o y) = (fun s => jL gl tg (erL y) s) ∧ nodesI (itmsL w0 gl tg b o y) = gtsL y ∧ cntI (itmsL w0 gl tg b o y) = ctL (erL y) ∧ (itmsL w0 gl tg b o y).length = y.length
  | [], o => ⟨by funext s; rw [erL, jL_nil]; rfl, by rw [gtsL]; rfl, by rw [erL, ctL]; rfl, rfl⟩
  | t :: ts, o => by
    obtain ⟨h1, h2, h3, h4⟩ := itmsL_fold w0 gl tg b ts (o + 1)
    refine ⟨?_, ?_, ?_, ?_⟩
    · funext s
      rw [erL, jL_cons]
      show foldI (itmsL w0 gl tg b (o + 1) ts) (jS gl tg (er t) none s) = _
      rw [h1]
    · rw [gtsL, ← h2]; rfl
    · rw [erL, ctL, ← h3]; rfl
    · show (itmsL w0 gl tg b (o + 1) ts).length + 1 = _
      rw [h4]; rfl
theorem itmsC_fold (w0 : World) (gl : List Int) (tg : List (Int × Int)) (b : Nat) : ∀ (y : List (List Tr)) (o : Nat), foldI (itmsC w0 gl tg b o y) = (fun s => jB gl tg (erB y) none s) ∧ nodesI (itmsC w0 gl tg b o y) = gtsB y ∧ cntI (itmsC w0 gl tg b o y) = ctB (erB y) ∧ (itmsC w0 gl tg b o y).length = y.length
  | [], o => ⟨by funext s; rw [erB, jB_nil]; rfl, by rw [gtsB]; rfl, by rw [erB, ctB]; rfl, rfl⟩
  | t :: ts, o => by
    obtain ⟨h1, h2, h3, h4⟩ := itmsC_fold w0 gl tg b ts (o + 1)
    refine ⟨?_, ?_, ?_, ?_⟩
    · funext s
      rw [erB, jB_cons]
      show foldI (itmsC w0 gl tg b (o + 1) ts) (outL s (jL (s.labs ++ gl) tg (erL t) (inL s))) = _
      rw [h1]; rfl
    · rw [gtsB, ← h2]; rfl
    · rw [erB, ctB, ← h3]; rfl
    · show (itmsC w0 gl tg b (o + 1) ts).length + 1 = _
      rw [h4]; rfl
theorem itmsL_cell {w0 : World} {lo H0 : Nat} {ps : List Nat} {gl : List Int} {tg : List (Int × Int)} {b : Nat} : ∀ {y : List Tr} {o : Nat}, TL w0 lo H0 ps b o y → ∀ i it, (itmsL w0 gl tg b o y)[i]? = some it → b < H0 ∧ w0.cell? ⟨b, o + i, none⟩ = some it.v
  | [], o, h, i, it, hi => by simp [itmsL] at hi
  | t :: ts, o, h, 0, it, hi => by
    rw [TL] at h
    obtain ⟨_, h2, ⟨v, h3, _⟩, _⟩ := h
    simp only [itmsL, List.getElem?_cons_zero, Option.some.injEq] at hi
    subst hi
    refine ⟨h2, ?_⟩
    show w0.cell? ⟨b, o, none⟩ = some ((w0.cell? ⟨b, o, none⟩).getD .nilIface)
    rw [h3]; rfl
  | t :: ts, o, h, i + 1, it, hi => by
    rw [TL] at h
    have := itmsL_cell h.2.2.2 i it (by simpa [itmsL] using hi)
    rw [show o + (i + 1) = o + 1 + i by omega]
    exact this
theorem itmsC_cell {w0 : World} {lo H0 : Nat} {ps : List Nat} {gl : List Int} {tg : List (Int × Int)} {sel : Bool} {b : Nat} : ∀ {y : List (List Tr)} {o n : Nat} {d : Int}, CL w0 lo H0 ps sel b o n d y → ∀ i it, (itmsC w0 gl tg b o y)[i]? = some it → b < H0 ∧ w0.cell? ⟨b, o + i, none⟩ = some it.v
  | [], o, n, d, h, i, it, hi => by simp [itmsC] at hi
  | t :: ts, o, n, d, h, 0, it, hi => by
    rw [CL] at h
    obtain ⟨_, h2, ⟨c, _, _, h3, _⟩, _⟩ := h
    simp only [itmsC, List.getElem?_cons_zero, Option.some.injEq] at hi
    subst hi
    refine ⟨h2, ?_⟩
    show w0.cell? ⟨b, o, none⟩ = some ((w0.cell? ⟨b, o, none⟩).getD .nilIface)
    rw [h3]; rfl
  | t :: ts, o, n, d, h, i + 1, it, hi => by
    rw [CL] at h
    have := itmsC_cell h.2.2.2 i it (by simpa [itmsC] using hi)
    rw [show o + (i + 1) = o + 1 + i by omega]
    exact this
theorem ItemC.mono {lo H0 C A M0 : Nat} {w0 : World} {up : List BE} {lst cur : CUR} {v : Value} {J J' : JS → JS} {nodes nodes' : List Nat} {cnt cnt' : Nat} (h : ItemC lo H0 C A M0 w0 up lst cur v J nodes cnt) (hJ : ∀ s, J s = J' s) (hn : ∀ a ∈ nodes, a ∈ nodes') (hc : cnt ≤ cnt') : ItemC lo H0 C A M0 w0 up lst cur v J' nodes' cnt' := by
  obtain rfl : J = J' := funext hJ
  refine ⟨fun s => Nat.le_trans (h.1 s) (by omega), ?_⟩
  intro n gd rep labs fs bs w hL hsw hcur hcap hfr
  refine (h.2 n gd rep labs fs bs w hL hsw hcur (by omega) (fun a ha => hfr a (hn a ha))).mono ?_
  rintro e w1 ⟨he, gd', rep', labs', fs', bs', q1, q2, q3, q4, q5⟩
  exact ⟨he, gd', rep', labs', fs', bs', q1, q2, q3, fun a ha => by
    rcases q4 a ha with h | h | h
    · exact .inl h
    · exact .inr (.inl h)
    · exact .inr (.inr (hn a h)), q5⟩
/-- A list of statements whose items are known. -/
theorem tl_blk {lo H0 C A M0 : Nat} {w0 : World} {ps : List Nat} {y : List Tr} {sa : Option Addr} {cap b o : Nat} (hlen : y.length ≤ 8796093022208) (hsa : y ≠ [] → sa = some ⟨b, o, none⟩) (h : TL w0 lo H0 ps b o y) (hnd : (gtsL y).Nodup)
    (hit : ∀ up lst, ∀ it ∈ itmsL w0 (glB up) (tgX lst up) b o y, ItemC lo H0 C A M0 w0 up lst none it.v it.J it.nodes it.cnt) (es : List BE) (cur : CUR) :
    BlkC lo H0 C A M0 w0 es cur sa y.length cap (fun s => jL (glB es) (tgX cur es) (erL y) s) (gtsL y) (ctL (erL y)) := by
  obtain ⟨h1, h2, h3, h4⟩ := itmsL_fold w0 (glB es) (tgX cur es) b y o
  have := blk_any lo H0 C A M0 w0 es cur (itmsL w0 (glB es) (tgX cur es) b o y) sa cap b o (fun hne => hsa (by rintro rfl; exact hne rfl)) (itmsL_cell h) (hit es cur) (by rw [h2]; exact hnd) (by rw [h4]; exact hlen)
  rw [h1, h2, h3, h4] at this
  exact this
theorem cl_blk {lo H0 C A M0 : Nat} {w0 : World} {ps : List Nat} {y : List (List Tr)} {sel : Bool} {n : Nat} {d : Int} {sa : Option Addr} {cap b o : Nat} (hlen : y.length ≤ 8796093022208) (hsa : y ≠ [] → sa = some ⟨b, o, none⟩) (h : CL w0 lo H0 ps sel b o n d y) (hnd : (gtsB y).Nodup)
    (hit : ∀ up lst, ∀ it ∈ itmsC w0 (glB up) (tgX lst up) b o y, ItemC lo H0 C A M0 w0 up lst none it.v it.J it.nodes it.cnt) (es : List BE) (cur : CUR) :
    BlkC lo H0 C A M0 w0 es cur sa y.length cap (fun s => jB (glB es) (tgX cur es) (erB y) none s) (gtsB y) (ctB (erB y)) := by
  obtain ⟨h1, h2, h3, h4⟩ := itmsC_fold w0 (glB es) (tgX cur es) b y o
  have := blk_any lo H0 C A M0 w0 es cur (itmsC w0 (glB es) (tgX cur es) b o y) sa cap b o (fun hne => hsa (by rintro rfl; exact hne rfl)) (itmsC_cell h) (hit es cur) (by rw [h2]; exact hnd) (by rw [h4]; exact hlen)
  rw [h1, h2, h3, h4] at this
  exact this
/-- A block statement with a list. -/
theorem blk_item {lo H0 C A M0 : Nat} {w0 : World} {ps : List Nat} {y : List Tr} {sa : Option Addr} {cap a b o : Nat} (ha : a < H0) (hc : w0.cell? ⟨a, 1, none⟩ = some (.slice sa y.length cap)) (hlen : y.length ≤ 8796093022208) (hsa : y ≠ [] → sa = some ⟨b, o, none⟩) (h : TL w0 lo H0 ps b o y) (hnd : (gtsL y).Nodup)
    (hit : ∀ up lst, ∀ it ∈ itmsL w0 (glB up) (tgX lst up) b o y, ItemC lo H0 C A M0 w0 up lst none it.v it.J it.nodes it.cnt) (up : List BE) (lst cur : CUR) :
    ItemC lo H0 C A M0 w0 up lst cur (.iface 50 (.pointer (some ⟨a, 0, none⟩))) (fun s => jB (glB up) (tgX lst up) [erL y] (curT cur) s) (gtsL y) (ctL (erL y)) := by
  have := item_block lo H0 C A M0 w0 up lst cur a sa y.length cap (fun labs s => jL (labs ++ glB up) ((curT cur).toList ++ tgX lst up) (erL y) s) (gtsL y) (ctL (erL y)) ha hc (fun n labs => by
    have := tl_blk (C := C) (A := A) (M0 := M0) (cap := cap) hlen hsa h hnd hit (⟨n + 2, labs, lst⟩ :: up) cur
    rw [glB_cons] at this
    have e : tgX cur (⟨n + 2, labs, lst⟩ :: up) = (curT cur).toList ++ tgX lst up := by rw [tgX, tgB_cons]
    rw [e] at this
    exact this)
  exact this.mono (fun s => by rw [jB_cons, jB_nil]) (fun a h => h) (Nat.le_refl _)
theorem outL_in (s : JS) : outL s (inL s) = s := by
  simp [outL, inL]
theorem gtsB_cons (y : List Tr) (ys : List (List Tr)) : gtsB (y :: ys) = gtsL y ++ gtsB ys := by rw [gtsB]
theorem gts_b {a : Nat} {k l d : Int} {b : List (List Tr)} (h1 : k ≠ 11) (h2 : k ≠ 19) : gts (.mk a k l d b) = gtsB b := by rw [gts, if_neg h1, if_neg h2]
theorem ct_b (k l d : Int) (b : List (List Fl)) : ct (.mk k l d b) = ctB b + 1 := by rw [ct]
theorem kind_er (a : Nat) (k l d : Int) (b : List (List Tr)) : (er (.mk a k l d b)).kind = k := by rw [er]; rfl
theorem jS_0 (gl : List Int) (tg : List (Int × Int)) (l d : Int) (b : List (List Fl)) (cur : Option (Int × Int)) (s : JS) : jS gl tg (.mk 0 l d b) cur s = s := by rw [jS]; rfl
theorem jS_1 (gl : List Int) (tg : List (Int × Int)) (l d : Int) (b : List (List Fl)) (cur : Option (Int × Int)) (s : JS) : jS gl tg (.mk 1 l d b) cur s = s := by rw [jS]; rfl
theorem jS_2 (gl : List Int) (tg : List (Int × Int)) (l d : Int) (b : List (List Fl)) (cur : Option (Int × Int)) (s : JS) : jS gl tg (.mk 2 l d b) cur s = jB gl tg b cur s := by rw [jS]; rfl
theorem jS_3 (gl : List Int) (tg : List (Int × Int)) (l d : Int) (b : List (List Fl)) (cur : Option (Int × Int)) (s : JS) : jS gl tg (.mk 3 l d b) cur s = jB gl tg b cur s := by rw [jS]; rfl
theorem jS_4 (gl : List Int) (tg : List (Int × Int)) (l d : Int) (b : List (List Fl)) (cur : Option (Int × Int)) (s : JS) : jS gl tg (.mk 4 l d b) cur s = jB gl tg b cur s := by rw [jS]; rfl
theorem jS_5 (gl : List Int) (tg : List (Int × Int)) (l d : Int) (b : List (List Fl)) (cur : Option (Int × Int)) (s : JS) : jS gl tg (.mk 5 l d b) cur s = jB gl tg b cur s := by rw [jS]; rfl
theorem jS_6 (gl : List Int) (tg : List (Int × Int)) (l d : Int) (b : List (List Fl)) (cur : Option (Int × Int)) (s : JS) : jS gl tg (.mk 6 l d b) cur s = outL s (jB (s.labs ++ gl) (cur.toList ++ tg) b none (inL s)) := by rw [jS]; rfl
theorem jS_7 (gl : List Int) (tg : List (Int × Int)) (l d : Int) (b : List (List Fl)) (cur : Option (Int × Int)) (s : JS) : jS gl tg (.mk 7 l d b) cur s = outL s (jB (s.labs ++ gl) (cur.toList ++ tg) b none (inL s)) := by rw [jS]; rfl
theorem jS_8 (gl : List Int) (tg : List (Int × Int)) (l d : Int) (b : List (List Fl)) (cur : Option (Int × Int)) (s : JS) : jS gl tg (.mk 8 l d b) cur s = outL s (jB (s.labs ++ gl) (cur.toList ++ tg) b none (inL s)) := by rw [jS]; rfl
theorem jS_9 (gl : List Int) (tg : List (Int × Int)) (l d : Int) (b : List (List Fl)) (cur : Option (Int × Int)) (s : JS) : jS gl tg (.mk 9 l d b) cur s = jB gl tg b cur s := by rw [jS]; rfl
theorem jS_10 (gl : List Int) (tg : List (Int × Int)) (l d : Int) (b : List (List Fl)) (cur : Option (Int × Int)) (s : JS) : jS gl tg (.mk 10 l d b) cur s = (if l = -1 then jI gl tg b cur s else jI gl tg b (some (l, kindI b)) (declL l s)) := by rw [jS]; rfl
theorem jS_11 (gl : List Int) (tg : List (Int × Int)) (l d : Int) (b : List (List Fl)) (cur : Option (Int × Int)) (s : JS) : jS gl tg (.mk 11 l d b) cur s = gotoL gl l s := by rw [jS]; rfl
theorem jS_12 (gl : List Int) (tg : List (Int × Int)) (l d : Int) (b : List (List Fl)) (cur : Option (Int × Int)) (s : JS) : jS gl tg (.mk 12 l d b) cur s = (if l = 0 then s else leaveL breakK tg l s) := by rw [jS]; rfl
theorem jS_13 (gl : List Int) (tg : List (Int × Int)) (l d : Int) (b : List (List Fl)) (cur : Option (Int × Int)) (s : JS) : jS gl tg (.mk 13 l d b) cur s = (if l = 0 then s else leaveL contK tg l s) := by rw [jS]; rfl
theorem jS_14 (gl : List Int) (tg : List (Int × Int)) (l d : Int) (b : List (List Fl)) (cur : Option (Int × Int)) (s : JS) : jS gl tg (.mk 14 l d b) cur s = s := by rw [jS]; rfl
theorem jS_15 (gl : List Int) (tg : List (Int × Int)) (l d : Int) (b : List (List Fl)) (cur : Option (Int × Int)) (s : JS) : jS gl tg (.mk 15 l d b) cur s = varL s := by rw [jS]; rfl
theorem jS_16 (gl : List Int) (tg : List (Int × Int)) (l d : Int) (b : List (List Fl)) (cur : Option (Int × Int)) (s : JS) : jS gl tg (.mk 16 l d b) cur s = varL s := by rw [jS]; rfl
theorem jS_17 (gl : List Int) (tg : List (Int × Int)) (l d : Int) (b : List (List Fl)) (cur : Option (Int × Int)) (s : JS) : jS gl tg (.mk 17 l d b) cur s = s := by rw [jS]; rfl
theorem jS_18 (gl : List Int) (tg : List (Int × Int)) (l d : Int) (b : List (List Fl)) (cur : Option (Int × Int)) (s : JS) : jS gl tg (.mk 18 l d b) cur s = s := by rw [jS]; rfl
theorem jS_19 (gl : List Int) (tg : List (Int × Int)) (l d : Int) (b : List (List Fl)) (cur : Option (Int × Int)) (s : JS) : jS gl tg (.mk 19 l d b) cur s = s := by rw [jS]; rfl
theorem jS_20 (gl : List Int) (tg : List (Int × Int)) (l d : Int) (b : List (List Fl)) (cur : Option (Int × Int)) (s : JS) : jS gl tg (.mk 20 l d b) cur s = s := by rw [jS]; rfl
theorem ST_tag2 {w : World} {lo H : Nat} {ps : List Nat} {v : Value} {a : Nat} {k l d : Int} {b : List (List Tr)} (h : ST w lo H ps v (.mk a k l d b)) : 0 ≤ k ∧ k ≤ 20 ∧ ∃ x, v = .iface (tagK k) x := by
  by_cases h0 : k = 0
  · subst h0; rw [ST_0] at h; exact ⟨by decide, by decide, _, h.2.2.1⟩
  by_cases h1 : k = 1
  · subst h1; rw [ST_1] at h; exact ⟨by decide, by decide, _, h.2.2.1⟩
  by_cases h2 : k = 2
  · subst h2; rw [ST_2] at h; exact ⟨by decide, by decide, _, h.2.2.1⟩
  by_cases h3 : k = 3
  · subst h3; rw [ST_3] at h; exact ⟨by decide, by decide, _, h.2.2.1⟩
  by_cases h4 : k = 4
  · subst h4; rw [ST_4] at h; exact ⟨by decide, by decide, _, h.2.2.1⟩
  by_cases h5 : k = 5
  · subst h5; rw [ST_5] at h; exact ⟨by decide, by decide, _, h.2.2.1⟩
  by_cases h6 : k = 6
  · subst h6; rw [ST_6] at h; exact ⟨by decide, by decide, _, h.2.2.1⟩
  by_cases h7 : k = 7
  · subst h7; rw [ST_7] at h; exact ⟨by decide, by decide, _, h.2.2.1⟩
  by_cases h8 : k = 8
  · subst h8; rw [ST_8] at h; exact ⟨by decide, by decide, _, h.2.2.1⟩
  by_cases h9 : k = 9
  · subst h9; rw [ST_9] at h; exact ⟨by decide, by decide, _, h.2.2.1⟩
  by_cases h10 : k = 10
  · subst h10; rw [ST_10] at h; exact ⟨by decide, by decide, _, h.2.2.1⟩
  by_cases h11 : k = 11
  · subst h11; rw [ST_11] at h; exact ⟨by decide, by decide, _, h.2.2.1⟩
  by_cases h12 : k = 12
  · subst h12; rw [ST_12] at h; exact ⟨by decide, by decide, _, h.2.2.1⟩
  by_cases h13 : k = 13
  · subst h13; rw [ST_13] at h; exact ⟨by decide, by decide, _, h.2.2.1⟩
  by_cases h14 : k = 14
  · subst h14; rw [ST_14] at h; exact ⟨by decide, by decide, _, h.2.2.1⟩
  by_cases h15 : k = 15
  · subst h15; rw [ST_15] at h; exact ⟨by decide, by decide, _, h.2.2.1⟩
  by_cases h16 : k = 16
  · subst h16; rw [ST_16] at h; exact ⟨by decide, by decide, _, h.2.2.1⟩
  by_cases h17 : k = 17
  · subst h17; rw [ST_17] at h; exact ⟨by decide, by decide, _, h.2.2.1⟩
  by_cases h18 : k = 18
  · subst h18; rw [ST_18] at h; exact ⟨by decide, by decide, _, h.2.2.1⟩
  by_cases h19 : k = 19
  · subst h19; rw [ST_19] at h; exact ⟨by decide, by decide, _, h.2.2.1⟩
  by_cases h20 : k = 20
  · subst h20; rw [ST_20] at h; exact ⟨by decide, by decide, _, h.2.2.1⟩
  exfalso
  rw [ST] at h
  have h := h.2.2
  rw [if_neg h0] at h
  rw [if_neg h1] at h
  rw [if_neg h2] at h
  rw [if_neg h3] at h
  rw [if_neg h4] at h
  rw [if_neg h5] at h
  rw [if_neg h6] at h
  rw [if_neg h7] at h
  rw [if_neg h8] at h
  rw [if_neg h9] at h
  rw [if_neg h10] at h
  rw [if_neg h11] at h
  rw [if_neg h12] at h
  rw [if_neg h13] at h
  rw [if_neg h14] at h
  rw [if_neg h15] at h
  rw [if_neg h16] at h
  rw [if_neg h17] at h
  rw [if_neg h18] at h
  rw [if_neg h19] at h
  rw [if_neg h20] at h
  exact h
mutual
theorem tr_item {lo H0 C A M0 : Nat} {w0 : World} {ps : List Nat} : ∀ (t : Tr) (v : Value), ST w0 lo H0 ps v t → (gts t).Nodup → ∀ (up : List BE) (lst cur : CUR), ItemC lo H0 C A M0 w0 up lst cur v (fun s => jS (glB up) (tgX lst up) (er t) (curT cur) s) (gts t) (ct (er t))
  | .mk a k l d b, v, h, hnd, up, lst, cur => by
    have hB0 := fun (a1 : Nat) (h1 : BS0 w0 lo H0 ps a1 b) (h2 : (gtsB b).Nodup) (up : List BE) (lst cur : CUR) => bs0_item (C := C) (A := A) (M0 := M0) b a1 h1 h2 up lst cur
    have hB1 := fun (e : Value) (h1 : BS1 w0 lo H0 ps e b) (h2 : (gtsB b).Nodup) => bs1_item (C := C) (A := A) (M0 := M0) b e h1 h2
    have hCL := fun (sel : Bool) (b' o' n : Nat) (h1 : CL w0 lo H0 ps sel b' o' n d b) (h2 : (gtsB b).Nodup) => cl_items (C := C) (A := A) (M0 := M0) b sel b' o' n d h1 h2
    have hSI := fun (v' : Value) (h1 : SI w0 lo H0 ps v' b) (h3 : b.length < 2) (h2 : (gtsB b).Nodup) => si_item (C := C) (A := A) (M0 := M0) b v' h1 h3 h2
    rw [er, ct_b]
    have htk : b.length < 2 → b.take 1 = b := fun hh => List.take_of_length_le (by omega)
    by_cases h0 : k = 0
    · subst h0
      rw [ST_0] at h
      obtain ⟨g1, g2, rfl, hr⟩ := h
      exact (item_skip lo H0 C A M0 w0 up lst cur 115 _ [] 0 (by decide) (by decide) (by decide) (by decide) (by decide) (by decide) (by decide) (by decide) (by decide) (by decide) (by decide) (by decide) (by decide)).mono (fun s => (jS_0 _ _ _ _ _ _ _).symm) (fun a h => by cases h) (Nat.zero_le _)
    by_cases h1 : k = 1
    · subst h1
      rw [ST_1] at h
      obtain ⟨g1, g2, rfl, hr⟩ := h
      exact (item_skip lo H0 C A M0 w0 up lst cur 121 _ [] 0 (by decide) (by decide) (by decide) (by decide) (by decide) (by decide) (by decide) (by decide) (by decide) (by decide) (by decide) (by decide) (by decide)).mono (fun s => (jS_1 _ _ _ _ _ _ _).symm) (fun a h => by cases h) (Nat.zero_le _)
    by_cases h18 : k = 18
    · subst h18
      rw [ST_18] at h
      obtain ⟨g1, g2, rfl, hr⟩ := h
      exact (item_skip lo H0 C A M0 w0 up lst cur 121 _ [] 0 (by decide) (by decide) (by decide) (by decide) (by decide) (by decide) (by decide) (by decide) (by decide) (by decide) (by decide) (by decide) (by decide)).mono (fun s => (jS_18 _ _ _ _ _ _ _).symm) (fun a h => by cases h) (Nat.zero_le _)
    by_cases h19 : k = 19
    · subst h19
      rw [ST_19] at h
      obtain ⟨g1, g2, rfl, hr⟩ := h
      exact (item_skip lo H0 C A M0 w0 up lst cur 121 _ [] 0 (by decide) (by decide) (by decide) (by decide) (by decide) (by decide) (by decide) (by decide) (by decide) (by decide) (by decide) (by decide) (by decide)).mono (fun s => (jS_19 _ _ _ _ _ _ _).symm) (fun a h => by cases h) (Nat.zero_le _)
    by_cases h20 : k = 20
    · subst h20
      rw [ST_20] at h
      obtain ⟨g1, g2, rfl, hr⟩ := h
      exact (item_skip lo H0 C A M0 w0 up lst cur 112 _ [] 0 (by decide) (by decide) (by decide) (by decide) (by decide) (by decide) (by decide) (by decide) (by decide) (by decide) (by decide) (by decide) (by decide)).mono (fun s => (jS_20 _ _ _ _ _ _ _).symm) (fun a h => by cases h) (Nat.zero_le _)
    by_cases h2 : k = 2
    · subst h2
      rw [gts_b (by decide) (by decide)] at hnd ⊢
      rw [ST_2] at h
      obtain ⟨g1, g2, rfl, hlen, ⟨a1, c1, hb0⟩, e, c2, hb1⟩ := h
      match b, hlen, hnd, hb0, hb1, hB0, hB1 with
      | [], _, hnd, hb0, hb1, hB0, hB1 =>
        rw [BS1] at hb1
        · subst hb1
          have := item_if1 lo H0 C A M0 w0 up lst cur a a1 _ _ _ g2 c1 c2 (hB0 a1 hb0 hnd up lst cur)
          exact this.mono (fun s => (jS_2 _ _ _ _ _ _ _).symm) (fun _ h => h) (Nat.le_succ _)
        · intro _ _ _ hh; cases hh
      | [y], _, hnd, hb0, hb1, hB0, hB1 =>
        rw [BS1] at hb1
        · subst hb1
          have := item_if1 lo H0 C A M0 w0 up lst cur a a1 _ _ _ g2 c1 c2 (hB0 a1 hb0 hnd up lst cur)
          exact this.mono (fun s => (jS_2 _ _ _ _ _ _ _).symm) (fun _ h => h) (Nat.le_succ _)
        · intro _ _ _ hh; cases hh
      | [y, z], _, hnd, hb0, hb1, hB0, hB1 =>
        obtain ⟨a2, rfl, h2⟩ := hB1 e hb1 hnd y z [] rfl
        have hd : ∀ x ∈ gtsL z, ¬ x ∈ gtsB (List.take 1 [y, z]) := by
          intro x hx hh
          have e : gtsB (List.take 1 [y, z]) = gtsL y := by show gtsB [y] = _; rw [gtsB_cons, gtsB, List.append_nil]
          rw [e] at hh
          rw [gtsB_cons, gtsB_cons, gtsB, List.append_nil] at hnd
          exact (List.nodup_append.1 hnd).2.2 x hh x hx rfl
        have := item_if2 lo H0 C A M0 w0 up lst cur a a1 a2 _ _ _ _ _ _ g2 c1 c2 hd (hB0 a1 hb0 hnd up lst cur) (h2 up lst cur)
        refine this.mono (fun s => ?_) (fun x hx => ?_) ?_
        · rw [jS_2]
          show jB _ _ [erL z] _ (jB _ _ (erB [y]) _ s) = jB _ _ (erB [y, z]) _ s
          simp only [erB, jB_cons, jB_nil]
        · have e : gtsB (List.take 1 [y, z]) = gtsL y := by show gtsB [y] = _; rw [gtsB_cons, gtsB, List.append_nil]
          rw [e] at hx
          rw [gtsB_cons, gtsB_cons, gtsB, List.append_nil]
          exact hx
        · show ctB (erB [y]) + ctL (erL z) ≤ ctB (erB [y, z]) + 1
          rw [erB, erB, erB, erB, ctB, ctB, ctB, ctB, erB, ctB]
          omega
      | _ :: _ :: _ :: _, hlen, _, _, _, _, _ => simp only [List.length_cons] at hlen; omega
    by_cases h3 : k = 3
    · subst h3
      rw [gts_b (by decide) (by decide)] at hnd ⊢
      rw [ST_3] at h
      obtain ⟨g1, g2, rfl, hlen, _, a1, c1, hb0⟩ := h
      have := item_for lo H0 C A M0 w0 up lst cur a a1 _ _ _ g2 c1 (hB0 a1 hb0 hnd up lst cur)
      rw [htk hlen] at this
      exact this.mono (fun s => (jS_3 _ _ _ _ _ _ _).symm) (fun _ h => h) (Nat.le_succ _)
    by_cases h4 : k = 4
    · subst h4
      rw [gts_b (by decide) (by decide)] at hnd ⊢
      rw [ST_4] at h
      obtain ⟨g1, g2, rfl, hlen, _, a1, c1, hb0⟩ := h
      have := item_for lo H0 C A M0 w0 up lst cur a a1 _ _ _ g2 c1 (hB0 a1 hb0 hnd up lst cur)
      rw [htk hlen] at this
      exact this.mono (fun s => (jS_4 _ _ _ _ _ _ _).symm) (fun _ h => h) (Nat.le_succ _)
    by_cases h5 : k = 5
    · subst h5
      rw [gts_b (by decide) (by decide)] at hnd ⊢
      rw [ST_5] at h
      obtain ⟨g1, g2, rfl, hlen, a1, c1, hb0⟩ := h
      have := item_range lo H0 C A M0 w0 up lst cur a a1 _ _ _ g2 c1 (hB0 a1 hb0 hnd up lst cur)
      rw [htk hlen] at this
      exact this.mono (fun s => (jS_5 _ _ _ _ _ _ _).symm) (fun _ h => h) (Nat.le_succ _)
    by_cases h6 : k = 6
    · subst h6
      rw [gts_b (by decide) (by decide)] at hnd ⊢
      rw [ST_6] at h
      obtain ⟨g1, g2, rfl, a1, c1, g3, g4, sa, cap, c2, hlen, b', o', hsa, hcl⟩ := h
      have hb := item_block lo H0 C A M0 w0 up lst cur a1 sa b.length cap (fun labs s => jB (labs ++ glB up) ((curT cur).toList ++ tgX lst up) (erB b) none s) (gtsB b) (ctB (erB b)) g4 c2 (fun n labs => by
        have := cl_blk (C := C) (A := A) (M0 := M0) (cap := cap) hlen hsa hcl hnd (hCL false b' o' 0 hcl hnd) (⟨n + 2, labs, lst⟩ :: up) cur
        rw [glB_cons] at this
        have e : tgX cur (⟨n + 2, labs, lst⟩ :: up) = (curT cur).toList ++ tgX lst up := by rw [tgX, tgB_cons]
        rw [e] at this
        exact this)
      have := item_switch lo H0 C A M0 w0 up lst cur a a1 _ _ _ g2 c1 hb
      exact this.mono (fun s => (jS_6 _ _ _ _ _ _ _).symm) (fun _ h => h) (Nat.le_succ _)
    by_cases h7 : k = 7
    · subst h7
      rw [gts_b (by decide) (by decide)] at hnd ⊢
      rw [ST_7] at h
      obtain ⟨g1, g2, rfl, a1, c1, g3, g4, sa, cap, c2, hlen, b', o', hsa, hcl⟩ := h
      have hb := item_block lo H0 C A M0 w0 up lst cur a1 sa b.length cap (fun labs s => jB (labs ++ glB up) ((curT cur).toList ++ tgX lst up) (erB b) none s) (gtsB b) (ctB (erB b)) g4 c2 (fun n labs => by
        have := cl_blk (C := C) (A := A) (M0 := M0) (cap := cap) hlen hsa hcl hnd (hCL false b' o' 0 hcl hnd) (⟨n + 2, labs, lst⟩ :: up) cur
        rw [glB_cons] at this
        have e : tgX cur (⟨n + 2, labs, lst⟩ :: up) = (curT cur).toList ++ tgX lst up := by rw [tgX, tgB_cons]
        rw [e] at this
        exact this)
      have := item_tswitch lo H0 C A M0 w0 up lst cur a a1 _ _ _ g2 c1 hb
      exact this.mono (fun s => (jS_7 _ _ _ _ _ _ _).symm) (fun _ h => h) (Nat.le_succ _)
    by_cases h8 : k = 8
    · subst h8
      rw [gts_b (by decide) (by decide)] at hnd ⊢
      rw [ST_8] at h
      obtain ⟨g1, g2, rfl, a1, c1, g3, g4, sa, cap, c2, hlen, b', o', hsa, hcl⟩ := h
      have hb := item_block lo H0 C A M0 w0 up lst cur a1 sa b.length cap (fun labs s => jB (labs ++ glB up) ((curT cur).toList ++ tgX lst up) (erB b) none s) (gtsB b) (ctB (erB b)) g4 c2 (fun n labs => by
        have := cl_blk (C := C) (A := A) (M0 := M0) (cap := cap) hlen hsa hcl hnd (hCL true b' o' 0 hcl hnd) (⟨n + 2, labs, lst⟩ :: up) cur
        rw [glB_cons] at this
        have e : tgX cur (⟨n + 2, labs, lst⟩ :: up) = (curT cur).toList ++ tgX lst up := by rw [tgX, tgB_cons]
        rw [e] at this
        exact this)
      have := item_select lo H0 C A M0 w0 up lst cur a a1 _ _ _ g2 c1 hb
      exact this.mono (fun s => (jS_8 _ _ _ _ _ _ _).symm) (fun _ h => h) (Nat.le_succ _)
    by_cases h9 : k = 9
    · subst h9
      rw [gts_b (by decide) (by decide)] at hnd ⊢
      rw [ST_9] at h
      obtain ⟨g1, g2, rfl, hlen, hb0⟩ := h
      have := hB0 a hb0 hnd up lst cur
      rw [htk hlen] at this
      exact this.mono (fun s => (jS_9 _ _ _ _ _ _ _).symm) (fun _ h => h) (Nat.le_succ _)
    by_cases h10 : k = 10
    · subst h10
      rw [gts_b (by decide) (by decide)] at hnd ⊢
      rw [ST_10] at h
      obtain ⟨g1, g2, rfl, hlen, hn, hl, v', c2, hsi⟩ := h
      obtain ⟨⟨x, hx⟩, hi⟩ := hSI v' hsi hlen hnd
      by_cases hm : l = -1
      · subst hm
        have := item_blank lo H0 C A M0 w0 up lst cur a v' _ _ _ g1 g2 hn c2 (hi up lst cur)
        exact this.mono (fun s => by rw [jS_10, if_pos rfl]) (fun _ h => h) (Nat.le_succ _)
      · have hl1 : 1 ≤ l := by have := hn.1; omega
        subst hx
        have := item_label lo H0 C A M0 w0 up lst cur a l (kindI (erB b)) x _ _ _ g1 g2 hn hl1 c2 (hi up lst (some (a, l, kindI (erB b))))
        exact this.mono (fun s => by rw [jS_10, if_neg hm]; rfl) (fun _ h => h) (Nat.le_refl _)
    by_cases h11 : k = 11
    · subst h11
      rw [ST_11] at h
      obtain ⟨g1, g2, rfl, rfl, c1, hn, hl, ho⟩ := h
      have := item_goto lo H0 C A M0 w0 up lst cur a l g1 g2 c1 hn hl ho
      exact this.mono (fun s => (jS_11 _ _ _ _ _ _ _).symm) (fun x hx => by rw [gts, if_pos rfl]; exact hx) (by omega)
    by_cases h12 : k = 12
    · subst h12
      rw [ST_12] at h
      obtain ⟨g1, g2, rfl, rfl, c1, hn⟩ := h
      by_cases hl : l = 0
      · subst hl
        have hc2 : w0.cell? ⟨a, 2, none⟩ = some (.pointer none) := by
          have := hn.2.2
          rwa [if_pos rfl] at this
        exact (item_nolabel lo H0 C A M0 w0 up lst cur a [] 0 g2 hc2).mono (fun s => by rw [jS_12, if_pos rfl]) (fun x hx => by cases hx) (Nat.zero_le _)
      · exact (item_break lo H0 C A M0 w0 up lst cur a l [] g1 g2 c1 hn hl).mono (fun s => by rw [jS_12, if_neg hl]) (fun x hx => by cases hx) (by omega)
    by_cases h13 : k = 13
    · subst h13
      rw [ST_13] at h
      obtain ⟨g1, g2, rfl, rfl, c1, hn⟩ := h
      by_cases hl : l = 0
      · subst hl
        have hc2 : w0.cell? ⟨a, 2, none⟩ = some (.pointer none) := by
          have := hn.2.2
          rwa [if_pos rfl] at this
        exact (item_nolabel lo H0 C A M0 w0 up lst cur a [] 0 g2 hc2).mono (fun s => by rw [jS_13, if_pos rfl]) (fun x hx => by cases hx) (Nat.zero_le _)
      · exact (item_continue lo H0 C A M0 w0 up lst cur a l [] g1 g2 c1 hn hl).mono (fun s => by rw [jS_13, if_neg hl]) (fun x hx => by cases hx) (by omega)
    by_cases h14 : k = 14
    · subst h14
      rw [ST_14] at h
      obtain ⟨g1, g2, rfl, rfl, c1, c2⟩ := h
      exact (item_nolabel lo H0 C A M0 w0 up lst cur a [] 0 g2 c2).mono (fun s => (jS_14 _ _ _ _ _ _ _).symm) (fun x hx => by cases hx) (Nat.zero_le _)
    by_cases h15 : k = 15
    · subst h15
      rw [ST_15] at h
      obtain ⟨g1, g2, rfl, rfl, g, p, g3, g4, c1, c2, c3, hp⟩ := h
      exact (item_15 lo H0 C A M0 w0 up lst cur a g p [] 0 g2 g4 c1 c2 c3 hp).mono (fun s => (jS_15 _ _ _ _ _ _ _).symm) (fun x hx => by cases hx) (Nat.zero_le _)
    by_cases h16 : k = 16
    · subst h16
      rw [ST_16] at h
      obtain ⟨g1, g2, rfl, rfl, c1, p, c2, hp⟩ := h
      exact (item_16 lo H0 C A M0 w0 up lst cur a p [] 0 g2 c1 c2 hp).mono (fun s => (jS_16 _ _ _ _ _ _ _).symm) (fun x hx => by cases hx) (Nat.zero_le _)
    by_cases h17 : k = 17
    · subst h17
      rw [ST_17] at h
      obtain ⟨g1, g2, rfl, rfl, g, p, g3, g4, c1, c2, c3, hp⟩ := h
      exact (item_17 lo H0 C A M0 w0 up lst cur a g [] 0 g2 g4 c1 c2).mono (fun s => (jS_17 _ _ _ _ _ _ _).symm) (fun x hx => by cases hx) (Nat.zero_le _)
    exfalso
    have := (ST_tag2 h).1
    have := (ST_tag2 h).2.1
    omega
theorem bs0_item {lo H0 C A M0 : Nat} {w0 : World} {ps : List Nat} : ∀ (b : List (List Tr)) (a : Nat), BS0 w0 lo H0 ps a b → (gtsB b).Nodup → ∀ (up : List BE) (lst cur : CUR), ItemC lo H0 C A M0 w0 up lst cur (.iface 50 (.pointer (some ⟨a, 0, none⟩))) (fun s => jB (glB up) (tgX lst up) (erB (b.take 1)) (curT cur) s) (gtsB (b.take 1)) (ctB (erB (b.take 1)))
  | [], a, h, hnd, up, lst, cur => by
    rw [BS0] at h
    obtain ⟨g1, g2, c1⟩ := h
    have := blk_item (lo := lo) (C := C) (A := A) (M0 := M0) (ps := ps) (y := []) (b := 0) (o := 0) g2 c1 (by simp) (fun h => absurd rfl h) (by rw [TL]; trivial) (by rw [gtsL]; exact List.nodup_nil) (fun up lst it hit => by simp [itmsL] at hit) up lst cur
    refine this.mono (fun s => ?_) (fun x hx => by rw [gtsL] at hx; cases hx) (by rw [erL, ctL]; exact Nat.zero_le _)
    show jB _ _ [erL []] _ s = jB _ _ (erB []) _ s
    rw [erB, erL, jB_cons, jL_nil, jB_nil, jB_nil, outL_in]
  | y :: ys, a, h, hnd, up, lst, cur => by
    rw [BS0] at h
    obtain ⟨g1, g2, sa, cap, c1, hlen, b, o, hsa, htl⟩ := h
    rw [gtsB_cons] at hnd
    have hy := (List.nodup_append.1 hnd).1
    have := blk_item (C := C) (A := A) (M0 := M0) g2 c1 hlen hsa htl hy (tl_items y b o htl hy) up lst cur
    refine this.mono (fun s => ?_) (fun x hx => ?_) ?_
    · show jB _ _ [erL y] _ s = jB _ _ (erB [y]) _ s
      rw [erB, erB]
    · show x ∈ gtsB [y]
      rw [gtsB_cons, gtsB, List.append_nil]; exact hx
    · show ctL (erL y) ≤ ctB (erB [y])
      rw [erB, erB, ctB, ctB]; exact Nat.le_refl _
theorem bs1_item {lo H0 C A M0 : Nat} {w0 : World} {ps : List Nat} : ∀ (b : List (List Tr)) (e : Value), BS1 w0 lo H0 ps e b → (gtsB b).Nodup → ∀ y z zs, b = y :: z :: zs → ∃ a, e = .iface 50 (.pointer (some ⟨a, 0, none⟩)) ∧ ∀ (up : List BE) (lst cur : CUR), ItemC lo H0 C A M0 w0 up lst cur (.iface 50 (.pointer (some ⟨a, 0, none⟩))) (fun s => jB (glB up) (tgX lst up) [erL z] (curT cur) s) (gtsL z) (ctL (erL z))
  | [], e, h, hnd, y, z, zs, hb => by cases hb
  | [_], e, h, hnd, y, z, zs, hb => by cases hb
  | y' :: z' :: zs', e, h, hnd, y, z, zs, hb => by
    obtain ⟨rfl, rfl, rfl⟩ : y' = y ∧ z' = z ∧ zs' = zs := by injection hb with h1 h2; injection h2 with h2 h3; exact ⟨h1, h2, h3⟩
    rw [BS1] at h
    obtain ⟨a, rfl, g1, g2, sa, cap, c1, hlen, b, o, hsa, htl⟩ := h
    rw [gtsB_cons, gtsB_cons] at hnd
    have hz := (List.nodup_append.1 (List.nodup_append.1 hnd).2.1).1
    have := fun up lst cur => blk_item (C := C) (A := A) (M0 := M0) g2 c1 hlen hsa htl hz (tl_items z' b o htl hz) up lst cur
    exact ⟨a, rfl, this⟩
theorem si_item {lo H0 C A M0 : Nat} {w0 : World} {ps : List Nat} : ∀ (b : List (List Tr)) (v' : Value), SI w0 lo H0 ps v' b → b.length < 2 → (gtsB b).Nodup → (∃ x, v' = .iface (tagK (kindI (erB b))) x) ∧ ∀ (up : List BE) (lst cur : CUR), ItemC lo H0 C A M0 w0 up lst cur v' (fun s => jI (glB up) (tgX lst up) (erB b) (curT cur) s) (gtsB b) (ctB (erB b))
  | [], v', h, hlen, hnd => by
    rw [SI] at h
    obtain ⟨a, rfl⟩ := h
    refine ⟨⟨_, by rw [erB]; rfl⟩, fun up lst cur => ?_⟩
    exact (item_skip lo H0 C A M0 w0 up lst cur 112 _ [] 0 (by decide) (by decide) (by decide) (by decide) (by decide) (by decide) (by decide) (by decide) (by decide) (by decide) (by decide) (by decide) (by decide)).mono (fun s => by rw [erB, jI]) (fun a h => by cases h) (Nat.zero_le _)
  | [] :: ys, v', h, hlen, hnd => by
    rw [SI] at h
    obtain ⟨a, rfl⟩ := h
    refine ⟨⟨_, by rw [erB, erL]; rfl⟩, fun up lst cur => ?_⟩
    exact (item_skip lo H0 C A M0 w0 up lst cur 112 _ [] 0 (by decide) (by decide) (by decide) (by decide) (by decide) (by decide) (by decide) (by decide) (by decide) (by decide) (by decide) (by decide) (by decide)).mono (fun s => by rw [erB, erL, jI]) (fun a h => by cases h) (Nat.zero_le _)
  | (t :: ts) :: ys, v', h, hlen, hnd => by
    rw [SI] at h
    obtain ⟨rfl, hst⟩ := h
    rw [gtsB_cons, gtsL] at hnd
    have ht := (List.nodup_append.1 (List.nodup_append.1 hnd).1).1
    refine ⟨?_, fun up lst cur => ?_⟩
    · match t, hst with
      | .mk a k l d b, hst =>
        have := (ST_tag2 hst).2.2
        rw [erB, erL, er]
        exact this
    · exact (tr_item t v' hst ht up lst cur).mono (fun s => by rw [erB, erL, jI]) (fun x hx => by
        rw [gtsB_cons, gtsL]
        exact List.mem_append_left _ (List.mem_append_left _ hx)) (by rw [erB, erL, ctB, ctL]; omega)
theorem tl_items {lo H0 C A M0 : Nat} {w0 : World} {ps : List Nat} : ∀ (y : List Tr) (b o : Nat), TL w0 lo H0 ps b o y → (gtsL y).Nodup → ∀ (up : List BE) (lst : CUR), ∀ it ∈ itmsL w0 (glB up) (tgX lst up) b o y, ItemC lo H0 C A M0 w0 up lst none it.v it.J it.nodes it.cnt
  | [], b, o, h, hnd, up, lst, it, hit => by simp [itmsL] at hit
  | t :: ts, b, o, h, hnd, up, lst, it, hit => by
    rw [TL] at h
    obtain ⟨_, _, ⟨v, hc, hst⟩, htl⟩ := h
    rw [gtsL] at hnd
    obtain ⟨n1, n2, _⟩ := List.nodup_append.1 hnd
    rw [itmsL, List.mem_cons] at hit
    rcases hit with rfl | hit
    · have := tr_item (C := C) (A := A) (M0 := M0) t v hst n1 up lst none
      rw [hc]
      exact this
    · exact tl_items ts b (o + 1) htl n2 up lst it hit
theorem cl_items {lo H0 C A M0 : Nat} {w0 : World} {ps : List Nat} : ∀ (ys : List (List Tr)) (sel : Bool) (b o n : Nat) (d : Int), CL w0 lo H0 ps sel b o n d ys → (gtsB ys).Nodup → ∀ (up : List BE) (lst : CUR), ∀ it ∈ itmsC w0 (glB up) (tgX lst up) b o ys, ItemC lo H0 C A M0 w0 up lst none it.v it.J it.nodes it.cnt
  | [], sel, b, o, n, d, h, hnd, up, lst, it, hit => by simp [itmsC] at hit
  | y :: ys, sel, b, o, n, d, h, hnd, up, lst, it, hit => by
    rw [CL] at h
    obtain ⟨_, _, ⟨c, g3, g4, hc, _, sa, cap, c1, hlen, b', o', hsa, htl⟩, hcl⟩ := h
    rw [gtsB_cons] at hnd
    obtain ⟨n1, n2, _⟩ := List.nodup_append.1 hnd
    rw [itmsC, List.mem_cons] at hit
    rcases hit with rfl | hit
    · have hblk : ∀ n labs, BlkC lo H0 C A M0 w0 (⟨n + 2, labs, lst⟩ :: up) none sa y.length cap (fun s => jL (labs ++ glB up) (tgX lst up) (erL y) s) (gtsL y) (ctL (erL y)) := fun n labs => by
        have := tl_blk (C := C) (A := A) (M0 := M0) (cap := cap) hlen hsa htl n1 (tl_items y b' o' htl n1) (⟨n + 2, labs, lst⟩ :: up) none
        rw [glB_cons] at this
        have e : tgX none (⟨n + 2, labs, lst⟩ :: up) = tgX lst up := by rw [tgX, tgB_cons]; rfl
        rw [e] at this
        exact this
      rw [hc]
      cases sel with
      | false => exact item_case lo H0 C A M0 w0 up lst none c sa y.length cap (fun labs s => jL (labs ++ glB up) (tgX lst up) (erL y) s) (gtsL y) (ctL (erL y)) g4 c1 hblk
      | true => exact item_comm lo H0 C A M0 w0 up lst none c sa y.length cap (fun labs s => jL (labs ++ glB up) (tgX lst up) (erL y) s) (gtsL y) (ctL (erL y)) g4 c1 hblk
    · exact cl_items ys sel b (o + 1) (n + 1) d hcl n2 up lst it hit
end
/-- blockBranches on a list of statements. -/
theorem blockBranches_any {lo H0 C A M0 : Nat} {w0 : World} {ps : List Nat} {y : List Tr} {sa : Option Addr} {cap b o : Nat} (hlen : y.length ≤ 8796093022208) (hsa : y ≠ [] → sa = some ⟨b, o, none⟩) (h : TL w0 lo H0 ps b o y) (hnd : (gtsL y).Nodup) (es : List BE) (cur : CUR) :
    BlkC lo H0 C A M0 w0 es cur sa y.length cap (fun s => jL (glB es) (tgX cur es) (erL y) s) (gtsL y) (ctL (erL y)) :=
  tl_blk hlen hsa h hnd (tl_items y b o h hnd) es cur
end Go.Proofs.YtpodifbgfcclbaaGreatDoor
