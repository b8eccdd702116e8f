/- How great the trees of a list in order may be; impl.Ends. -/
import Derived.Test.YtpodifbgfcclbaaGreatDoorMk12
import Derived.Test.YtpodifbgfcclbaaGreatDoorEnd4
set_option linter.unusedVariables false
set_option linter.unusedSimpArgs false
namespace Go.Proofs.YtpodifbgfcclbaaGreatDoor
open Go.RowKit
attribute [local go_sem] Nat.lt_add_one_of_lt

mutual
theorem szGo_rk (w : World) (H : Nat) : ∀ (l : List Fl) (deep n b o : Nat), EL w H b o l → szGo deep l n ≤ 1000 → n ≤ szGo deep l n ∧ rkL l ≤ (szGo deep l n - n) * 5864062014806
  | [], deep, n, b, o, _, _ => by simp [szGo, rkL]
  | .mk k lb d bd :: xs, deep, n, b, o, h, hs => by
    obtain ⟨h1, h2, h3, h4, ⟨a, cap, h5, h6, h7, b', o', h8, h9⟩, h10⟩ := EL_cons.1 h
    rw [szGo] at hs ⊢
    cases hb : szB deep bd (n + 1) with
    | none => rw [hb] at hs; simp at hs
    | some m =>
      rw [hb] at hs
      simp only at hs ⊢
      obtain ⟨g1, g2⟩ := szGo_rk w H xs deep m b (o + 4) h10 hs
      obtain ⟨q1, q2⟩ := szB_rk w H bd deep (n + 1) m b' o' h9 hb
      rw [rkL, rk]
      omega
theorem szB_rk (w : World) (H : Nat) : ∀ (bd : List (List Fl)) (deep n m b o : Nat), ELL w H b o bd → szB deep bd n = some m → n ≤ m ∧ rkB bd ≤ bd.length + (m - n) * 5864062014806
  | [], deep, n, m, b, o, _, hb => by
    simp only [szB, Option.some.injEq] at hb
    subst hb
    simp [rkB]
  | y :: ys, deep, n, m, b, o, h, hb => by
    obtain ⟨h1, ⟨a, cap, h5, h6, h7, b', o', h8, h9⟩, h10⟩ := ELL_cons.1 h
    rw [szB] at hb
    by_cases hd : deep + 1 > 50
    · rw [if_pos hd, if_pos (by omega)] at hb
      cases hb
    · rw [if_neg hd] at hb
      by_cases hs : n + szGo (deep + 1) y 0 > 1000
      · rw [if_pos hs] at hb
        cases hb
      · rw [if_neg hs] at hb
        obtain ⟨g1, g2⟩ := szGo_rk w H y (deep + 1) 0 b' o' h9 (by omega)
        obtain ⟨q1, q2⟩ := szB_rk w H ys deep _ m b (o + 1) h10 hb
        rw [rkB, List.length_cons]
        omega
end
theorem valid_rk {w : World} {H : Nat} {a : Option Addr} {cap : Nat} {l : List Fl} (hs : SL w H a cap l) (hv : validL l = true) : rkL l ≤ 5864062014806000 := by
  obtain ⟨_, _, b, o, _, h⟩ := hs
  simp only [validL, Bool.and_eq_true, decide_eq_true_eq] at hv
  have hz : szL 0 l = szGo 0 l 0 := by rw [szL, if_neg (by omega)]
  rw [hz] at hv
  have := szGo_rk w H l 0 0 b o h hv.1
  omega
theorem valid_fi {l : List Fl} (hv : validL l = true) : fiL l false = true := by
  simp only [validL, Bool.and_eq_true] at hv
  exact hv.2
/-- The maker as it is made. -/
theorem MS.start (w : World) (h : Lib.TabBelow Tryz.prog w.heap.size w "internal/strconv.uint64pow10" .u64 Lib.pow10Tab) : MS w.heap.size (w.heap.size + 2) (w.heap.size + 1) w.heap.size 0 [] ((w.alloc (.map #[] 0)).alloc (.cells #[.int .i64 0, .map (some w.heap.size)] 47)) where
  blk := by show ((w.heap.push _).push _)[_]? = _; rw [Array.getElem?_push]; simp
  pan := ⟨⟨#[], 0, by show ((w.heap.push _).push _)[_]? = _; rw [Array.getElem?_push]; simp, rfl⟩, by simp⟩
  bM := by omega
  bR := by omega
  ne := by omega
  lM := by omega
  lR := by omega
  lsz := by simp
  pos := by omega
  psn := by simp
  tab := h.on (((Below.refl _ _).alloc (Nat.le_refl _) _).alloc (by simp) _)
theorem term_len (l : List Fl) (ts : List Tr) (he : erL ts = l) (sa : Option Addr) (cap b o lo H : Nat) (ps : List Nat) (R : Nat) (w : World) (hsa : ts ≠ [] → sa = some ⟨b, o, none⟩) (hlen : l.length ≤ 8796093022208) (hy : TL w lo H ps b o ts) (hH : H ≤ w.heap.size) (hp : PM w R ps) (hR : R < w.heap.size) (hps : ∀ p ∈ ps, p < w.heap.size) :
    Calls Tryz.prog 38 #[.slice sa l.length cap, .map (some R)] w (RetB w (teL l)) := by
  subst he
  have hl : (erL ts).length = ts.length := erL_length ts
  rw [hl] at hlen ⊢
  exact terminating_any ts sa cap b o lo H ps R w hsa hlen hy hH hp hR hps
set_option maxHeartbeats 1000000 in
theorem ends_any (l : List Fl) (a : Option Addr) (cap : Nat) (w : World) (hs : SL w w.heap.size a cap l) (ht : Lib.TabBelow Tryz.prog w.heap.size w "internal/strconv.uint64pow10" .u64 Lib.pow10Tab) (hv : validL l = true) :
    Calls Tryz.prog 28 #[.slice a l.length cap] w (RetB w (teL l)) := by
  have hrk := valid_rk hs hv
  have hfi := valid_fi hv
  have hms := MS.start w ht
  have hs2 : SL ((w.alloc (.map #[] 0)).alloc (.cells #[.int .i64 0, .map (some w.heap.size)] 47)) w.heap.size a cap l := hs.below (((Below.refl _ _).alloc (Nat.le_refl _) _).alloc (by simp) _) (Nat.le_refl _)
  have hlen : l.length ≤ 8796093022208 := by have := hs.1; have := hs.2.1; omega
  have hmm := @run_makeMap Tryz.prog
  have HMS := Lib.hid hms
  have HS := Lib.hid hs2
  have HF := Lib.hid hfi
  clear hms hs hs2 hfi hv ht
  go_enter Tryz.func28, Tryz.ntmps28
  go_wp2_with fail
  go_region_held3 (fun w' => w'.cell? ⟨w.heap.size + 1, 1, none⟩ = some (.map (some w.heap.size))) (go_keep)
    (first
      | (go_at_call 39; refine (mkls_all l false w.heap.size (w.heap.size + 2) (w.heap.size + 1) w.heap.size 0 [] _ a cap HF.out (by exact HS.out.below (Below.refl _ _).drew (Nat.le_refl _)) (by exact HMS.out.drew) (by omega)).mono ?_; rintro e w1 ⟨ts, sa, cap2, p2, ps2, rfl, e1, ⟨b, e2, e3⟩, e4, hm, e5⟩; have hc := hm.ms.map1)
      | (go_at_call 38; refine (term_len l ts e1 sa cap2 b 0 _ _ ps2 w.heap.size _ e2 hlen (by exact e3) (Nat.le_refl _) (by exact hm.ms.pan) (by exact hm.ms.szR) (fun q hq => (hm.ms.psn q hq).2)).mono ?_; rintro e w2 ⟨rfl, hb⟩; have hc2 := ((bcell hb).1 (w.heap.size + 1) 1 hm.ms.szM).trans hc))
  all_goals
    go_wp2_with fail
    go_ret
    refine ⟨rfl, ?_⟩
    have hsz : w.heap.size ≤ w1.heap.size := by have := hm.size; simp at this; omega
    have hb2 : Below w.heap.size w1 w2 := Below.mono (by exact hb) hsz
    have hm2 : Below w.heap.size _ w1 := hm.mf.below (by simp; omega) (by omega) (by omega)
    exact (((Below.refl _ _).alloc (Nat.le_refl _) _).alloc (by simp) _).drew.trans (hm2.trans hb2)
end Go.Proofs.YtpodifbgfcclbaaGreatDoor
