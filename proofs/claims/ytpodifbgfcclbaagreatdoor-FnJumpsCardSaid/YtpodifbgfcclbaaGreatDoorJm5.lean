/- The labels of a function: looked up, put in. -/
import Derived.Test.YtpodifbgfcclbaaGreatDoorJm3
set_option linter.unusedVariables false
set_option linter.unusedSimpArgs false
namespace Go.Proofs.YtpodifbgfcclbaaGreatDoor
open Go.RowKit
attribute [local go_sem] Nat.lt_add_one_of_lt

def lookG (gd : GD) (n : Int) : Value := ((gd.find? fun e => e.1 == n).map fun e => Value.iface 108 (.pointer (some ⟨e.2.2, 0, none⟩))).getD .nilIface
theorem GSt.rng {H0 C A M0 k : Nat} {gd : GD} {w : World} (h : GSt H0 C A M0 gd k w) : ∀ e ∈ gd, 1 ≤ e.1 ∧ e.1 ≤ 9 := fun e he => ⟨(h.lab e he).2.1, (h.lab e he).2.2.1⟩
set_option maxHeartbeats 1000000 in
theorem Lookup_any (H0 C A M0 k : Nat) (gd : GD) (n : Int) (w : World) (h : GSt H0 C A M0 gd k w) (h1 : -1 ≤ n) (h2 : n ≤ 9) :
    Calls Tryz.prog 58 #[.pointer (some ⟨A, 0, none⟩), .string (nm n)] w fun e w' => e = .returned (lookG gd n) ∧ w' = w := by
  obtain ⟨v, hA, _⟩ := h.scp
  have hc : ∀ o, w.cell? ⟨A, o, none⟩ = _ := blk_cell hA
  have hAl : A < w.heap.size := (Array.getElem?_eq_some_iff.1 hA).1
  have hl := run_look 151 104 .nilIface true und151 zero104 M0 (nm n) (kvG gd) w h.map
  have hg := sget_kvG h.rng h1 h2
  unfold lookG
  rw [hg] at hl
  cases hf : gd.find? fun e => e.1 == n with
  | none =>
    rw [hf] at hl
    simp only [Option.map_none, Option.getD_none, Option.isSome_none, if_true] at hl
    clear h hA
    go_enter Tryz.func58, Tryz.ntmps58
    go_wp2_with fail
    go_ret
    exact ⟨rfl, rfl⟩
  | some e =>
    rw [hf] at hl
    simp only [Option.map_some, Option.getD_some, Option.isSome_some, if_true] at hl
    clear h hA
    go_enter Tryz.func58, Tryz.ntmps58
    go_wp2_with fail
    go_ret
    exact ⟨rfl, rfl⟩
theorem NewScope_any (p q : Int) (a : Value) (s : ByteArray) (w : World) :
    Calls Tryz.prog 56 #[a, .int .i64 p, .int .i64 q, .string s] w fun e w' => e = .returned (.pointer (some ⟨w.heap.size + 1, 0, none⟩)) ∧ w' = (w.alloc (.map #[] 0)).alloc (.cells #[.map (some w.heap.size), .slice none 0 0] 154) := by
  have hmm := @run_makeMap Tryz.prog
  go_enter Tryz.func56, Tryz.ntmps56
  go_wp2_with fail
  go_ret
  exact ⟨rfl, rfl⟩
theorem info9 : ∃ j, Tryz.prog.info? 9 = some j ∧ j.zero = some (.string ⟨#[]⟩) ∧ j.size = 1 ∧ j.bytes = 16 := by
  have h : (Tryz.prog.info? 9).map (fun j => (j.zero, j.size, j.bytes)) = some (some (.string ⟨#[]⟩), 1, 16) := by kernel_rfl
  cases hj : Tryz.prog.info? 9 with
  | none => rw [hj] at h; cases h
  | some j => rw [hj] at h; simp only [Option.map_some, Option.some.injEq, Prod.mk.injEq] at h; exact ⟨j, rfl, h.1, h.2.1, h.2.2⟩
theorem keys_len : ∀ (N : Nat) {l : List Int}, l.Nodup → (∀ a ∈ l, 1 ≤ a ∧ a ≤ (N : Int)) → l.length ≤ N
  | 0, l, _, hr => by
    rcases l with _ | ⟨a, l⟩
    · simp
    · have := hr a (by simp); omega
  | N + 1, l, h, hr => by
    have := keys_len N (h.erase ((N + 1 : Nat) : Int)) fun a ha => by
      have h1 := (h.mem_erase_iff).1 ha
      have h2 := hr a h1.2
      have h3 := h1.1
      omega
    have h4 := List.length_erase (a := ((N + 1 : Nat) : Int)) (l := l)
    split at h4 <;> omega
theorem GSt.put {H0 C A M0 k L : Nat} {gd : GD} {n p : Int} {w w3 : World} {v v' : Value} (h : GSt H0 C A M0 gd k w) (h1 : 1 ≤ n) (h2 : n ≤ 9) (hn : ¬ n ∈ gd.map fun e => e.1) (hLn : ¬ L ∈ gd.map fun e => e.2.2) (hL0 : H0 ≤ L)
    (hL : w.heap[L]? = some (.cells #[.int .i64 p, .string (nm n), .bool false] 107)) (hA : w.heap[A]? = some (.cells #[.map (some M0), v] 154)) (hrow : w.ownsRow H0 9 1 v gd.length (gd.map fun e => .string (nm e.1)))
    (hos : w3.os = w.os) (htp : w3.tape = w.tape) (hout : w3.output = w.output) (hsz : w.heap.size ≤ w3.heap.size)
    (hb : ∀ j, j < w.heap.size → j ≠ M0 → j ≠ A → some j ≠ v.ownBlock → w3.heap[j]? = w.heap[j]?) (hM : SMap w3 M0 (kvG gd ++ [(nm n, .iface 108 (.pointer (some ⟨L, 0, none⟩)))]))
    (hA3 : w3.heap[A]? = some (.cells #[.map (some M0), v'] 154)) (hrow3 : w3.ownsRow H0 9 1 v' (gd.length + 1) ((gd.map fun e => .string (nm e.1)) ++ [.string (nm n)])) :
    GSt H0 C A M0 (gd ++ [(n, false, L)]) k w3 ∧ w3.heap[L]? = some (.cells #[.int .i64 p, .string (nm n), .bool false] 107) ∧ GF H0 M0 w.heap.size w w3 := by
  have far : ∀ (j : Nat) (cs : Array Value) (T : Nat) (f : Nat × Nat), w.heap[j]? = some (Obj.cells cs T f) → T ≠ 154 → T ≠ 9 → w3.heap[j]? = w.heap[j]? := fun j cs T f hj t1 t2 => by
    refine hb j (Array.getElem?_eq_some_iff.1 hj).1 ?_ ?_ ?_
    · rintro rfl
      obtain ⟨es', clk', hm, _⟩ := h.map
      rw [hm] at hj; cases hj
    · rintro rfl
      rw [hA] at hj; cases hj; exact t1 rfl
    · intro e
      obtain ⟨_, _, cs', h3⟩ := row_blk hrow e.symm
      rw [h3] at hj; cases hj; exact t2 rfl
  have hL3 := (far _ _ _ _ hL (by decide) (by decide)).trans hL
  refine ⟨⟨h.chk.keep fun j cs T f q1 q2 => far j cs T f q1 (by omega) (by omega), ⟨v', hA3, by simpa using hrow3⟩, by simpa [kvG] using hM, fun e he => ?_, ?_, ?_, h.hA, h.hM, by have := h.sz; omega⟩, hL3, ⟨hos, htp, hout, hsz, fun j hj => ?_, fun j hj hx => ?_⟩⟩
  · rcases List.mem_append.1 he with he | he
    · obtain ⟨q1, q2, q3, p', q4⟩ := h.lab e he
      exact ⟨q1, q2, q3, p', (far _ _ _ _ q4 (by decide) (by decide)).trans q4⟩
    · simp at he
      subst he
      exact ⟨hL0, h1, h2, p, hL3⟩
  · rw [List.map_append]
    refine List.nodup_append.2 ⟨h.nod, by simp, fun a ha b hb' e => ?_⟩
    simp at hb'
    subst hb'; subst e
    exact hLn ha
  · rw [List.map_append]
    refine List.nodup_append.2 ⟨h.key, by simp, fun a ha b hb' e => ?_⟩
    simp at hb'
    subst hb'; subst e
    exact hn ha
  · have hs := h.sz
    have hh := h.hM
    have hh2 := h.hA
    refine hb j (by omega) (by omega) (by omega) fun e => ?_
    have := (row_blk hrow e.symm).1
    omega
  · refine hb j hj (fun e => hx (.inl e)) ?_ fun e => ?_
    · rintro rfl; exact hx (.inr ⟨_, _, _, hA, by simp⟩)
    · obtain ⟨_, _, cs', h3⟩ := row_blk hrow e.symm
      exact hx (.inr ⟨_, _, _, h3, by simp⟩)
set_option maxRecDepth 100000 in
set_option maxHeartbeats 4000000 in
theorem Insert_new (H0 C A M0 k L : Nat) (gd : GD) (n p : Int) (w : World) (h : GSt H0 C A M0 gd k w) (h1 : 1 ≤ n) (h2 : n ≤ 9) (hL : w.heap[L]? = some (.cells #[.int .i64 p, .string (nm n), .bool false] 107)) (hn : ¬ n ∈ gd.map fun e => e.1) (hLn : ¬ L ∈ gd.map fun e => e.2.2) (hL0 : H0 ≤ L) :
    Calls Tryz.prog 78 #[.pointer (some ⟨A, 0, none⟩), .pointer (some ⟨L, 0, none⟩)] w fun e w' => e = .returned .nilIface ∧ GSt H0 C A M0 (gd ++ [(n, false, L)]) k w' ∧ w'.heap[L]? = some (.cells #[.int .i64 p, .string (nm n), .bool false] 107) ∧ GF H0 M0 w.heap.size w w' := by
  obtain ⟨v, hA, hrow⟩ := h.scp
  have hc : ∀ o, w.cell? ⟨A, o, none⟩ = _ := blk_cell hA
  have hcL : ∀ o, w.cell? ⟨L, o, none⟩ = _ := blk_cell hL
  have hAl : A < w.heap.size := (Array.getElem?_eq_some_iff.1 hA).1
  have hLl : L < w.heap.size := (Array.getElem?_eq_some_iff.1 hL).1
  have hf : gd.find? (fun e => e.1 == n) = none := by
    rw [List.find?_eq_none]
    intro e he hh
    exact hn (List.mem_map.2 ⟨e, he, by simpa using hh⟩)
  have hlk : lookG gd n = .nilIface := by rw [lookG, hf]; rfl
  have hs : sget (kvG gd) (nm n) = none := by rw [sget_kvG h.rng (by omega) h2, hf]; rfl
  obtain ⟨es, clk, hup, hmap⟩ := run_upd 151 104 und151 M0 (nm n) (.iface 108 (.pointer (some ⟨L, 0, none⟩))) (kvG gd) w.drew h.map hs
  have HH := Lib.hid h
  have HM := Lib.hid hmap
  go_enter Tryz.func78, Tryz.ntmps78
  go_wp2_with fail
  refine (Lookup_any H0 C A M0 k gd n w h (by omega) h2).mono ?_
  rintro e w1 ⟨rfl, hww⟩
  rw [hww, hlk]
  clear hww
  clear h hmap
  go_wp2_with fail
  go_region
  obtain ⟨W1, hW⟩ : ∃ W, W = setObj w.drew M0 (.map es clk) := ⟨_, rfl⟩
  rw [← hW] at HM ⊢
  have hfar : ∀ (j : Nat) (cs : Array Value) (T : Nat) (f : Nat × Nat), w.heap[j]? = some (Obj.cells cs T f) → W1.heap[j]? = some (.cells cs T f) := fun j cs T f hj => by
    rw [hW, setObj_heap _ _ _ _ ?_]
    · exact hj
    · rintro rfl
      obtain ⟨es', clk', hm, _⟩ := HH.out.map
      rw [hm] at hj
      cases hj
  have hsz : W1.heap.size = w.heap.size := by rw [hW, setObj_size]; rfl
  have hA1 := hfar _ _ _ _ hA
  have hL1 := hfar _ _ _ _ hL
  have hrow1 : W1.ownsRow H0 9 1 v gd.length (gd.map fun e => .string (nm e.1)) := row_keep hrow fun g hg => by
    obtain ⟨_, _, cs, h3⟩ := row_blk hrow hg
    exact (hfar _ _ _ _ h3).trans h3.symm
  have hc1 : ∀ o, W1.cell? ⟨A, o, none⟩ = _ := blk_cell hA1
  have hcf1 : ∀ o, W1.frozen? ⟨A, o, none⟩ = false := blk_frz hA1
  have hcL1 : ∀ o, W1.cell? ⟨L, o, none⟩ = _ := blk_cell hL1
  have hAl1 : A < W1.heap.size := by omega
  have hLl1 : L < W1.heap.size := by omega
  have hlen : gd.length ≤ 9 := by
    have := keys_len 9 HH.out.key fun a ha => by
      obtain ⟨e, he, rfl⟩ := List.mem_map.1 ha
      exact HH.out.rng e he
    simpa using this
  have hH0 := HH.out.sz
  have hne : some A ≠ v.ownBlock := fun e => by
    obtain ⟨_, _, cs, h⟩ := row_blk hrow1 e.symm
    rw [h] at hA1
    cases hA1
  have HF := Lib.hid hfar
  have HA1 := Lib.hid hA1
  have HL1 := Lib.hid hL1
  have HR1 := Lib.hid hrow1
  have HW := Lib.hid hW
  obtain ⟨j9, hj9, hz9, hz1, hz2⟩ := info9
  have HL := Lib.hid hL
  have HA := Lib.hid hA
  have HR := Lib.hid hrow
  clear hfar hA hA1 hL hL1 hc hcL hup hW hsz hAl hLl hrow hf hlk hs
  go_wp2_with fail
  go_region_law (first
    | (refine step_append_lies _ (by rfl) _ _ _ (by rfl) H0 9 j9 _ 1 16 (by kernel_rfl) hj9 hz9 hz1 hz2 rfl (by omega) v gd.length (gd.map fun e => .string (nm e.1)) (by rfl) (by first | exact (HR1.out.alloc _).drew | exact HR1.out.drew.alloc _)
        ⟨W1.heap.size, 0, none⟩ 1 1 [.string (nm n)] (by rfl) (by rfl) (World.news_of_block (cs := #[.string (nm n)]) (t := 9) (fr := (0, 0)) (heap_alloc_new _ _)) (by simp [Value.oneCell']) (by omega) (by unfold maxLen; omega) (by omega) (by simp; omega) _ rfl ?_; intro gg cap1 w2 hown1 hgrow hat hlt
       have hc2 : w2.cell? ⟨A, 1, none⟩ = some v := (hgrow.cell_far ⟨A, 1, none⟩ (by simp; omega) hne).trans ((World.cell?_alloc_past _ _ _ hAl1).trans (hc1 1))
       have hf2 : w2.frozen? ⟨A, 1, none⟩ = false := (hgrow.frozen_far ⟨A, 1, none⟩ (by simp; omega) hne).trans ((World.frozen?_alloc_past _ _ _ hAl1).trans (hcf1 1))))
  all_goals
    have hb2 : ∀ j, j < w.heap.size → j ≠ M0 → some j ≠ v.ownBlock → w2.heap[j]? = w.heap[j]? := fun j q1 q2 q3 => by
      have hs1 : W1.heap.size = w.heap.size := by rw [HW.out, setObj_size]; rfl
      refine (hgrow.block j (by simp; omega) q3).trans ((Below.heap_alloc _ _ _ (by omega)).trans ?_)
      rw [HW.out, setObj_heap _ _ _ _ q2]; rfl
    have HB := Lib.hid hb2
    have HG := Lib.hid hgrow
    have HO := Lib.hid hown1
    have hs2 : W1.heap.size < w2.heap.size := by have := hgrow.size; simp at this; omega
    clear hb2 hgrow hown1 hat
    go_wp2_with fail
    go_ret
    refine ⟨rfl, ?_⟩
    have hA2 : w2.heap[A]? = some (.cells #[.map (some M0), v] 154) := (HG.out.block A (by simp; omega) hne).trans ((Below.heap_alloc _ _ _ hAl1).trans HA1.out)
    refine GSt.put (v := v) HH.out h1 h2 hn hLn hL0 HL.out HA.out HR.out ?_ ?_ ?_ ?_ (fun j q1 q2 q3 q4 => ?_) ?_ ?_ ?_ (v' := .slice (some ⟨gg, 0, none⟩) (gd.length + 1) cap1)
    · show w2.os = w.os
      rw [HG.out.os, HW.out]; rfl
    · show w2.tape = w.tape
      rw [HG.out.tape]; show W1.tape = _; rw [HW.out]; rfl
    · show w2.output = w.output
      rw [HG.out.output]; show W1.output = _; rw [HW.out]; rfl
    · have hs1 : W1.heap.size = w.heap.size := by rw [HW.out, setObj_size]; rfl
      simp; omega
    · rw [blk_far _ q3]; exact HB.out j q1 q2 q4
    · refine HM.out.keep ?_
      have hMl : M0 < W1.heap.size := HM.out.lt
      have hMA : M0 ≠ A := by
        rintro rfl
        obtain ⟨es', clk', hm, _⟩ := HM.out
        rw [HA1.out] at hm; cases hm
      refine (blk_far _ hMA).trans ((HG.out.block M0 (by simp; omega) ?_).trans (Below.heap_alloc _ _ _ (by omega)))
      · intro e
        obtain ⟨_, _, cs', h3⟩ := row_blk HR1.out e.symm
        obtain ⟨es', clk', hm, _⟩ := HM.out
        rw [h3] at hm; cases hm
    · rw [blk_set hA2]; rfl
    · refine row_keep HO.out fun g hg => blk_far _ ?_
      rintro rfl
      obtain ⟨_, _, cs', h3⟩ := row_blk HO.out hg
      rw [hA2] at h3
      cases h3
theorem find_key {gd : GD} {n : Int} (h : n ∈ gd.map fun e => e.1) : ∃ e ∈ gd, e.1 = n ∧ gd.find? (fun e => e.1 == n) = some e := by
  obtain ⟨e, he, h1⟩ := List.mem_map.1 h
  cases hf : gd.find? (fun e => e.1 == n) with
  | none =>
    rw [List.find?_eq_none] at hf
    exact absurd (by simpa using h1) (hf e he)
  | some e' => exact ⟨e', List.mem_of_find?_eq_some hf, by simpa using List.find?_some hf, rfl⟩
theorem Insert_old (H0 C A M0 k L : Nat) (gd : GD) (n p : Int) (w : World) (h : GSt H0 C A M0 gd k w) (h1 : 1 ≤ n) (h2 : n ≤ 9) (hL : w.heap[L]? = some (.cells #[.int .i64 p, .string (nm n), .bool false] 107)) (hn : n ∈ gd.map fun e => e.1) :
    Calls Tryz.prog 78 #[.pointer (some ⟨A, 0, none⟩), .pointer (some ⟨L, 0, none⟩)] w fun e w' => (∃ x, e = .returned (.iface 108 (.pointer (some ⟨x, 0, none⟩)))) ∧ w' = w := by
  have hcL : ∀ o, w.cell? ⟨L, o, none⟩ = _ := blk_cell hL
  have hLl : L < w.heap.size := (Array.getElem?_eq_some_iff.1 hL).1
  obtain ⟨e, _, _, hf⟩ := find_key hn
  have hlk : lookG gd n = .iface 108 (.pointer (some ⟨e.2.2, 0, none⟩)) := by rw [lookG, hf]; rfl
  go_enter Tryz.func78, Tryz.ntmps78
  go_wp2_with fail
  refine (Lookup_any H0 C A M0 k gd n w h (by omega) h2).mono ?_
  rintro _ w1 ⟨rfl, hww⟩
  rw [hww, hlk]
  clear hww
  go_wp2_with fail
  go_ret
  exact ⟨⟨_, rfl⟩, rfl⟩
end Go.Proofs.YtpodifbgfcclbaaGreatDoor

/- The blocks around a place. -/
set_option linter.unusedVariables false
set_option linter.unusedSimpArgs false
namespace Go.Proofs.YtpodifbgfcclbaaGreatDoor
open Go.RowKit
attribute [local go_sem] Nat.lt_add_one_of_lt

theorem nm_all : (([1, 2, 3, 4, 5, 6, 7, 8, 9] : List Int).all fun a => ([-1, 0, 1, 2, 3, 4, 5, 6, 7, 8, 9] : List Int).all fun b => ((nm a).toList == (nm b).toList) == decide (a = b)) = true := by decide +kernel
theorem nm_eq {a b : Int} (ha : 1 ≤ a) (ha2 : a ≤ 9) (hb : -1 ≤ b) (hb2 : b ≤ 9) : ((nm a).toList == (nm b).toList) = decide (a = b) := by
  have h := nm_all
  rw [List.all_eq_true] at h
  have h1 := h a (by
    have : a = 1 ∨ a = 2 ∨ a = 3 ∨ a = 4 ∨ a = 5 ∨ a = 6 ∨ a = 7 ∨ a = 8 ∨ a = 9 := by omega
    simp; omega)
  rw [List.all_eq_true] at h1
  have h2 := h1 b (by
    have : b = -1 ∨ b = 0 ∨ b = 1 ∨ b = 2 ∨ b = 3 ∨ b = 4 ∨ b = 5 ∨ b = 6 ∨ b = 7 ∨ b = 8 ∨ b = 9 := by omega
    simp; omega)
  simpa using h2
/-- A block: where its record lies, its labels, and its statement with a label: the node, the label, the kind of what stands behind it. -/
structure BE where
  b : Nat
  labs : List Int
  lst : Option (Nat × Int × Int)
def ptr (x : Option Nat) : Value := .pointer (x.map fun b => ⟨b, 0, none⟩)
/-- The tag of a kind of statement. -/
def tagK (k : Int) : Nat :=
  if k = 0 then 115 else if k = 2 then 126 else if k = 3 then 130 else if k = 4 then 130 else if k = 5 then 133 else if k = 6 then 137 else if k = 7 then 141 else if k = 8 then 147 else if k = 9 then 50
  else if k = 10 then 156 else if 11 ≤ k ∧ k ≤ 14 then 95 else if k = 15 then 165 else if k = 16 then 189 else if k = 17 then 165 else if k = 20 then 112 else 121
def LS (w : World) (lo H0 : Nat) (s : Nat) (n k : Int) : Prop :=
  lo ≤ s ∧ s < H0 ∧ 1 ≤ n ∧ n ≤ 9 ∧ (∃ i, lo ≤ i ∧ i < H0 ∧ w.cell? ⟨s, 0, none⟩ = some (.pointer (some ⟨i, 0, none⟩)) ∧ w.cell? ⟨i, 1, none⟩ = some (.string (nm n))) ∧ ∃ v, w.cell? ⟨s, 2, none⟩ = some (.iface (tagK k) v)
/-- The labels of a block in memory. -/
def LM (w : World) (H0 M0 N : Nat) (lm : Option Nat) (labs : List Int) : Prop :=
  (∀ l ∈ labs, 1 ≤ l ∧ l ≤ 9) ∧ match lm with
  | none => labs = []
  | some m => H0 ≤ m ∧ m < N ∧ m ≠ M0 ∧ ∃ ks : List (Int × Nat), ks.map Prod.fst = labs ∧ SMap w m (ks.map fun x => (nm x.1, .pointer (some ⟨x.2, 0, none⟩)))
def BEb (w : World) (lo H0 M0 N : Nat) (e : BE) (up : Option Nat) : Prop :=
  ∃ lm, w.heap[e.b]? = some (.cells #[ptr up, ptr (e.lst.map fun x => x.1), .map lm] 159) ∧ H0 ≤ e.b ∧ e.b < N ∧ e.b ≠ M0 ∧ LM w H0 M0 N lm e.labs ∧ ∀ x, e.lst = some x → LS w lo H0 x.1 x.2.1 x.2.2
def headB (es : List BE) : Option Nat := es.head?.map fun e => e.b
def Ch (w : World) (lo H0 M0 N : Nat) : List BE → Prop
  | [] => True
  | e :: es => BEb w lo H0 M0 N e (headB es) ∧ Ch w lo H0 M0 N es
def glB (es : List BE) : List Int := es.flatMap fun e => e.labs
def tgB (es : List BE) : List (Int × Int) := es.filterMap fun e => e.lst.map fun x => x.2
theorem LS.keep {w w' : World} {lo H0 s : Nat} {n k : Int} (h : LS w lo H0 s n k) (hk : ∀ j, j < H0 → w'.heap[j]? = w.heap[j]?) : LS w' lo H0 s n k := by
  obtain ⟨h1, h2, h3, h4, ⟨i, h5, h6, h7, h8⟩, v, h9⟩ := h
  have hc : ∀ j o, j < H0 → w'.cell? ⟨j, o, none⟩ = w.cell? ⟨j, o, none⟩ := fun j o hj => World.cell?_of_block (w := w) (hk j hj)
  exact ⟨h1, h2, h3, h4, ⟨i, h5, h6, (hc _ _ h2).trans h7, (hc _ _ h6).trans h8⟩, v, (hc _ _ h2).trans h9⟩
theorem LM.keep {w w' : World} {H0 M0 N N' : Nat} {lm : Option Nat} {labs : List Int} (h : LM w H0 M0 N lm labs) (hN : N ≤ N') (hk : ∀ j, j < N → ¬ Gx M0 w j → w'.heap[j]? = w.heap[j]?) : LM w' H0 M0 N' lm labs := by
  obtain ⟨h1, h2⟩ := h
  refine ⟨h1, ?_⟩
  cases lm with
  | none => exact h2
  | some m =>
    obtain ⟨h3, h4, h5, ks, h6, h7⟩ := h2
    refine ⟨h3, by omega, h5, ks, h6, h7.keep (hk m h4 ?_)⟩
    obtain ⟨es, clk, hm, _⟩ := h7
    rintro (hh | ⟨cs, T, f, hh, _⟩)
    · exact h5 hh
    · rw [hm] at hh; cases hh
theorem BEb.keep {w w' : World} {lo H0 M0 N N' : Nat} {e : BE} {up : Option Nat} (h : BEb w lo H0 M0 N e up) (hN : N ≤ N') (hl : ∀ j, j < H0 → w'.heap[j]? = w.heap[j]?) (hk : ∀ j, j < N → ¬ Gx M0 w j → w'.heap[j]? = w.heap[j]?) : BEb w' lo H0 M0 N' e up := by
  obtain ⟨lm, h1, h2, h3, h4, h5, h6⟩ := h
  exact ⟨lm, (hk _ h3 (not_Gx h1 (by decide) h4)).trans h1, h2, by omega, h4, h5.keep hN hk, fun x hx => (h6 x hx).keep hl⟩
theorem Ch.keep {w w' : World} {lo H0 M0 N N' : Nat} (hN : N ≤ N') (hl : ∀ j, j < H0 → w'.heap[j]? = w.heap[j]?) (hk : ∀ j, j < N → ¬ Gx M0 w j → w'.heap[j]? = w.heap[j]?) : ∀ {es : List BE}, Ch w lo H0 M0 N es → Ch w' lo H0 M0 N' es
  | [], _ => trivial
  | e :: es, h => ⟨h.1.keep hN hl hk, Ch.keep hN hl hk h.2⟩
theorem sget_ks {ks : List (Int × Nat)} (hr : ∀ l ∈ ks.map Prod.fst, 1 ≤ l ∧ l ≤ 9) {n : Int} (h1 : -1 ≤ n) (h2 : n ≤ 9) : sget (ks.map fun x => (nm x.1, Value.pointer (some ⟨x.2, 0, none⟩))) (nm n) = (ks.find? fun x => x.1 == n).map fun x => .pointer (some ⟨x.2, 0, none⟩) := by
  induction ks with
  | nil => rfl
  | cons x ks ih =>
    have hx := hr x.1 (by simp)
    have ih := ih fun y hy => hr y (by simp at hy ⊢; exact .inr hy)
    by_cases hn : x.1 = n
    · subst hn
      simp [sget]
    · have : nm x.1 ≠ nm n := nm_ne hx.1 hx.2 h1 h2 hn
      rw [List.find?_cons_of_neg (by simpa using hn), ← ih]
      show (List.find? _ ((nm x.1, _) :: _)).map Prod.snd = _
      rw [List.find?_cons_of_neg (by simpa using this)]
      rfl
theorem ks_find {ks : List (Int × Nat)} {n : Int} : (ks.find? fun x => x.1 == n).isSome = (ks.map Prod.fst).contains n := by
  induction ks with
  | nil => rfl
  | cons x ks ih =>
    by_cases hn : x.1 = n
    · simp [hn]
    · rw [List.find?_cons_of_neg (by simpa using hn), ih]
      have : (n == x.1) = false := by simpa using fun e => hn e.symm
      simp only [List.map_cons, List.contains_cons, this, Bool.false_or]
/-- The lookup in a block's labels, as the walk wants it. -/
theorem lm_look {w : World} {H0 M0 N : Nat} {lm : Option Nat} {labs : List Int} (h : LM w H0 M0 N lm labs) {n : Int} (h1 : -1 ≤ n) (h2 : n ≤ 9) :
    ∃ x : Option Addr, (Instr.lookup 157 (.map lm) (.string (nm n)) false).run Tryz.prog w = .ok (.pointer x) w ∧ x.isSome = labs.contains n := by
  obtain ⟨hr, h⟩ := h
  cases lm with
  | none =>
    simp only at h
    subst h
    exact ⟨none, run_look_nil 157 156 (.pointer none) false und157 zero156 (nm n) w, rfl⟩
  | some m =>
    obtain ⟨_, _, _, ks, rfl, hm⟩ := h
    have hl := run_look 157 156 (.pointer none) false und157 zero156 m (nm n) _ w hm
    rw [sget_ks hr h1 h2] at hl
    refine ⟨(ks.find? fun x => x.1 == n).map fun x => ⟨x.2, 0, none⟩, ?_, by rw [Option.isSome_map, ks_find]⟩
    rw [hl]
    cases ks.find? (fun x => x.1 == n) <;> rfl
set_option maxHeartbeats 1000000 in
theorem gotoTarget_any (lo H0 M0 N : Nat) (es : List BE) (n : Int) (w : World) (h : Ch w lo H0 M0 N es) (h1 : -1 ≤ n) (h2 : n ≤ 9) :
    Calls Tryz.prog 87 #[ptr (headB es), .string (nm n)] w fun e w' => (∃ x, e = .returned (.pointer x) ∧ x.isSome = (glB es).contains n) ∧ w' = w := by
  have HC := Lib.hid h
  clear h
  go_enter Tryz.func87, Tryz.ntmps87
  go_wp2_with fail
  go_loopg [5] es.length (fun g vb wr => wr = w ∧ ∃ es', es'.length = g ∧ vb = ptr (headB es') ∧ Ch w lo H0 M0 N es' ∧ (glB es).contains n = (glB es').contains n)
  case atStart => exact ⟨rfl, es, rfl, rfl, HC.out, rfl⟩
  case round =>
    obtain ⟨rfl, es', hg, rfl, hch, hcn⟩ := hrel
    cases es' with
    | nil =>
      rw [show ptr (headB []) = .pointer none from rfl]
      go_wp2_with fail
      go_ret
      exact ⟨⟨none, rfl, by rw [hcn]; rfl⟩, rfl⟩
    | cons e es' =>
      rw [show ptr (headB (e :: es')) = .pointer (some ⟨e.b, 0, none⟩) from rfl]
      obtain ⟨⟨lm, hb, q1, q2, q3, q4, q5⟩, hch2⟩ := hch
      have hbl : e.b < wr.heap.size := (Array.getElem?_eq_some_iff.1 hb).1
      have hcb : ∀ o, wr.cell? ⟨e.b, o, none⟩ = _ := blk_cell hb
      obtain ⟨x, hx, hx2⟩ := lm_look q4 h1 h2
      have hgl : (glB (e :: es')).contains n = (e.labs.contains n || (glB es').contains n) := by simp [glB]
      cases x with
      | some x =>
        have HX := Lib.hid hx2
        clear hx2
        go_wp2_with fail
        go_ret
        exact ⟨⟨_, rfl, by rw [hcn, hgl, ← HX.out]; rfl⟩, rfl⟩
      | none =>
        have HX := Lib.hid hx2
        have HC2 := Lib.hid hch2
        have HN := Lib.hid hcn
        clear hx2 hch2 hcn
        have hlen : es'.length + 1 = gk := hg
        go_wp2_with fail
        go_roundg (gk - 1)
        case measure => omega
        exact ⟨rfl, es', by omega, rfl, HC2.out, by rw [HN.out, hgl, ← HX.out]; rfl⟩
/-- The statement with label n around. -/
def encB (es : List BE) (n : Int) : Option (Nat × Int × Int) := (es.filterMap fun e => e.lst).find? fun x => x.2.1 == n
theorem encB_tg (es : List BE) (n : Int) : (tgB es).find? (fun t => t.1 == n) = (encB es n).map fun x => x.2 := by
  induction es with
  | nil => rfl
  | cons e es ih =>
    unfold tgB encB at ih ⊢
    cases hl : e.lst with
    | none => simpa [hl] using ih
    | some x =>
      simp only [hl, List.filterMap_cons, Option.map_some]
      by_cases hn : x.2.1 = n
      · rw [List.find?_cons_of_pos (by simpa using hn), List.find?_cons_of_pos (by simpa using hn)]; rfl
      · rw [List.find?_cons_of_neg (by simpa using hn), List.find?_cons_of_neg (by simpa using hn), ih]
theorem encB_cons (e : BE) (es : List BE) (n : Int) : encB (e :: es) n = match e.lst with
    | none => encB es n
    | some x => if x.2.1 = n then some x else encB es n := by
  unfold encB
  cases hl : e.lst with
  | none => simp [hl]
  | some x =>
    simp only [hl, List.filterMap_cons]
    by_cases hn : x.2.1 = n
    · rw [List.find?_cons_of_pos (by simpa using hn), if_pos hn]
    · rw [List.find?_cons_of_neg (by simpa using hn), if_neg hn]
theorem encB_LS {w : World} {lo H0 M0 N : Nat} {n : Int} : ∀ {es : List BE}, Ch w lo H0 M0 N es → ∀ {x : Nat × Int × Int}, encB es n = some x → LS w lo H0 x.1 x.2.1 x.2.2 ∧ x.2.1 = n
  | [], _, x, h => by cases h
  | e :: es, hc, x, h => by
    rw [encB_cons] at h
    cases hl : e.lst with
    | none => rw [hl] at h; exact encB_LS hc.2 h
    | some y =>
      rw [hl] at h
      simp only at h
      split at h
      · cases h
        obtain ⟨lm, _, _, _, _, _, h6⟩ := hc.1
        exact ⟨h6 _ hl, by assumption⟩
      · exact encB_LS hc.2 h
set_option maxHeartbeats 1000000 in
theorem enclosing_any (lo H0 M0 N : Nat) (es : List BE) (n : Int) (w : World) (h : Ch w lo H0 M0 N es) (h1 : -1 ≤ n) (h2 : n ≤ 9) (hH : H0 ≤ w.heap.size) :
    Calls Tryz.prog 86 #[ptr (headB es), .string (nm n)] w fun e w' => e = .returned (ptr ((encB es n).map fun x => x.1)) ∧ w' = w := by
  have HC := Lib.hid h
  clear h
  go_enter Tryz.func86, Tryz.ntmps86
  go_wp2_with fail
  go_loopg [5] es.length (fun g vb wr => wr = w ∧ ∃ es', es'.length = g ∧ vb = ptr (headB es') ∧ Ch w lo H0 M0 N es' ∧ encB es n = encB es' n)
  case atStart => exact ⟨rfl, es, rfl, rfl, HC.out, rfl⟩
  case round =>
    obtain ⟨rfl, es', hg, rfl, hch, hcn⟩ := hrel
    cases es' with
    | nil =>
      rw [show ptr (headB []) = .pointer none from rfl]
      go_wp2_with fail
      go_ret
      exact ⟨by rw [hcn]; rfl, rfl⟩
    | cons e es' =>
      rw [show ptr (headB (e :: es')) = .pointer (some ⟨e.b, 0, none⟩) from rfl]
      obtain ⟨⟨lm, hb, q1, q2, q3, q4, q5⟩, hch2⟩ := hch
      have hbl : e.b < wr.heap.size := (Array.getElem?_eq_some_iff.1 hb).1
      have hlen : es'.length + 1 = gk := hg
      rw [encB_cons] at hcn
      cases hl : e.lst with
      | none =>
        rw [hl] at hcn hb
        have hcb : ∀ o, wr.cell? ⟨e.b, o, none⟩ = #[ptr (headB es'), .pointer none, .map lm][o]? := blk_cell hb
        have HC2 := Lib.hid hch2
        have HN := Lib.hid hcn
        clear hch2 hcn q5 hb
        go_wp2_with fail
        go_roundg (gk - 1)
        case measure => omega
        exact ⟨rfl, es', by omega, rfl, HC2.out, HN.out⟩
      | some x =>
        obtain ⟨r1, r2, r3, r4, ⟨i, r5, r6, r7, r8⟩, r9⟩ := q5 x hl
        rw [hl] at hcn hb
        simp only at hcn
        have hcb : ∀ o, wr.cell? ⟨e.b, o, none⟩ = #[ptr (headB es'), .pointer (some ⟨x.1, 0, none⟩), .map lm][o]? := blk_cell hb
        have hx1 : x.1 < wr.heap.size := by omega
        have hi1 : i < wr.heap.size := by omega
        have HC2 := Lib.hid hch2
        have HN := Lib.hid hcn
        clear hch2 hcn q5 hb r9
        by_cases hn : x.2.1 = n
        · have hbe : ((nm x.2.1).toList == (nm n).toList) = true := by rw [nm_eq r3 r4 h1 h2]; simpa using hn
          go_wp2_with fail
          go_ret
          exact ⟨by rw [HN.out, if_pos hn]; rfl, rfl⟩
        · have hbe : ((nm x.2.1).toList == (nm n).toList) = false := by rw [nm_eq r3 r4 h1 h2]; simpa using hn
          go_wp2_with fail
          go_roundg (gk - 1)
          case measure => omega
          exact ⟨rfl, es', by omega, rfl, HC2.out, by rw [HN.out, if_neg hn]⟩
end Go.Proofs.YtpodifbgfcclbaaGreatDoor
