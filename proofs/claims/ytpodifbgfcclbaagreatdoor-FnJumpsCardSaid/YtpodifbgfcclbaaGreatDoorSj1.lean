/- Maps from numbers and from pairs of numbers. -/
import Derived.Test.YtpodifbgfcclbaaGreatDoorJm3
import Derived.ChangeKeysEq
import Derived.Test.YtpodifbgfcclbaaGreatDoorSp1
import Derived.Test.YtpodifbgfcclbaaGreatDoorVal1
import Derived.Deep.RegionHeld3
set_option linter.unusedVariables false
set_option linter.unusedSimpArgs false
namespace Go.Proofs.YtpodifbgfcclbaaGreatDoor
open Go.RowKit
attribute [local go_sem] Nat.lt_add_one_of_lt

theorem und3 : Tryz.prog.underlying 3 = some (.int .i64) := by kernel_rfl
theorem und57 : Tryz.prog.underlying 57 = some (.map 3 62) := by kernel_rfl
theorem und58 : Tryz.prog.underlying 58 = some (.map 3 3) := by kernel_rfl
theorem und59 : Tryz.prog.underlying 59 = some (.map 3 4) := by kernel_rfl
theorem und63 : Tryz.prog.underlying 63 = some (.map 85 62) := by kernel_rfl
theorem und85 : Tryz.prog.underlying 85 = some (.array 2 3) := by kernel_rfl
theorem zero62 (w : World) : (zeroValue 62).run Tryz.prog w = .ok (.pointer none) w := by kernel_rfl
theorem zero3 (w : World) : (zeroValue 3).run Tryz.prog w = .ok (.int .i64 0) w := by kernel_rfl
theorem zero4 (w : World) : (zeroValue 4).run Tryz.prog w = .ok (.bool false) w := by kernel_rfl
theorem run_checkKey3 (b : Bool) (v : Value) (w : World) : (Instr.checkKey b 10000 3 v).run Tryz.prog w = .ok () w := by
  have hp := und3
  have h : ∀ n, (Instr.checkKey b (n + 1) 3 v).run Tryz.prog w = .ok () w := fun n => by
    simp [Instr.checkKey, run_underlying hp]
  exact h 9999
/-! Numbers. -/
def iget (kvs : List (Int × Value)) (n : Int) : Option Value := (kvs.find? fun e => e.1 == n).map Prod.snd
def IEs (es : List MapEntry) (kvs : List (Int × Value)) : Prop := es.map (fun e => (e.key, e.val)) = kvs.map fun e => (.int .i64 e.1, e.2)
/-- Block R is a map from numbers. -/
def IM (w : World) (R : Nat) (kvs : List (Int × Value)) : Prop := ∃ es clk, w.heap[R]? = some (.map es clk) ∧ IEs es.toList kvs ∧ (∀ x ∈ es.toList, x.born < clk) ∧ (es.toList.map (·.born)).Nodup
theorem IM.lt {w : World} {R : Nat} {kvs : List (Int × Value)} (h : IM w R kvs) : R < w.heap.size := by
  obtain ⟨es, clk, h, _⟩ := h
  exact (Array.getElem?_eq_some_iff.1 h).1
theorem IM.keep {w w' : World} {R : Nat} {kvs : List (Int × Value)} (h : IM w R kvs) (hk : w'.heap[R]? = w.heap[R]?) : IM w' R kvs := by
  obtain ⟨es, clk, h, h2⟩ := h
  exact ⟨es, clk, hk.trans h, h2⟩
theorem findNow_int (n : Int) : ∀ (es : List MapEntry) (kvs : List (Int × Value)) (i : Nat), IEs es kvs →
    (Instr.findNow (.int .i64) (.int .i64 n) es i = some none ∧ iget kvs n = none) ∨ ∃ j e, es[j]? = some e ∧ e.key = .int .i64 n ∧ kvs[j]? = some (n, e.val) ∧ (∀ j' e', j' < j → kvs[j']? = some e' → e'.1 ≠ n) ∧ Instr.findNow (.int .i64) (.int .i64 n) es i = some (some (i + j, e.val)) ∧ iget kvs n = some e.val
  | [], [], i, _ => .inl ⟨rfl, rfl⟩
  | [], _ :: _, i, h => by simp [IEs] at h
  | _ :: _, [], i, h => by simp [IEs] at h
  | e :: es, kv :: kvs, i, h => by
    simp only [IEs, List.map_cons, List.cons.injEq, Prod.mk.injEq] at h
    obtain ⟨⟨h1, h2⟩, h3⟩ := h
    by_cases hs : kv.1 = n
    · refine .inr ⟨0, e, rfl, by rw [h1, hs], ?_, fun j' e' hj => by omega, ?_, ?_⟩
      · show some kv = some (n, e.val)
        rw [h2, ← hs]
      · simp [Instr.findNow, Instr.sameNow, h1, hs]
      · simp [iget, hs, h2]
    · have hs' : (n == kv.1) = false := by simp; omega
      have hs2 : (kv.1 == n) = false := by simpa using hs
      rcases findNow_int n es kvs (i + 1) h3 with ⟨q1, q2⟩ | ⟨j, e', q1, q2, q3, q4, q5, q6⟩
      · refine .inl ⟨by simp [Instr.findNow, Instr.sameNow, h1, hs', q1], ?_⟩
        unfold iget at q2 ⊢
        rw [List.find?_cons, hs2]
        exact q2
      · refine .inr ⟨j + 1, e', by simpa using q1, q2, by simpa using q3, ?_, ?_, ?_⟩
        · intro j' e'' hj he
          cases j' with
          | zero => simp at he; subst he; exact hs
          | succ j' => exact q4 j' e'' (by omega) (by simpa using he)
        · simp only [Instr.findNow, Instr.sameNow, h1, if_true, hs', q5]
          congr 3
          omega
        · unfold iget at q6 ⊢
          rw [List.find?_cons, hs2]
          exact q6
theorem iget_set (n : Int) (v : Value) : ∀ (kvs : List (Int × Value)) (j : Nat) (v0 : Value), kvs[j]? = some (n, v0) → (∀ j' e', j' < j → kvs[j']? = some e' → e'.1 ≠ n) → ∀ m, iget (kvs.set j (n, v)) m = if m = n then some v else iget kvs m
  | [], j, v0, h, _, m => by simp at h
  | kv :: kvs, 0, v0, h, _, m => by
    simp at h
    subst h
    by_cases hm : m = n
    · simp [iget, hm]
    · have : (n == m) = false := by simp; omega
      simp [iget, this, hm]
  | kv :: kvs, j + 1, v0, h, h2, m => by
    have hk : kv.1 ≠ n := h2 0 kv (by omega) rfl
    have ih := iget_set n v kvs j v0 (by simpa using h) (fun j' e' hj he => h2 (j' + 1) e' (by omega) (by simpa using he)) m
    unfold iget at ih ⊢
    rw [List.set_cons_succ, List.find?_cons, List.find?_cons]
    by_cases hm : kv.1 = m
    · have : ¬ m = n := fun e => hk (hm.trans e)
      simp [hm, this]
    · have : (kv.1 == m) = false := by simpa using hm
      simp only [this]
      exact ih
theorem iget_push (n : Int) (v : Value) (kvs : List (Int × Value)) (h : iget kvs n = none) (m : Int) : iget (kvs ++ [(n, v)]) m = if m = n then some v else iget kvs m := by
  unfold iget at h ⊢
  rw [List.find?_append]
  by_cases hm : m = n
  · subst hm
    rw [Option.map_eq_none_iff] at h
    simp [h]
  · have : (n == m) = false := by simp; omega
    simp [this, hm]
theorem IM.new (w : World) : IM (w.alloc (.map #[] 0)) w.heap.size [] := ⟨#[], 0, heap_alloc_new w _, rfl, fun x hx => by simp at hx, by simp⟩
theorem run_findKey3 (n : Int) (w : World) (es : List MapEntry) (kvs : List (Int × Value)) (h : IEs es kvs) :
    ((Instr.findKey 3 (.int .i64 n) es).run Tryz.prog w = .ok none w ∧ iget kvs n = none) ∨ ∃ j e, es[j]? = some e ∧ e.key = .int .i64 n ∧ kvs[j]? = some (n, e.val) ∧ (∀ j' e', j' < j → kvs[j']? = some e' → e'.1 ≠ n) ∧ (Instr.findKey 3 (.int .i64 n) es).run Tryz.prog w = .ok (some (j, e.val)) w ∧ iget kvs n = some e.val := by
  rcases findNow_int n es kvs 0 h with ⟨h1, h2⟩ | ⟨j, e, q1, q2, q3, q4, q5, q6⟩
  · exact .inl ⟨by simp [Instr.findKey, run_underlying und3, h1], h2⟩
  · exact .inr ⟨j, e, q1, q2, q3, q4, by simp [Instr.findKey, run_underlying und3, q5], q6⟩
theorem run_lookI (t e : Nat) (z : Value) (ht : Tryz.prog.underlying t = some (.map 3 e)) (hz : ∀ w, (zeroValue e).run Tryz.prog w = .ok z w) (R : Nat) (n : Int) (kvs : List (Int × Value)) (w : World) (h : IM w R kvs) :
    (Instr.lookup t (.map (some R)) (.int .i64 n) false).run Tryz.prog w = .ok ((iget kvs n).getD z) w := by
  obtain ⟨es, clk, hR, hes, _⟩ := h
  have hg : Sem.run Tryz.prog (Sem.getObj R Sem.pure) w = .ok (.map es clk) w := by simp [Sem.run, hR]
  rcases run_findKey3 n w es.toList kvs hes with ⟨hr, h2⟩ | ⟨j, e', q1, q2, q3, q4, hr, h2⟩
  · rw [h2]
    simp [Instr.lookup, run_underlying ht, getObj, hg, run_checkKey3, hr, hz]
  · rw [h2]
    simp [Instr.lookup, run_underlying ht, getObj, hg, run_checkKey3, hr]
theorem mod_at {es : Array MapEntry} {j : Nat} {e : MapEntry} (h : es.toList[j]? = some e) (f : MapEntry → MapEntry) : (es.modify j f).toList = es.toList.set j (f e) := by
  apply List.ext_getElem?
  intro i
  rw [Array.getElem?_toList, Array.getElem?_modify, List.getElem?_set]
  by_cases hi : j = i
  · subst hi
    have hl : j < es.toList.length := (List.getElem?_eq_some_iff.1 h).1
    simp only [if_true, hl]
    rw [Array.getElem?_toList] at h
    rw [h]
    simp
  · simp only [if_neg hi, Array.getElem?_toList]
theorem iset_es {es : List MapEntry} {kvs : List (Int × Value)} {j : Nat} {e e' : MapEntry} {n : Int} (h : IEs es kvs) (hj : es[j]? = some e) (hk : e'.key = .int .i64 n) : IEs (es.set j e') (kvs.set j (n, e'.val)) := by
  unfold IEs at *
  rw [List.map_set, List.map_set, h, hk]
theorem born_set {es : List MapEntry} {j : Nat} {e e' : MapEntry} (hj : es[j]? = some e) (hb : e'.born = e.born) : (es.set j e').map (·.born) = es.map (·.born) := by
  rw [List.map_set, hb]
  apply List.ext_getElem?
  intro i
  rw [List.getElem?_set]
  by_cases hi : j = i
  · subst hi
    have hl : j < (es.map (·.born)).length := by rw [List.length_map]; exact (List.getElem?_eq_some_iff.1 hj).1
    simp only [if_true, hl]
    rw [List.getElem?_map, hj]; rfl
  · rw [if_neg hi]
theorem born_nd {es : List MapEntry} {j : Nat} {e e' : MapEntry} (hj : es[j]? = some e) (hb : e'.born = e.born) (h : (es.map (·.born)).Nodup) : ((es.set j e').map (·.born)).Nodup := by
  rw [born_set hj hb]; exact h
theorem born_lt {es : List MapEntry} {j : Nat} {e e' : MapEntry} {clk : Nat} (h : ∀ x ∈ es, x.born < clk) (hj : es[j]? = some e) (hb : e'.born = e.born) : ∀ x ∈ es.set j e', x.born < clk := by
  intro x hx
  have h1 : x.born ∈ (es.set j e').map (·.born) := List.mem_map.2 ⟨x, hx, rfl⟩
  rw [born_set hj hb] at h1
  obtain ⟨y, hy, h2⟩ := List.mem_map.1 h1
  rw [← h2]; exact h y hy
theorem same_int (n : Int) : Instr.sameBits 10000 (.int .i64 n) (.int .i64 n) = true := by
  have h : ∀ k, Instr.sameBits k (.int .i64 n) (.int .i64 n) = true := fun k => by cases k <;> simp [Instr.sameBits]
  exact h _
/-- A store into a map from numbers. -/
theorem run_updI (t e : Nat) (ht : Tryz.prog.underlying t = some (.map 3 e)) (R : Nat) (n : Int) (v : Value) (kvs : List (Int × Value)) (w : World) (h : IM w R kvs) :
    ∃ es clk kvs', (Instr.mapUpdate t (.map (some R)) (.int .i64 n) v).run Tryz.prog w = .ok () (setObj w R (.map es clk)) ∧ IM (setObj w R (.map es clk)) R kvs' ∧ ∀ m, iget kvs' m = if m = n then some v else iget kvs m := by
  have hlt := h.lt
  obtain ⟨es, clk, hR, hes, hb1, hb2⟩ := h
  have hg : Sem.run Tryz.prog (Sem.getObj R Sem.pure) w = .ok (.map es clk) w := by simp [Sem.run, hR]
  have hs : ∀ o, Sem.run Tryz.prog (Sem.setObj R o (Sem.pure ())) w = .ok () (setObj w R o) := fun o => by simp [Sem.run, hR, setObj]
  rcases run_findKey3 n w es.toList kvs hes with ⟨hr, h2⟩ | ⟨j, e', q1, q2, q3, q4, hr, h2⟩
  · refine ⟨es.push { key := .int .i64 n, val := v, born := clk }, clk + 1, kvs ++ [(n, v)], ?_, ⟨_, _, setObj_same w R _ hlt, ?_, ?_, ?_⟩, iget_push n v kvs h2⟩
    · simp [Instr.mapUpdate, run_underlying ht, getObj, Go.setObj, hg, run_checkKey3, hr, hs]
    · unfold IEs at hes ⊢
      simp [hes]
    · intro x hx
      simp only [Array.toList_push, List.mem_append, List.mem_singleton] at hx
      rcases hx with hx | rfl
      · have := hb1 x hx; omega
      · show clk < clk + 1; omega
    · simp only [Array.toList_push, List.map_append, List.map_cons, List.map_nil]
      rw [List.nodup_append]
      refine ⟨hb2, by simp, fun x hx y hy e => ?_⟩
      obtain ⟨z, hz, rfl⟩ := List.mem_map.1 hx
      simp only [List.mem_singleton] at hy
      subst hy
      have := hb1 z hz
      omega
  · have hk : ((es[j]?).map (·.key)).getD (.int .i64 n) = .int .i64 n := by
      rw [← Array.getElem?_toList, q1]; exact q2
    refine ⟨es.modify j fun e => { e with key := .int .i64 n, val := v }, clk, kvs.set j (n, v), ?_, ⟨_, _, setObj_same w R _ hlt, ?_, ?_, ?_⟩, iget_set n v kvs j _ q3 q4⟩
    · simp [Instr.mapUpdate, run_underlying ht, getObj, Go.setObj, hg, run_checkKey3, hr, hs, Instr.keyThatStays, hk, same_int]
    · rw [mod_at q1]; exact iset_es hes q1 rfl
    · rw [mod_at q1]; exact born_lt hb1 q1 rfl
    · rw [mod_at q1]; exact born_nd q1 rfl hb2
theorem run_entry_st {w : World} {R : Nat} {es : Array MapEntry} {clk : Nat} (t : Nat) (s : Nat) (v : Value) (hR : w.heap[R]? = some (.map es clk)) {j : Nat} {e : MapEntry} (hj : es.toList[j]? = some e) (hb : e.born = s) (hn : (es.toList.map (·.born)).Nodup) :
    (Instr.entryStore t (.map (some R)) (.int .i64 s) v).run Tryz.prog w = .ok () (setObj w R (.map (es.modify j fun e => { e with val := v }) clk)) := by
  have hg : Sem.run Tryz.prog (Sem.getObj R Sem.pure) w = .ok (.map es clk) w := by simp [Sem.run, hR]
  have hs : ∀ o, Sem.run Tryz.prog (Sem.setObj R o (Sem.pure ())) w = .ok () (setObj w R o) := fun o => by simp [Sem.run, hR, setObj]
  have hf : es.findIdx? (fun e => (e.born : Int) == (s : Int)) = some j := by
    rw [Array.findIdx?_eq_some_iff_getElem]
    rw [Array.getElem?_toList] at hj
    obtain ⟨h1, h2⟩ := Array.getElem?_eq_some_iff.1 hj
    refine ⟨h1, ?_, fun i hi => ?_⟩
    · rw [h2]; simp [hb]
    · have hne : (es[i]).born ≠ s := by
        intro e1
        rw [List.nodup_iff_pairwise_ne, List.pairwise_iff_getElem] at hn
        have := hn i j (by rw [List.length_map, Array.length_toList]; omega) (by rw [List.length_map, Array.length_toList]; omega) hi
        simp only [List.getElem_map, Array.getElem_toList, h2, hb, e1, ne_eq, not_true] at this
      simp; omega
  simp [Instr.entryStore, getObj, Go.setObj, hg, hs, asInt, asIntOf, hf]
/-- 'm[k], .. = ..': the entry first, its value behind. -/
theorem run_entI (t e : Nat) (z : Value) (ht : Tryz.prog.underlying t = some (.map 3 e)) (hz : ∀ w, (zeroValue e).run Tryz.prog w = .ok z w) (R : Nat) (n : Int) (v : Value) (kvs : List (Int × Value)) (w : World) (h : IM w R kvs) :
    ∃ (o1 o2 : Obj) (v0 : Value) (s : Nat) (kvs' : List (Int × Value)), (Instr.mapEntry t (.map (some R)) (.int .i64 n)).run Tryz.prog w = .ok (.tuple #[v0, .int .i64 s]) (setObj w R o1) ∧
      (Instr.entryStore t (.map (some R)) (.int .i64 s) v).run Tryz.prog (setObj w R o1) = .ok () (setObj (setObj w R o1) R o2) ∧ IM (setObj (setObj w R o1) R o2) R kvs' ∧ ∀ m, iget kvs' m = if m = n then some v else iget kvs m := by
  have hlt := h.lt
  obtain ⟨es, clk, hR, hes, hb1, hb2⟩ := h
  have hg : Sem.run Tryz.prog (Sem.getObj R Sem.pure) w = .ok (.map es clk) w := by simp [Sem.run, hR]
  have hs : ∀ o, Sem.run Tryz.prog (Sem.setObj R o (Sem.pure ())) w = .ok () (setObj w R o) := fun o => by simp [Sem.run, hR, setObj]
  rcases run_findKey3 n w es.toList kvs hes with ⟨hr, h2⟩ | ⟨j, e', q1, q2, q3, q4, hr, h2⟩
  · obtain ⟨es1, hes1⟩ : ∃ es1, es1 = es.push { key := .int .i64 n, val := z, born := clk } := ⟨_, rfl⟩
    have hj : es1.toList[es.size]? = some { key := .int .i64 n, val := z, born := clk } := by rw [hes1]; simp
    have hI : IEs es1.toList (kvs ++ [(n, z)]) := by
      rw [hes1]
      unfold IEs at hes ⊢
      simp [hes]
    have hlk : kvs.length = es.size := by
      have := congrArg List.length hes
      simpa using this.symm
    have hB1 : ∀ x ∈ es1.toList, x.born < clk + 1 := by
      intro x hx
      rw [hes1] at hx
      simp only [Array.toList_push, List.mem_append, List.mem_singleton] at hx
      rcases hx with hx | rfl
      · have := hb1 x hx; omega
      · show clk < clk + 1; omega
    have hB2 : (es1.toList.map (·.born)).Nodup := by
      rw [hes1]
      simp only [Array.toList_push, List.map_append, List.map_cons, List.map_nil]
      rw [List.nodup_append]
      refine ⟨hb2, by simp, fun x hx y hy e => ?_⟩
      obtain ⟨z', hz', rfl⟩ := List.mem_map.1 hx
      simp only [List.mem_singleton] at hy
      subst hy
      have := hb1 z' hz'
      omega
    have hR1 := setObj_same w R (.map es1 (clk + 1)) hlt
    have hst := run_entry_st t clk v hR1 hj rfl hB2
    refine ⟨_, _, z, clk, (kvs ++ [(n, z)]).set es.size (n, v), ?_, hst, ⟨_, _, setObj_same _ R _ (by rw [setObj_size]; exact hlt), ?_, ?_, ?_⟩, ?_⟩
    · simp [Instr.mapEntry, run_underlying ht, getObj, Go.setObj, hg, run_checkKey3, hr, hs, hz, hes1, goInt]
    · rw [mod_at hj]; exact iset_es hI hj rfl
    · rw [mod_at hj]; exact born_lt hB1 hj rfl
    · rw [mod_at hj]; exact born_nd hj rfl hB2
    · intro m
      have e1 : (kvs ++ [(n, z)]).set es.size (n, v) = kvs ++ [(n, v)] := by
        rw [← hlk, List.set_append_right _ _ (Nat.le_refl _)]
        simp
      rw [e1]
      exact iget_push n v kvs h2 m
  · have hk : ((es[j]?).map (·.key)).getD (.int .i64 n) = .int .i64 n := by
      rw [← Array.getElem?_toList, q1]; exact q2
    have hbn : ((es[j]?).map (·.born)).getD 0 = e'.born := by
      rw [← Array.getElem?_toList, q1]; rfl
    have hq : es[j]? = some e' := by rw [← Array.getElem?_toList]; exact q1
    obtain ⟨es1, hes1⟩ : ∃ es1, es1 = es.modify j fun e => { e with key := .int .i64 n } := ⟨_, rfl⟩
    have hl1 : es1.toList = es.toList.set j { e' with key := .int .i64 n } := by rw [hes1, mod_at q1]
    have hjl : j < es.toList.length := (List.getElem?_eq_some_iff.1 q1).1
    have hj : es1.toList[j]? = some { e' with key := .int .i64 n } := by rw [hl1, List.getElem?_set_self hjl]
    have hI : IEs es1.toList (kvs.set j (n, e'.val)) := by rw [hl1]; exact iset_es hes q1 rfl
    have hB1 : ∀ x ∈ es1.toList, x.born < clk := by rw [hl1]; exact born_lt hb1 q1 rfl
    have hB2 : (es1.toList.map (·.born)).Nodup := by rw [hl1]; exact born_nd q1 rfl hb2
    have hR1 := setObj_same w R (.map es1 clk) hlt
    have hst := run_entry_st t e'.born v hR1 hj rfl hB2
    refine ⟨_, _, e'.val, e'.born, (kvs.set j (n, e'.val)).set j (n, v), ?_, hst, ⟨_, _, setObj_same _ R _ (by rw [setObj_size]; exact hlt), ?_, ?_, ?_⟩, ?_⟩
    · simp [Instr.mapEntry, run_underlying ht, getObj, Go.setObj, hg, run_checkKey3, hr, hs, Instr.keyThatStays, hq, q2, same_int, hes1, goInt]
    · rw [mod_at hj]; exact iset_es hI hj rfl
    · rw [mod_at hj]; exact born_lt hB1 hj rfl
    · rw [mod_at hj]; exact born_nd hj rfl hB2
    · intro m
      rw [List.set_set]
      exact iget_set n v kvs j _ q3 q4 m

/-! Pairs of numbers. -/
def pk (p : Nat × Nat) : Value := .agg #[.int .i64 p.1, .int .i64 p.2]
def dget (kvs : List ((Nat × Nat) × Value)) (p : Nat × Nat) : Option Value := (kvs.find? fun e => decide (e.1 = p)).map Prod.snd
def DEs (es : List MapEntry) (kvs : List ((Nat × Nat) × Value)) : Prop := es.map (fun e => (e.key, e.val)) = kvs.map fun e => (pk e.1, e.2)
def DM (w : World) (R : Nat) (kvs : List ((Nat × Nat) × Value)) : Prop := ∃ es clk, w.heap[R]? = some (.map es clk) ∧ DEs es.toList kvs
theorem DM.lt {w : World} {R : Nat} {kvs : List ((Nat × Nat) × Value)} (h : DM w R kvs) : R < w.heap.size := by
  obtain ⟨es, clk, h, _⟩ := h
  exact (Array.getElem?_eq_some_iff.1 h).1
theorem DM.keep {w w' : World} {R : Nat} {kvs : List ((Nat × Nat) × Value)} (h : DM w R kvs) (hk : w'.heap[R]? = w.heap[R]?) : DM w' R kvs := by
  obtain ⟨es, clk, h, h2⟩ := h
  exact ⟨es, clk, hk.trans h, h2⟩
theorem DM.new (w : World) : DM (w.alloc (.map #[] 0)) w.heap.size [] := ⟨#[], 0, heap_alloc_new w _, rfl⟩
theorem run_checkKey85 (b : Bool) (p : Nat × Nat) (w : World) : (Instr.checkKey b 10000 85 (pk p)).run Tryz.prog w = .ok () w := by
  kernel_rfl
theorem run_equal_pair (p q : Nat × Nat) (w : World) : (Op.equal 85 (pk p) (pk q)).run Tryz.prog w = .ok (decide (q = p)) w := by
  obtain ⟨i, hi⟩ : ∃ i, Tryz.prog.info? 3 = some i := by
    have h : (Tryz.prog.info? 3).isSome = true := by kernel_rfl
    exact Option.isSome_iff_exists.1 h
  have hc : Tryz.prog.cellsOf 3 = 1 := by kernel_rfl
  have h1 := run_equalIn_array (P := Tryz.prog) (w := w) 9999 #[.int .i64 p.1, .int .i64 p.2] #[.int .i64 q.1, .int .i64 q.2] und85 hi
  unfold Op.equal pk
  have p0 : ∀ (x y : Value) (w : World), (part 3 #[x, y] 0).run Tryz.prog w = .ok x w := fun x y w => by kernel_rfl
  have p1 : ∀ (x y : Value) (w : World), (part 3 #[x, y] 1).run Tryz.prog w = .ok y w := fun x y w => by kernel_rfl
  have he0 : ∀ (d : Nat) (a b : Int) (w : World), (Op.equalIn (d + 1) 3 (.int .i64 a) (.int .i64 b)).run Tryz.prog w = .ok (a == b) w := fun d a b w => by
    simp [Op.equalIn, run_underlying und3]
  have he : ∀ (a b : Int) (w : World), (Op.equalIn 9999 3 (.int .i64 a) (.int .i64 b)).run Tryz.prog w = .ok (a == b) w := he0 9998
  clear he0
  rw [show Op.maxDepth = 9999 + 1 from rfl, h1, hc]
  have hr : List.range 2 = [0, 1] := rfl
  rw [hr]
  simp only [Op.eqItems, Sem.run_bind, Nat.zero_mul, Nat.one_mul, p0, p1, he, Result.andThen_ok]
  obtain ⟨p1', p2'⟩ := p
  obtain ⟨q1', q2'⟩ := q
  simp only [Prod.mk.injEq]
  by_cases h1 : p1' = q1'
  · subst h1
    by_cases h2 : p2' = q2'
    · subst h2; simp [p1, he]
    · have : ¬ q2' = p2' := fun e => h2 e.symm
      have h3 : ((p2' : Int) == (q2' : Int)) = false := by simp; omega
      simp [p1, he, h3, this]
  · have : ¬ q1' = p1' := fun e => h1 e.symm
    have h3 : ((p1' : Int) == (q1' : Int)) = false := by simp; omega
    simp [h3, this]
theorem findNow_pair (p : Nat × Nat) : ∀ (es : List MapEntry) (kvs : List ((Nat × Nat) × Value)) (i : Nat), DEs es kvs → Instr.findNow (.array 2 3) (pk p) es i = if kvs = [] then some none else none
  | [], [], i, _ => rfl
  | [], _ :: _, i, h => by simp [DEs] at h
  | _ :: _, [], i, h => by simp [DEs] at h
  | e :: es, kv :: kvs, i, h => by
    simp only [DEs, List.map_cons, List.cons.injEq, Prod.mk.injEq] at h
    simp [Instr.findNow, Instr.sameNow]
theorem run_findAskingP (p : Nat × Nat) (w : World) : ∀ (es : List MapEntry) (kvs : List ((Nat × Nat) × Value)) (i : Nat), DEs es kvs →
    ∃ r, (Instr.findAsking 85 (pk p) es i).run Tryz.prog w = .ok r w ∧ r.map Prod.snd = dget kvs p
  | [], kvs, i, h => by
    cases kvs with
    | nil => exact ⟨none, by simp [Instr.findAsking], rfl⟩
    | cons kv kvs => simp [DEs] at h
  | e :: es, kvs, i, h => by
    cases kvs with
    | nil => simp [DEs] at h
    | cons kv kvs =>
      simp only [DEs, List.map_cons, List.cons.injEq, Prod.mk.injEq] at h
      obtain ⟨⟨h1, h2⟩, h3⟩ := h
      have he := run_equal_pair p kv.1 w
      by_cases hcp : kv.1 = p
      · refine ⟨some (i, e.val), ?_, ?_⟩
        · subst hcp
          simp [Instr.findAsking, h1, he]
        · simp [dget, hcp, h2]
      · obtain ⟨r, hr, hh⟩ := run_findAskingP p w es kvs (i + 1) h3
        have hcp' : decide (kv.1 = p) = false := by simpa using hcp
        refine ⟨r, ?_, ?_⟩
        · simp [Instr.findAsking, h1, he, hcp, hr]
        · rw [hh]; simp [dget, hcp]
theorem run_findKey85 (p : Nat × Nat) (w : World) (es : List MapEntry) (kvs : List ((Nat × Nat) × Value)) (h : DEs es kvs) :
    ∃ r, (Instr.findKey 85 (pk p) es).run Tryz.prog w = .ok r w ∧ r.map Prod.snd = dget kvs p := by
  obtain ⟨r, hr, hh⟩ := run_findAskingP p w es kvs 0 h
  cases kvs with
  | nil =>
    refine ⟨none, ?_, rfl⟩
    simp [Instr.findKey, run_underlying und85, findNow_pair p es [] 0 h]
  | cons kv kvs =>
    refine ⟨r, ?_, hh⟩
    simp [Instr.findKey, run_underlying und85, findNow_pair p es (kv :: kvs) 0 h, hr]
theorem run_lookD (R : Nat) (p : Nat × Nat) (kvs : List ((Nat × Nat) × Value)) (w : World) (h : DM w R kvs) :
    (Instr.lookup 63 (.map (some R)) (pk p) false).run Tryz.prog w = .ok ((dget kvs p).getD (.pointer none)) w := by
  obtain ⟨es, clk, hR, hes⟩ := h
  have hg : Sem.run Tryz.prog (Sem.getObj R Sem.pure) w = .ok (.map es clk) w := by simp [Sem.run, hR]
  obtain ⟨r, hr, hh⟩ := run_findKey85 p w es.toList kvs hes
  cases r with
  | none =>
    have hh : dget kvs p = none := by rw [← hh]; rfl
    rw [hh]
    simp [Instr.lookup, run_underlying und63, getObj, hg, run_checkKey85, hr, zero62]
  | some r =>
    have hh : dget kvs p = some r.2 := by rw [← hh]; rfl
    rw [hh]
    simp [Instr.lookup, run_underlying und63, getObj, hg, run_checkKey85, hr]
theorem run_updD (R : Nat) (p : Nat × Nat) (v : Value) (kvs : List ((Nat × Nat) × Value)) (w : World) (h : DM w R kvs) (hn : dget kvs p = none) :
    ∃ es clk, (Instr.mapUpdate 63 (.map (some R)) (pk p) v).run Tryz.prog w = .ok () (setObj w R (.map es clk)) ∧ DM (setObj w R (.map es clk)) R (kvs ++ [(p, v)]) := by
  have hlt := h.lt
  obtain ⟨es, clk, hR, hes⟩ := h
  have hg : Sem.run Tryz.prog (Sem.getObj R Sem.pure) w = .ok (.map es clk) w := by simp [Sem.run, hR]
  obtain ⟨r, hr, hh⟩ := run_findKey85 p w es.toList kvs hes
  cases r with
  | some r => rw [hn] at hh; cases hh
  | none =>
    refine ⟨es.push { key := pk p, val := v, born := clk }, clk + 1, ?_, _, _, setObj_same w R _ hlt, ?_⟩
    · have hs : ∀ o, Sem.run Tryz.prog (Sem.setObj R o (Sem.pure ())) w = .ok () (setObj w R o) := fun o => by simp [Sem.run, hR, setObj]
      simp [Instr.mapUpdate, run_underlying und63, getObj, Go.setObj, hg, run_checkKey85, hr, hs]
    · unfold DEs at hes ⊢
      simp [hes]
theorem dget_push (p q : Nat × Nat) (v : Value) (kvs : List ((Nat × Nat) × Value)) (h : dget kvs p = none) : dget (kvs ++ [(p, v)]) q = if q = p then some v else dget kvs q := by
  unfold dget at h ⊢
  rw [List.find?_append]
  by_cases hm : q = p
  · subst hm
    rw [Option.map_eq_none_iff] at h
    simp [h]
  · have : ¬ p = q := fun e => hm e.symm
    simp [this, hm]
end Go.Proofs.YtpodifbgfcclbaaGreatDoor

/- The rules for labels: a break or a continue; the lists within a statement; a goto. -/
set_option linter.unusedVariables false
set_option linter.unusedSimpArgs false
namespace Go.Proofs.YtpodifbgfcclbaaGreatDoor
open Go.RowKit
attribute [local go_sem] Nat.lt_add_one_of_lt

/-- All blocks below H but those of X are as they were. -/
structure Fx (X : List Nat) (H : Nat) (w w' : World) : Prop where
  os : w'.os = w.os
  tape : w'.tape = w.tape
  output : w'.output = w.output
  size : w.heap.size ≤ w'.heap.size
  blk : ∀ k, k < H → k ∉ X → w'.heap[k]? = w.heap[k]?
theorem Fx.refl (X : List Nat) (H : Nat) (w : World) : Fx X H w w := ⟨rfl, rfl, rfl, Nat.le_refl _, fun _ _ _ => rfl⟩
theorem Fx.trans {X : List Nat} {H : Nat} {a b c : World} (h : Fx X H a b) (k : Fx X H b c) : Fx X H a c :=
  ⟨k.os.trans h.os, k.tape.trans h.tape, k.output.trans h.output, Nat.le_trans h.size k.size, fun i hi hx => (k.blk i hi hx).trans (h.blk i hi hx)⟩
theorem Fx.mono {X X' : List Nat} {H H' : Nat} {a b : World} (h : Fx X H a b) (hH : H' ≤ H) (hX : ∀ k, k < H' → k ∈ X → k ∈ X') : Fx X' H' a b :=
  ⟨h.os, h.tape, h.output, h.size, fun i hi hx => h.blk i (by omega) fun h2 => hx (hX i hi h2)⟩
theorem Fx.of {X : List Nat} {H : Nat} {a b : World} (h : Below H a b) : Fx X H a b := ⟨h.os, h.tape, h.output, h.size, fun i hi _ => h.block i hi⟩
theorem Fx.drew {X : List Nat} {H : Nat} {a w : World} (h : Fx X H a w) : Fx X H a w.drew := ⟨h.os, h.tape, h.output, h.size, h.blk⟩
theorem Fx.alloc {X : List Nat} {H : Nat} {a w : World} (h : Fx X H a w) (hB : H ≤ w.heap.size) (o : Obj) : Fx X H a (w.alloc o) :=
  h.trans (Fx.of ((Below.refl H w).alloc hB o))
theorem Fx.setCell {X : List Nat} {H : Nat} {a w : World} (h : Fx X H a w) {p : Addr} (hp : p.block ∈ X ∨ H ≤ p.block) (u : Value) : Fx X H a (w.setCell p u) :=
  h.trans ⟨rfl, rfl, rfl, by simp, fun i hi hx => Below.heap_setCell _ _ _ _ (by
    rintro rfl
    rcases hp with hp | hp
    · exact hx hp
    · omega)⟩
theorem Fx.setObj {X : List Nat} {H R : Nat} {a w : World} (h : Fx X H a w) (hp : R ∈ X ∨ H ≤ R) (o : Obj) : Fx X H a (setObj w R o) :=
  h.trans ⟨rfl, rfl, rfl, by rw [setObj_size]; exact Nat.le_refl _, fun i hi hx => setObj_heap _ _ _ _ (by
    rintro rfl
    rcases hp with hp | hp
    · exact hx hp
    · omega)⟩
theorem Fx.below {X : List Nat} {H B : Nat} {a b : World} (h : Fx X H a b) (hB : B ≤ H) (hX : ∀ k ∈ X, B ≤ k) : Below B a b :=
  ⟨h.os, h.tape, h.output, h.size, fun i hi => h.blk i (by omega) fun hx => by have := hX i hx; omega⟩
theorem Fx.cell {X : List Nat} {H : Nat} {w w' : World} (h : Fx X H w w') {p : Addr} (hp : p.block < H) (hx : p.block ∉ X) : w'.cell? p = w.cell? p := World.cell?_of_block (w := w) (h.blk p.block hp hx)
/-- The struct of the jumps. -/
def JC (w : World) (J M1 M2 M3 : Nat) (bad : Bool) : Prop := w.heap[J]? = some (.cells #[.map (some M1), .map (some M2), .map (some M3), .bool bad] 61 (0, 0))
theorem JC.bad {w : World} {J M1 M2 M3 : Nat} {bad : Bool} (h : JC w J M1 M2 M3 bad) (b : Bool) : JC (w.setCell ⟨J, 3, none⟩ (.bool b)) J M1 M2 M3 b := by
  unfold JC
  rw [blk_set h]; rfl
theorem JC.keep {w w' : World} {J M1 M2 M3 : Nat} {bad : Bool} (h : JC w J M1 M2 M3 bad) (hk : w'.heap[J]? = w.heap[J]?) : JC w' J M1 M2 M3 bad := hk.trans h
theorem JC.lt {w : World} {J M1 M2 M3 : Nat} {bad : Bool} (h : JC w J M1 M2 M3 bad) : J < w.heap.size := (Array.getElem?_eq_some_iff.1 h).1
theorem JC.ne {w : World} {J M1 M2 M3 R : Nat} {bad : Bool} {kvs : List (Int × Value)} (h : JC w J M1 M2 M3 bad) (hm : IM w R kvs) : J ≠ R := by
  rintro rfl
  obtain ⟨es, clk, h2, _⟩ := hm
  unfold JC at h
  rw [h] at h2
  cases h2
/-- The labels that are used. -/
def UM (w : World) (M3 : Nat) (U : Int → Bool) : Prop := ∃ kvs, IM w M3 kvs ∧ ∀ n, (iget kvs n).getD (.bool false) = .bool (U n)
theorem UM.keep {w w' : World} {M3 : Nat} {U : Int → Bool} (h : UM w M3 U) (hk : w'.heap[M3]? = w.heap[M3]?) : UM w' M3 U := by
  obtain ⟨kvs, h1, h2⟩ := h
  exact ⟨kvs, h1.keep hk, h2⟩
theorem UM.lt {w : World} {M3 : Nat} {U : Int → Bool} (h : UM w M3 U) : M3 < w.heap.size := by obtain ⟨kvs, h1, _⟩ := h; exact h1.lt
theorem UM.upd {w : World} {M3 : Nat} {U : Int → Bool} (h : UM w M3 U) (n : Int) : ∃ es clk, (Instr.mapUpdate 59 (.map (some M3)) (.int .i64 n) (.bool true)).run Tryz.prog w = .ok () (setObj w M3 (.map es clk)) ∧ UM (setObj w M3 (.map es clk)) M3 (fun m => U m || m == n) := by
  obtain ⟨kvs, h1, h2⟩ := h
  obtain ⟨es, clk, kvs', q1, q2, q3⟩ := run_updI 59 4 und59 M3 n (.bool true) kvs w h1
  refine ⟨es, clk, q1, kvs', q2, fun m => ?_⟩
  rw [q3 m]
  by_cases hm : m = n
  · simp [hm]
  · have : (m == n) = false := by simpa using hm
    rw [if_neg hm]
    simp only [this, Bool.or_false]
    exact h2 m
/-- The statements with labels around. -/
def AR (w : World) (H : Nat) (a : Option Addr) (cap : Nat) (ar : List (Int × Bool)) : Prop :=
  ar.length ≤ cap ∧ ar.length * 16 ≤ 140737488355328 ∧ ∃ b o, (ar ≠ [] → a = some ⟨b, o, none⟩ ∧ b < H) ∧ ∀ (i : Nat) (t : Int × Bool), ar[i]? = some t → w.cell? ⟨b, o + i * 2, none⟩ = some (.int .i64 t.1) ∧ w.cell? ⟨b, o + i * 2 + 1, none⟩ = some (.bool t.2)
theorem AR.nil {w : World} {H : Nat} : AR w H none 0 [] := ⟨Nat.le_refl _, by simp, 0, 0, fun h => absurd rfl h, fun i t h => by simp at h⟩
theorem AR.keep {w w' : World} {H H' : Nat} {a : Option Addr} {cap : Nat} {ar : List (Int × Bool)} (h : AR w H a cap ar) (hk : ∀ b, a = some b → b.block < H → w'.heap[b.block]? = w.heap[b.block]?) (hH : H ≤ H') : AR w' H' a cap ar := by
  obtain ⟨h1, h2, b, o, h3, h4⟩ := h
  refine ⟨h1, h2, b, o, fun hn => ⟨(h3 hn).1, by have := (h3 hn).2; omega⟩, fun i t hi => ?_⟩
  obtain ⟨g1, g2⟩ := h3 (by rintro rfl; simp at hi)
  have hb := hk _ g1 g2
  obtain ⟨q1, q2⟩ := h4 i t hi
  exact ⟨(World.cell?_of_block (w := w) (a := ⟨b, o + i * 2, none⟩) hb).trans q1, (World.cell?_of_block (w := w) (a := ⟨b, o + i * 2 + 1, none⟩) hb).trans q2⟩
set_option maxRecDepth 100000 in
set_option maxHeartbeats 4000000 in
theorem leave_any (J M1 M2 M3 : Nat) (bad : Bool) (U : Int → Bool) (k l d : Int) (a2 : Option Addr) (n2 cap2 : Nat) (ar : List (Int × Bool)) (a : Option Addr) (cap : Nat) (w : World) (hJ : JC w J M1 M2 M3 bad) (hU : UM w M3 U) (hA : AR w w.heap.size a cap ar) (hAJ : ∀ b, a = some b → b.block ≠ J ∧ b.block ≠ M3) (hk : k = 12 ∨ k = 13) (hl : l ≠ 0) (hl2 : -1 ≤ l) :
    Calls Tryz.prog 53 #[.pointer (some ⟨J, 0, none⟩), .agg #[.int .i64 k, .int .i64 l, .int .i64 d, .slice a2 n2 cap2], .slice a ar.length cap] w fun e w' => e = .returned (.tuple #[]) ∧ JC w' J M1 M2 M3 (bad || !(lvS ar k l)) ∧ UM w' M3 (fun m => U m || m == l) ∧ Fx [J, M3] w.heap.size w w' := by
  have hJM : J ≠ M3 := by obtain ⟨kvs, h1, _⟩ := hU; exact hJ.ne h1
  have hMl := hU.lt
  have hJl := hJ.lt
  obtain ⟨W1, hW1⟩ : ∃ W1, W1 = (w.alloc (.cells #[.int .i64 k, .int .i64 l, .int .i64 d, .slice a2 n2 cap2] 27)).drew := ⟨_, rfl⟩
  have hbox : W1.heap[w.heap.size]? = some (.cells #[.int .i64 k, .int .i64 l, .int .i64 d, .slice a2 n2 cap2] 27) := by rw [hW1]; exact blk_new w _ 27
  have hold : ∀ q, q < w.heap.size → W1.heap[q]? = w.heap[q]? := fun q hq => by rw [hW1]; exact Below.heap_alloc _ _ _ hq
  have hz1 : W1.heap.size = w.heap.size + 1 := by rw [hW1]; simp
  obtain ⟨es, clk, hupd, hU2⟩ := (hU.keep (hold M3 hMl)).upd l
  have hJ1 := hJ.keep (hold J hJl)
  obtain ⟨W2, hW2⟩ : ∃ W2, W2 = setObj W1 M3 (.map es clk) := ⟨_, rfl⟩
  rw [← hW2] at hupd hU2
  have hsz2 : W2.heap.size = w.heap.size + 1 := by rw [hW2, setObj_size, hz1]
  have hJ2 : JC W2 J M1 M2 M3 bad := hJ1.keep (by rw [hW2]; exact setObj_heap _ _ _ _ hJM)
  have hbox2 : W2.heap[w.heap.size]? = some (.cells #[.int .i64 k, .int .i64 l, .int .i64 d, .slice a2 n2 cap2] 27) := by rw [hW2, setObj_heap _ _ _ _ (by omega)]; exact hbox
  have hF2 : Fx [J, M3] w.heap.size w W2 := by rw [hW2, hW1]; exact (((Fx.refl _ _ _).alloc (Nat.le_refl _) _).drew).setObj (.inl (by simp)) _
  have hA2 : AR W2 w.heap.size a cap ar := hA.keep (fun b hb hbl => hF2.blk _ hbl (by have := hAJ b hb; simp [this.1, this.2])) (Nat.le_refl _)
  have j0 : ∀ o, W1.cell? ⟨J, o, none⟩ = _ := blk_cell hJ1
  have b0 : ∀ o, W1.cell? ⟨w.heap.size, o, none⟩ = _ := blk_cell hbox
  have hlw : w.heap.size < W1.heap.size := by omega
  have hJw : J < W1.heap.size := by omega
  have c2 : W1.cell? ⟨J, 2, none⟩ = some (.map (some M3)) := j0 2
  have b1 : W1.cell? ⟨w.heap.size, 1, none⟩ = some (.int .i64 l) := b0 1
  rw [hW1] at c2 b1 hupd
  have hlen : ar.length * 16 ≤ 140737488355328 := hA.2.1
  obtain ⟨B, hB⟩ : ∃ B, B = w.heap.size := ⟨_, rfl⟩
  rw [← hB] at hbox2
  have HJ2 := Lib.hid hJ2
  have HU2 := Lib.hid hU2
  have HF2 := Lib.hid hF2
  have HA2 := Lib.hid hA2
  have HBX := Lib.hid hbox2
  have HBB := Lib.hid hB
  have HSZ := Lib.hid hsz2
  have HAJ := Lib.hid hAJ
  clear hJ hU hA hJ1 hU2 hJ2 hF2 hA2 hbox hbox2 hold hz1 hW1 hW2 hsz2 j0 b0 hB hAJ
  go_enter Tryz.func53, Tryz.ntmps53
  go_wp2_with fail
  go_region
  clear hupd c2 b1 hlw hJw
  go_wp2_with fail
  rw [← HBB.out]
  go_loopg [16] ar.length (fun g vi wr => ∃ i : Nat, i + g = ar.length ∧ vi = .int .i64 i ∧ Hid (lvS (ar.take i) k l = false) ∧ Fx [] W2.heap.size W2 wr)
  case atStart => exact ⟨0, by omega, rfl, rfl, Fx.refl _ _ _⟩
  case round =>
    obtain ⟨i, hi, rfl, hf, hfx⟩ := hrel
    have HFX := Lib.hid hfx
    by_cases hlt : i < ar.length
    · obtain ⟨t, ht⟩ : ∃ t, ar[i]? = some t := ⟨_, List.getElem?_eq_getElem hlt⟩
      obtain ⟨_, _, b, o, ha, hcs⟩ := HA2.out
      obtain ⟨rfl, hbl⟩ := ha (by rintro rfl; simp at hlt)
      obtain ⟨q1, q2⟩ := hcs i t ht
      have hszw := HSZ.out
      have hBB := HBB.out
      have hszr := hfx.size
      have d0 : wr.cell? ⟨b, o + i * 2, none⟩ = _ := (hfx.cell (p := ⟨b, o + i * 2, none⟩) (by show b < _; omega) (by simp)).trans q1
      have d1 : wr.cell? ⟨b, o + i * 2 + 1, none⟩ = _ := (hfx.cell (p := ⟨b, o + i * 2 + 1, none⟩) (by show b < _; omega) (by simp)).trans q2
      have hbr : b < wr.heap.size := by omega
      have hBr : B < wr.heap.size := by omega
      have e0 : ∀ o, W2.cell? ⟨B, o, none⟩ = _ := blk_cell HBX.out
      have x0 : wr.cell? ⟨B, 0, none⟩ = some (.int .i64 k) := (hfx.cell (p := ⟨B, 0, none⟩) (by show B < _; omega) (by simp)).trans (e0 0)
      have x1 : wr.cell? ⟨B, 1, none⟩ = some (.int .i64 l) := (hfx.cell (p := ⟨B, 1, none⟩) (by show B < _; omega) (by simp)).trans (e0 1)
      have hiI : (i : Int) < (ar.length : Int) := by omega
      have hi0 : (0 : Int) ≤ (i : Int) := by omega
      have hs : lvS (ar.take (i + 1)) k l = (lvS (ar.take i) k l || (t.1 == l && !(l == -1) && (t.2 || k == 12))) := by
        unfold lvS
        rw [List.take_add_one, ht, List.any_append]
        simp
      have hall : (t.1 == l && !(l == -1) && (t.2 || k == 12)) = true → lvS ar k l = true := by
        intro h
        unfold lvS
        exact List.any_eq_true.2 ⟨t, List.mem_of_getElem? ht, h⟩
      have HS := Lib.hid hs
      have HALL := Lib.hid hall
      obtain ⟨tl, tb⟩ := t
      clear ht hcs q1 q2 hszw hBB hs hall e0 hfx
      by_cases h1 : tl = l
      · have q1 : (tl == l) = true := by simpa using h1
        by_cases h2 : l = -1
        · have q2 : ¬ 0 < l := by omega
          have HN := Lib.hid (show lvS (ar.take (i + 1)) k l = false by rw [HS.out, hf.out]; simp [h2])
          clear h1 h2
          go_wp2_with fail
          go_roundg (gk - 1)
          case measure => omega
          exact ⟨i + 1, by omega, by simp, HN.out, HFX.out.alloc hszr _⟩
        · have q2 : 0 < l := by omega
          have q3 : (l == -1) = false := by simpa using h2
          clear h1 h2
          cases tb with
          | true =>
            go_wp2_with fail
            refine bodyPost_ret (results_none rfl _ _ _) rfl ?_
            have hb3 : Below W2.heap.size W2 (wr.alloc (.cells #[.int .i64 tl, .bool true] 88)) := ((HFX.out.below (Nat.le_refl _) (fun k hk => by cases hk)).alloc hszr _)
            exact ⟨rfl, by rw [HALL.out (by rw [q1, q3]; rfl), Bool.not_true, Bool.or_false]; exact HJ2.out.keep (hb3.block J HJ2.out.lt), HU2.out.keep (hb3.block M3 HU2.out.lt), HF2.out.trans (Fx.of (hb3.mono HF2.out.size))⟩
          | false =>
            rcases hk with rfl | rfl
            · go_wp2_with fail
              refine bodyPost_ret (results_none rfl _ _ _) rfl ?_
              have hb3 : Below W2.heap.size W2 (wr.alloc (.cells #[.int .i64 tl, .bool false] 88)) := ((HFX.out.below (Nat.le_refl _) (fun k hk => by cases hk)).alloc hszr _)
              exact ⟨rfl, by rw [HALL.out (by rw [q1, q3]; rfl), Bool.not_true, Bool.or_false]; exact HJ2.out.keep (hb3.block J HJ2.out.lt), HU2.out.keep (hb3.block M3 HU2.out.lt), HF2.out.trans (Fx.of (hb3.mono HF2.out.size))⟩
            · have HN := Lib.hid (show lvS (ar.take (i + 1)) 13 l = false by rw [HS.out, hf.out]; simp)
              go_wp2_with fail
              go_roundg (gk - 1)
              case measure => omega
              exact ⟨i + 1, by omega, by simp, HN.out, HFX.out.alloc hszr _⟩
      · have q1 : (tl == l) = false := by simpa using h1
        have HN := Lib.hid (show lvS (ar.take (i + 1)) k l = false by rw [HS.out, hf.out]; simp [q1])
        go_wp2_with fail
        go_roundg (gk - 1)
        case measure => omega
        exact ⟨i + 1, by omega, by simp, HN.out, HFX.out.alloc hszr _⟩
    · have hiI : ¬ (i : Int) < (ar.length : Int) := by omega
      obtain rfl : i = ar.length := by omega
      have h5 := hf.out
      rw [List.take_length] at h5
      have HF := Lib.hid h5
      have hJr := HJ2.out.keep (hfx.blk J HJ2.out.lt (by simp))
      have j0 : ∀ o, wr.cell? ⟨J, o, none⟩ = _ := blk_cell hJr
      have f0 : ∀ o, wr.frozen? ⟨J, o, none⟩ = false := blk_frz hJr
      have c3 : wr.cell? ⟨J, 3, none⟩ = some (.bool bad) := j0 3
      have lJ : J < wr.heap.size := hJr.lt
      have HJR := Lib.hid hJr
      clear hf h5 hfx j0 hJr
      go_wp2_with fail
      go_end0
      exact ⟨rfl, by rw [HF.out, Bool.not_false, Bool.or_true]; exact HJR.out.bad true, (HU2.out.keep (HFX.out.blk M3 HU2.out.lt (by simp))).keep (Below.heap_setCell _ _ _ _ (by show M3 ≠ J; omega)), (HF2.out.trans (Fx.mono HFX.out HF2.out.size (fun k _ hk => by cases hk))).setCell (.inl (by simp)) _⟩
end Go.Proofs.YtpodifbgfcclbaaGreatDoor
