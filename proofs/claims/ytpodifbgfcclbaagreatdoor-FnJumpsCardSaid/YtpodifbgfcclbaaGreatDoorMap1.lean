/- The map of the calls of panic: keys are addresses. -/
import Derived.Test.YtpodifbgfcclbaaGreatDoorProg
import Derived.Test.YtpodifbgfcclbaaGreatDoorMem1
import Derived.LaidEqlPtr
import Derived.KernelRfl
set_option linter.unusedVariables false
set_option linter.unusedSimpArgs false
namespace Go.Proofs.YtpodifbgfcclbaaGreatDoor
open Go.RowKit

/-- The entries of the map say of just the calls ps that they are calls of panic. -/
def PEs (es : List MapEntry) (ps : List Nat) : Prop := es.map (fun e => (e.key, e.val)) = ps.map fun c => (.pointer (some ⟨c, 0, none⟩), .bool true)
structure PM (w : World) (R : Nat) (ps : List Nat) : Prop where
  map : ∃ es clk, w.heap[R]? = some (.map es clk) ∧ PEs es.toList ps
  own : ∀ c ∈ ps, Own w c 214

theorem info214 : ∃ j, Tryz.prog.info? 214 = some j ∧ j.size = 5 := by
  have h : (Tryz.prog.info? 214).map (fun j => j.size) = some 5 := by kernel_rfl
  cases hj : Tryz.prog.info? 214 with
  | none => rw [hj] at h; cases h
  | some j => rw [hj] at h; exact ⟨j, rfl, by simpa using h⟩
theorem run_equal_call (a b : Nat) (w : World) (ha : Own w a 214) (hb : Own w b 214) :
    (Op.equal 119 (.pointer (some ⟨a, 0, none⟩)) (.pointer (some ⟨b, 0, none⟩))).run Tryz.prog w = .ok (a == b) w := by
  obtain ⟨j, hj, hs⟩ := info214
  obtain ⟨ca, ha⟩ := ha
  obtain ⟨cb, hb⟩ := hb
  have hp := Tryz.underlying119
  by_cases h : a = b
  · subst h
    have h : ∀ d : Nat, (Op.equalIn (d + 1) 119 (.pointer (some ⟨a, 0, none⟩)) (.pointer (some ⟨a, 0, none⟩))).run Tryz.prog w = .ok true w := fun d => by
      simp [Op.equalIn, run_underlying hp, sizeOf, typeInfo, hj, run_sameAddr_same]
    simp [Op.equal, Op.maxDepth, h 9999]
  · have hne : (⟨a, 0, none⟩ : Addr) ≠ ⟨b, 0, none⟩ := by simp [h]
    have h2 : ∀ d : Nat, (Op.equalIn (d + 1) 119 (.pointer (some ⟨a, 0, none⟩)) (.pointer (some ⟨b, 0, none⟩))).run Tryz.prog w = .ok false w := fun d => by
      simp [Op.equalIn, run_underlying hp, sizeOf, typeInfo, hj, hs, run_sameAddr_other w hne ha hb]
    have h3 : (a == b) = false := by simpa using h
    simp [Op.equal, Op.maxDepth, h2 9999, h3]
theorem run_findAsking (c : Nat) (w : World) (hc : Own w c 214) : ∀ (es : List MapEntry) (ps : List Nat) (i : Nat), PEs es ps → (∀ c ∈ ps, Own w c 214) →
    ∃ r, (Instr.findAsking 119 (.pointer (some ⟨c, 0, none⟩)) es i).run Tryz.prog w = .ok r w ∧ ((ps.contains c = true ∧ ∃ i, r = some (i, .bool true)) ∨ (ps.contains c = false ∧ r = none))
  | [], ps, i, h, _ => by
    cases ps with
    | nil => exact ⟨none, by simp [Instr.findAsking], .inr ⟨rfl, rfl⟩⟩
    | cons p ps => simp [PEs] at h
  | e :: es, ps, i, h, ho => by
    cases ps with
    | nil => simp [PEs] at h
    | cons p ps =>
      simp only [PEs, List.map_cons, List.cons.injEq, Prod.mk.injEq] at h
      obtain ⟨⟨h1, h2⟩, h3⟩ := h
      have he := run_equal_call c p w hc (ho p (by simp))
      by_cases hcp : c = p
      · subst hcp
        refine ⟨some (i, .bool true), ?_, .inl ⟨by simp, i, rfl⟩⟩
        simp [Instr.findAsking, h1, he, h2]
      · obtain ⟨r, hr, hh⟩ := run_findAsking c w hc es ps (i + 1) h3 (fun x hx => ho x (by simp [hx]))
        have hcp' : (c == p) = false := by simpa using hcp
        refine ⟨r, ?_, ?_⟩
        · simp [Instr.findAsking, h1, he, hcp', hr]
        · rw [show (p :: ps).contains c = ps.contains c from by simp [hcp]]; exact hh
theorem findNow_ptr (te : TypeId) (c : Nat) : ∀ (es : List MapEntry) (ps : List Nat) (i : Nat), PEs es ps → Instr.findNow (.pointer te) (.pointer (some ⟨c, 0, none⟩)) es i = if ps = [] then some none else none
  | [], [], i, _ => rfl
  | [], _ :: _, i, h => by simp [PEs] at h
  | _ :: _, [], i, h => by simp [PEs] at h
  | e :: es, p :: ps, i, h => by
    simp only [PEs, List.map_cons, List.cons.injEq, Prod.mk.injEq] at h
    simp [Instr.findNow, Instr.sameNow]
theorem run_findKey (c : Nat) (w : World) (hc : Own w c 214) (es : List MapEntry) (ps : List Nat) (h : PEs es ps) (ho : ∀ c ∈ ps, Own w c 214) :
    ∃ r, (Instr.findKey 119 (.pointer (some ⟨c, 0, none⟩)) es).run Tryz.prog w = .ok r w ∧ ((ps.contains c = true ∧ ∃ i, r = some (i, .bool true)) ∨ (ps.contains c = false ∧ r = none)) := by
  obtain ⟨r, hr, hh⟩ := run_findAsking c w hc es ps 0 h ho
  have hp := Tryz.underlying119
  cases ps with
  | nil =>
    refine ⟨none, ?_, .inr ⟨rfl, rfl⟩⟩
    simp [Instr.findKey, run_underlying hp, findNow_ptr 214 c es [] 0 h]
  | cons p ps =>
    refine ⟨r, ?_, hh⟩
    simp [Instr.findKey, run_underlying hp, findNow_ptr 214 c es (p :: ps) 0 h, hr]
theorem run_checkKey (b : Bool) (v : Value) (w : World) : (Instr.checkKey b 10000 119 v).run Tryz.prog w = .ok () w := by
  have hp := Tryz.underlying119
  have h : ∀ n, (Instr.checkKey b (n + 1) 119 v).run Tryz.prog w = .ok () w := fun n => by
    simp [Instr.checkKey, run_underlying hp]
  exact h 9999
theorem run_lookup_pan (R c : Nat) (ps : List Nat) (w : World) (hc : Own w c 214) (hm : PM w R ps) :
    (Instr.lookup 44 (.map (some R)) (.pointer (some ⟨c, 0, none⟩)) false).run Tryz.prog w = .ok (.bool (ps.contains c)) w := by
  obtain ⟨⟨es, clk, hR, hes⟩, ho⟩ := hm
  obtain ⟨r, hr, hh⟩ := run_findKey c w hc es.toList ps hes ho
  have hz : (zeroValue 4).run Tryz.prog w = .ok (.bool false) w := by kernel_rfl
  have hp := Tryz.underlying44
  have hg : Sem.run Tryz.prog (Sem.getObj R Sem.pure) w = .ok (.map es clk) w := by simp [Sem.run, hR]
  rcases hh with ⟨h1, i, rfl⟩ | ⟨h1, rfl⟩
  · rw [h1]
    simp [Instr.lookup, run_underlying hp, getObj, hg, run_checkKey, hr]
  · rw [h1]
    simp [Instr.lookup, run_underlying hp, getObj, hg, run_checkKey, hr, hz]
/-- The world with another map in block R. -/
def setObj (w : World) (R : Nat) (o : Obj) : World := { w with heap := w.heap.setIfInBounds R o }
theorem setObj_heap (w : World) (R : Nat) (o : Obj) (k : Nat) (h : k ≠ R) : (setObj w R o).heap[k]? = w.heap[k]? := by
  simp only [setObj, Array.getElem?_setIfInBounds]
  rw [if_neg (by omega)]
theorem setObj_size (w : World) (R : Nat) (o : Obj) : (setObj w R o).heap.size = w.heap.size := by simp [setObj]
theorem setObj_same (w : World) (R : Nat) (o : Obj) (h : R < w.heap.size) : (setObj w R o).heap[R]? = some o := by
  simp [setObj, Array.getElem?_setIfInBounds, h]
theorem run_update_pan (R c : Nat) (ps : List Nat) (w : World) (hc : Own w c 214) (hm : PM w R ps) (hn : ps.contains c = false) (hR : c ≠ R) (hRp : ∀ p ∈ ps, p ≠ R) :
    ∃ o, (Instr.mapUpdate 44 (.map (some R)) (.pointer (some ⟨c, 0, none⟩)) (.bool true)).run Tryz.prog w = .ok () (setObj w R o) ∧ PM (setObj w R o) R (ps ++ [c]) := by
  obtain ⟨⟨es, clk, hR', hes⟩, ho⟩ := hm
  have hlt : R < w.heap.size := by
    rcases Nat.lt_or_ge R w.heap.size with h | h
    · exact h
    · rw [Array.getElem?_eq_none h] at hR'; cases hR'
  obtain ⟨r, hr, hh⟩ := run_findKey c w hc es.toList ps hes ho
  have hp := Tryz.underlying44
  have hg : Sem.run Tryz.prog (Sem.getObj R Sem.pure) w = .ok (.map es clk) w := by simp [Sem.run, hR']
  rcases hh with ⟨h1, i, rfl⟩ | ⟨h1, rfl⟩
  · rw [hn] at h1; cases h1
  · refine ⟨.map (es.push { key := .pointer (some ⟨c, 0, none⟩), val := .bool true, born := clk }) (clk + 1), ?_, ⟨⟨_, _, setObj_same w R _ hlt, ?_⟩, ?_⟩⟩
    · have hs : ∀ o, Sem.run Tryz.prog (Sem.setObj R o (Sem.pure ())) w = .ok () (setObj w R o) := fun o => by simp [Sem.run, hR', setObj]
      simp [Instr.mapUpdate, run_underlying hp, getObj, Go.setObj, hg, run_checkKey, hr, hs]
    · unfold PEs at hes ⊢
      simp [hes]
    · intro p hp
      have hne : p ≠ R := by
        rcases List.mem_append.1 hp with h | h
        · exact hRp p h
        · simp at h; omega
      rcases List.mem_append.1 hp with h | h
      · obtain ⟨cs, hcs⟩ := ho p h
        exact ⟨cs, by rw [setObj_heap _ _ _ _ hne]; exact hcs⟩
      · simp at h
        subst h
        obtain ⟨cs, hcs⟩ := hc
        exact ⟨cs, by rw [setObj_heap _ _ _ _ hne]; exact hcs⟩
end Go.Proofs.YtpodifbgfcclbaaGreatDoor
